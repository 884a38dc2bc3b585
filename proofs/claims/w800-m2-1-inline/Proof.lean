import JvmDerived
import JvmDerived.Pilot.@@N@@Statement
import JvmDerived.Pilot.@@N@@Code
set_option linter.unusedVariables false
set_option linter.unusedSimpArgs false
namespace Jvm.OwnKit
open Sem ClassFile Op Lib Bundle Jvm.Stand Jvm.Free Jvm.LawKit Jvm.RoadKit
section Kit0
variable {p : Program} {l : Launch} {e : Env} {R : Room} {s : State} {m : MethodId} {args : Array Value} {below : List Frame} {meth : Method} {c : Code} {Z T : State} {a0 : Array Value} {EL : List (String × Nat)} {vm vm0 vm1 vm2 : Vm} {h h' h2 : Heap} {locs : List Loc} {cells slots : Nat}
/-- what a walk keeps; where there are no constants it interns nothing -/
def CHq (Z : State) (EL : List (String × Nat)) (vm : Vm) (h : Heap) (vm1 : Vm) (h' : Heap) : Prop := CHv Z EL vm1 h' ∧ h.size ≤ h'.size ∧ ((∀ y, Bk Z EL vm1 h' y → Bk Z EL vm h y ∨ h.size ≤ y) ∧ (EL = [] → (Z.setVm vm).WarmedH vm1))
theorem CHq.up (A : CHr Z EL vm h vm1 h') (W : EL = [] → (Z.setVm vm).WarmedH vm1) : CHq Z EL vm h vm1 h' := ⟨A.1, A.2.1, A.2.2, W⟩
theorem CHq.dn (A : CHq Z EL vm h vm1 h') : CHr Z EL vm h vm1 h' := ⟨A.1, A.2.1, A.2.2.1⟩
theorem CHq.refl (H : CHv Z EL vm h) : CHq Z EL vm h vm h := CHq.up (CHr.refl H) (fun _ => State.WarmedH.refl (Z.setVm vm))
theorem CHq.trans (A : CHq Z EL vm h vm1 h') (B : CHq Z EL vm1 h' vm2 h2) : CHq Z EL vm h vm2 h2 := CHq.up (A.dn.trans B.dn) (fun q => State.WarmedH.trans (t := Z.setVm vm1) (A.2.2.2 q) (B.2.2.2 q))
theorem CHq.safe (A : CHq Z EL vm h vm1 h') {x : Addr} (hx : x < h.size) (S : Safe Z EL vm h x) : Safe Z EL vm1 h' x := A.dn.safe hx S
theorem CHq.ext (E : Ext h h') (H : CHv Z EL vm h) : CHq Z EL vm h vm h' := CHq.up (CHr.ext E H) (fun _ => State.WarmedH.refl (Z.setVm vm))
theorem CHq.keep {ws : List Addr} (K : Keep h h' ws) (hs : ∀ x ∈ ws, Safe Z EL vm h x) (H : CHv Z EL vm h) : CHq Z EL vm h vm h' := CHq.up (CHr.keep K hs H) (fun _ => State.WarmedH.refl (Z.setVm vm))
theorem CHq.wr {a : Addr} {sl : Nat} {v : Value} (W : Wr h h' a sl v) (S : Safe Z EL vm h a) (H : CHv Z EL vm h) : CHq Z EL vm h vm h' := CHq.up (CHr.wr W S H) (fun _ => State.WarmedH.refl (Z.setVm vm))
theorem CHq.at (X : Stand p l e R (s.setVm vm0) m args below meth c T locs cells slots) (hZ : Z.Warmed39 vm0) (w : EW Z a0 EL) (H : CHv Z EL vm0 h) : CHq Z EL vm0 h T.vm h := CHq.up (CHv.at X hZ w H) (fun _ => State.WarmedH.of_rootvm (s := s.setVm vm0) rfl X.warmed)
end Kit0
end Jvm.OwnKit
namespace Jvm.OwnKit
open Sem ClassFile Op Lib Bundle Jvm.Stand Jvm.Free Jvm.LawKit Jvm.RoadKit
section Kit
variable {p : Program} {l : Launch} {e : Env} {R : Room} {s : State} {m : MethodId} {args : Array Value} {below : List Frame} {meth : Method} {c : Code} {Z : State} {a0 : Array Value} {EL : List (String × Nat)} {own : String} {Q : Option Value → Vm → Heap → Prop} {vm : Vm} {h : Heap} {cells slots : Nat} {g : JFrame}
/-- the k-th word -/
theorem ow {L : List Jvm.Cond} (hw : ∀ d ∈ L, d.before a0 Z = true) (k : Nat) {d : Jvm.Cond} (q : L[k]? = some d) : d.before a0 Z = true := hw _ (List.mem_of_getElem? q)
abbrev vr (a : Addr) : Slot := .val (.ref a)
abbrev vi (x : Int32) : Slot := .val (.int x)
abbrev un : Slot := .unset
/-- a standing place of a walk that may have interned: tables vm, heap h, usage -/
def St (p : Program) (l : Launch) (e : Env) (R : Room) (s : State) (m : MethodId) (args : Array Value) (below : List Frame) (meth : Method) (c : Code) (Z : State) (a0 : Array Value) (EL : List (String × Nat)) (own : String) (vm : Vm) (T : State) (h : Heap) (cells slots : Nat) : Prop :=
  ∃ (locs : List Loc) (k0 : Nat), Stand p l e R (s.setVm vm) m args below meth c T locs cells slots ∧ T.heap = h ∧ Z.Warmed39 vm ∧ vm.findClass own = some m.cls ∧ s.Since vm k0 ∧ k0 ≤ h.size ∧ Fr Z.heap.size locs ∧ CHq Z EL s.vm s.heap vm h ∧ Ext Z.heap s.heap ∧ EW Z a0 EL ∧ p.tables.exec = Jvm.exec ∧ meth.locks = false
/-- from every such place with this frame the method ends as Q says -/
def Go (p : Program) (l : Launch) (e : Env) (R : Room) (s : State) (m : MethodId) (args : Array Value) (below : List Frame) (meth : Method) (c : Code) (Z : State) (a0 : Array Value) (EL : List (String × Nat)) (own : String) (Q : Option Value → Vm → Heap → Prop) (vm : Vm) (h : Heap) (cells slots : Nat) (g : JFrame) : Prop :=
  ∀ T, St p l e R s m args below meth c Z a0 EL own vm T h cells slots → ∃ s₂ o, Steps p.tables e below (T.setTop g) s₂ ∧ s₂.status = .running ∧ Ended s₂ below o ∧
    ∃ v L, o = .returned v ∧ (Fr Z.heap.size L ∧ Q v s₂.vm s₂.heap) ∧ CHq Z EL s.vm s.heap s₂.vm s₂.heap ∧ ReturnedEndW s o s₂ L R.cells R.slots
/-- a plain step -/
theorem gs (g' : JFrame) (st : ∀ T target, At T m c below → Steps p.tables e below (T.setTop g') target → Steps p.tables e below (T.setTop g) target)
    (k : Go p l e R s m args below meth c Z a0 EL own Q vm h cells slots g') : Go p l e R s m args below meth c Z a0 EL own Q vm h cells slots g := fun T X => by
  obtain ⟨s2, o, q1, q2⟩ := k T X
  obtain ⟨locs, k0, X', -⟩ := X
  exact ⟨s2, o, st _ _ X'.here q1, q2⟩
theorem gat (g' : JFrame) (q : g = g') (k : Go p l e R s m args below meth c Z a0 EL own Q vm h cells slots g') : Go p l e R s m args below meth c Z a0 EL own Q vm h cells slots g := q ▸ k
/-- a step that asks the standing place -/
theorem gx (g' : JFrame) (st : ∀ T locs, Stand p l e R (s.setVm vm) m args below meth c T locs cells slots → Z.Warmed39 vm → vm.findClass own = some m.cls → T.heap = h → ∀ target, Steps p.tables e below (T.setTop g') target → Steps p.tables e below (T.setTop g) target)
    (k : Go p l e R s m args below meth c Z a0 EL own Q vm h cells slots g') : Go p l e R s m args below meth c Z a0 EL own Q vm h cells slots g := fun T X => by
  obtain ⟨s2, o, q1, q2⟩ := k T X
  obtain ⟨locs, k0, X', eT, hZ, hown, -⟩ := X
  exact ⟨s2, o, st _ _ X' hZ hown eT _ q1, q2⟩
/-- a step to another state, the heap as it was -/
theorem gy (g' : JFrame) (st : ∀ T locs, Stand p l e R (s.setVm vm) m args below meth c T locs cells slots → Z.Warmed39 vm → vm.findClass own = some m.cls → T.heap = h → ∃ T', Stand p l e R (s.setVm vm) m args below meth c T' locs cells slots ∧ T'.heap = h ∧ ∀ target, Steps p.tables e below (T'.setTop g') target → Steps p.tables e below (T.setTop g) target)
    (k : Go p l e R s m args below meth c Z a0 EL own Q vm h cells slots g') : Go p l e R s m args below meth c Z a0 EL own Q vm h cells slots g := fun T X => by
  obtain ⟨locs, k0, X', eT, hZ, hown, r⟩ := X
  obtain ⟨T', X1, e1, s1⟩ := st T locs X' hZ hown eT
  obtain ⟨s2, o, q1, q2⟩ := k T' ⟨locs, k0, X1, e1, hZ, hown, r⟩
  exact ⟨s2, o, s1 _ q1, q2⟩
/-- what the standing place knows -/
theorem ginfo (k : Z.Warmed39 vm → CHv Z EL vm h → Ext Z.heap h → Go p l e R s m args below meth c Z a0 EL own Q vm h cells slots g) : Go p l e R s m args below meth c Z a0 EL own Q vm h cells slots g := fun T X => by
  have X0 := X
  obtain ⟨locs, k0, X', eT, hZ, hown, hS, hk, N, H, E0, r⟩ := X
  refine k hZ H.1 ⟨?_, ?_⟩ T X0
  · exact Nat.le_trans E0.1 H.2.1
  · intro b cl hcl
    have hb := (Array.getElem?_eq_some_iff.mp hcl).1
    obtain ⟨c', h1, h2, -, h4⟩ := X'.same.2.2.2.2.2 b cl (show s.heap[b]? = some cl from E0.2 b cl hcl)
    have hsl : c'.slots = cl.slots := Array.ext_getElem? fun i => h4 i fun hm => absurd (N _ hm) (Nat.not_le.mpr hb)
    have hcc : c' = cl := by rw [h2, hsl]
    have h1' : T.heap[b]? = some c' := h1
    rw [← eT, ← hcc]; exact h1'
theorem gmono {cells' slots' : Nat} (hc : cells ≤ cells') (hs : slots ≤ slots') (k : Go p l e R s m args below meth c Z a0 EL own Q vm h cells' slots' g) : Go p l e R s m args below meth c Z a0 EL own Q vm h cells slots g := fun T X => by
  obtain ⟨locs, k0, X', r⟩ := X
  exact k T ⟨locs, k0, { X' with same := X'.same.mono hc hs }, r⟩
/-- the heap grows at its end -/
theorem gnew {cells' slots' : Nat} {P : Heap → Prop} (g' : Heap → JFrame)
    (st : ∀ T locs, Stand p l e R (s.setVm vm) m args below meth c T locs cells slots → Z.Warmed39 vm → vm.findClass own = some m.cls → T.heap = h → ∃ T' h', Stand p l e R (s.setVm vm) m args below meth c T' locs cells' slots' ∧ T'.heap = h' ∧ Ext h h' ∧ P h' ∧ ∀ target, Steps p.tables e below (T'.setTop (g' h')) target → Steps p.tables e below (T.setTop g) target)
    (k : ∀ h', Ext h h' → CHq Z EL vm h vm h' → P h' → Z.heap.size ≤ h.size → Safe Z EL vm h' h.size → Go p l e R s m args below meth c Z a0 EL own Q vm h' cells' slots' (g' h')) : Go p l e R s m args below meth c Z a0 EL own Q vm h cells slots g := fun T X => by
  obtain ⟨locs, k0, X', eT, hZ, hown, hS, hk, N, H, E0, r⟩ := X
  obtain ⟨T', h', X1, e1, E, hP, s1⟩ := st T locs X' hZ hown eT
  obtain ⟨s2, o, q1, q2⟩ := k h' E (CHq.ext E H.1) hP (Nat.le_trans E0.1 H.2.1) (Safe.ext E H.1 (Safe.new (Nat.le_refl _))) T' ⟨locs, k0, X1, e1, hZ, hown, hS, Nat.le_trans hk E.1, N, H.trans (CHq.ext E H.1), E0, r⟩
  exact ⟨s2, o, s1 _ q1, q2⟩
/-- one place is written -/
theorem gwr (g' : JFrame) {a : Addr} {sl : Nat} {v : Value} (ha : Z.heap.size ≤ a) (hs : Z.vm.Alike vm → Safe Z EL vm h a)
    (st : ∀ T locs, Stand p l e R (s.setVm vm) m args below meth c T locs cells slots → Z.Warmed39 vm → vm.findClass own = some m.cls → T.heap = h → ∃ T' h', Stand p l e R (s.setVm vm) m args below meth c T' (locs ++ [⟨a, sl⟩]) cells slots ∧ T'.heap = h' ∧ Wr h h' a sl v ∧ ∀ target, Steps p.tables e below (T'.setTop g') target → Steps p.tables e below (T.setTop g) target)
    (k : ∀ h', Wr h h' a sl v → CHq Z EL vm h vm h' → Go p l e R s m args below meth c Z a0 EL own Q vm h' cells slots g') : Go p l e R s m args below meth c Z a0 EL own Q vm h cells slots g := fun T X => by
  obtain ⟨locs, k0, X', eT, hZ, hown, hS, hk, N, H, E0, r⟩ := X
  obtain ⟨T', h', X1, e1, W, s1⟩ := st T locs X' hZ hown eT
  obtain ⟨s2, o, q1, q2⟩ := k h' W (CHq.wr W (hs hZ.alike) H.1) T' ⟨_, k0, X1, e1, hZ, hown, hS, by rw [W.size]; exact hk, Fr.snoc X1 N ha, H.trans (CHq.wr W (hs hZ.alike) H.1), E0, r⟩
  exact ⟨s2, o, s1 _ q1, q2⟩
/-- the end -/
theorem gret {v : Option Value} (hv : meth.sig.returnType = none → v = none) (hc : cells ≤ R.cells) (hs : slots ≤ R.slots)
    (st : ∀ T locs fs, Stand p l e R (s.setVm vm) m args below meth c T locs cells slots → (∀ (f : JFrame) (acts : List Action), f.method = m → f.locked = none → f.entered = [] → (doReturn e (T.setTop f) acts v).1 = T.setFrames fs) → Steps p.tables e below (T.setTop g) (T.setFrames fs))
    (hq : ∀ vm', CHq Z EL vm h vm' h → Q v vm' h) : Go p l e R s m args below meth c Z a0 EL own Q vm h cells slots g := fun T X => by
  obtain ⟨locs, k0, X', eT, hZ, hown, hS, hk, N, H, E0, hw, hx, hlk⟩ := X
  obtain ⟨fs, hr, hrun, hend, hW⟩ := X'.leaveW hS (by rw [eT]; exact hk) hv hlk
  have C1 : CHq Z EL vm h T.vm h := CHq.at X' hZ hw H.1
  refine ⟨_, _, st T locs fs X' hr, hrun, hend, v, locs, rfl, ⟨N, ?_⟩, ?_, ?_⟩
  · show Q v T.vm T.heap
    rw [eT]; exact hq _ C1
  · show CHq Z EL s.vm s.heap T.vm T.heap
    rw [eT]; exact H.trans C1
  · exact ⟨hW.1, hW.2.1, hW.2.2.1, hW.2.2.2.mono hc hs⟩
theorem gretI {pc : Nat} {Ls : Array Slot} {z : Int32} {rest : List Value} (hx : p.tables.exec = Jvm.exec) (hret : meth.sig.returnType = some .int) (hd : decode c.code pc = .ok (.ireturn, 1)) (hc : cells ≤ R.cells) (hs : slots ≤ R.slots)
    (hq : ∀ vm', CHq Z EL vm h vm' h → Q (some (.int z)) vm' h) : Go p l e R s m args below meth c Z a0 EL own Q vm h cells slots (mkF m pc Ls (.int z :: rest)) :=
  gret (v := some (.int z)) (fun q => by rw [hret] at q; cases q) hc hs (fun T locs fs X hr => retOut X hx hret rfl (Or.inl ⟨rfl, Or.inl rfl, z, rfl⟩) hd hr) hq
theorem gretN {t : FieldType} {pc : Nat} {Ls : Array Slot} {z : Int32} {rest : List Value} (hx : p.tables.exec = Jvm.exec) (hret : meth.sig.returnType = some t) (ht : t = .boolean ∨ t = .byte ∨ t = .char ∨ t = .short) (hd : decode c.code pc = .ok (.ireturn, 1)) (hc : cells ≤ R.cells) (hs : slots ≤ R.slots)
    (hq : ∀ vm', CHq Z EL vm h vm' h → Q (some (.int (nar t z))) vm' h) : Go p l e R s m args below meth c Z a0 EL own Q vm h cells slots (mkF m pc Ls (.int z :: rest)) :=
  gret (v := some (.int (nar t z))) (fun q => by rw [hret] at q; cases q) hc hs (fun T locs fs X hr => retN X hx hret ht hd hr) hq
theorem gretA {t : FieldType} {pc : Nat} {Ls : Array Slot} {v : Value} {rest : List Value} (hx : p.tables.exec = Jvm.exec) (hret : meth.sig.returnType = some t) (ht : t.isReference = true) (hv : v.isRef = true) (hd : decode c.code pc = .ok (.areturn, 1)) (hc : cells ≤ R.cells) (hs : slots ≤ R.slots)
    (hq : ∀ vm', CHq Z EL vm h vm' h → Q (some v) vm' h) : Go p l e R s m args below meth c Z a0 EL own Q vm h cells slots (mkF m pc Ls (v :: rest)) :=
  gret (v := some v) (fun q => by rw [hret] at q; cases q) hc hs (fun T locs fs X hr => retOut X hx hret (by cases t <;> first | (cases ht; done) | (cases v <;> first | rfl | (cases hv; done))) (Or.inr (Or.inr (Or.inr (Or.inr ⟨rfl, ht, hv⟩)))) hd hr) hq
theorem gretV {pc : Nat} {Ls : Array Slot} (hx : p.tables.exec = Jvm.exec) (hret : meth.sig.returnType = none) (hd : decode c.code pc = .ok (.return_, 1)) (hc : cells ≤ R.cells) (hs : slots ≤ R.slots)
    (hq : ∀ vm', CHq Z EL vm h vm' h → Q none vm' h) : Go p l e R s m args below meth c Z a0 EL own Q vm h cells slots (mkF m pc Ls []) :=
  gret (v := none) (fun _ => rfl) hc hs (fun T locs fs X hr => X.returnOut hx hret hd hr) hq
/-! contracts -/
def Met (l : Launch) (y : MethodName) (bytes : ByteArray) (maxL : Nat) (ret : Option FieldType) (ws : List Jvm.Cond) (rm : Room) (Z : State) (EL : List (String × Nat)) (vm0 : Vm) (h0 : Heap) (as' : Array Value) (Q : Option Value → Vm → Heap → Prop) : Prop :=
  MetFree l y (head1 (Jvm.Cond.code y bytes maxL ret :: ws) rm) (fun a U => a = as' ∧ Z.Warmed39 U.vm ∧ U.heap = h0 ∧ CHq Z EL vm0 h0 U.vm h0 ∧ (Z.setVm vm0).Warmed39 U.vm) (fun _ _ _ _ _ => True)
    (fun _ U o U' => ∃ v L, o = .returned v ∧ (Fr Z.heap.size L ∧ Q v U'.vm U'.heap) ∧ CHq Z EL U.vm U.heap U'.vm U'.heap ∧ ReturnedEndW U o U' L rm.cells rm.slots)
theorem Met.of_walk {y : MethodName} {bytes : ByteArray} {maxL : Nat} {ret : Option FieldType} {ws : List Jvm.Cond} {rm : Room} {vm0 : Vm} {h0 : Heap} {as' : Array Value} (L0 : Array Slot) (hpn : plainFor y = true) (X00 : Ext Z.heap h0) (hEL : EW Z a0 EL)
    (hef : ∀ m, entryFrame m as' maxL = mkF m 0 L0 [])
    (walk : ∀ (p : Program) (e : Env) (s : State) (m : MethodId) (below : List Frame) (meth : Method) (c : Code) (vm : Vm), p.tables.exec = Jvm.exec → c.code = bytes → c.maxLocals = maxL → meth.sig.returnType = ret → meth.name = y.name → CHq Z EL vm0 h0 vm h0 → (Z.setVm vm0).Warmed39 vm →
      Go p l e rm s m as' below meth c Z a0 EL y.cls Q vm h0 0 0 (mkF m 0 L0 [])) : Met l y bytes maxL ret ws rm Z EL vm0 h0 as' Q := by
  refine MetFree.of_bodySF hpn hisR ?_
  intro p e s m args below meth c s₁ Bd hml0 hP hK
  obtain ⟨rfl, hZ, hh, hC, hW0⟩ := hP
  have X0 : Stand p l e rm s m args below meth c s₁ [] 0 0 := Stand.of_body Bd
  have e0 : s₁.heap = h0 := by rw [← hh, Bd.state]; rfl
  obtain ⟨s2, o, q1, q2⟩ := walk p e s m below meth c s.vm Bd.exec Bd.bytes hml0 Bd.returns (name_of_methodNamed Bd.named Bd.method).1 hC hW0 s₁
    ⟨[], 0, X0, e0, hZ, findClass_of_methodNamed Bd.named, (State.WarmedH.refl s).since 0, Nat.zero_le _, Fr.nil _, by rw [hh]; exact CHq.refl hC.1, by rw [hh]; exact X00, hEL, Bd.exec, Bd.notSynchronized⟩
  exact ⟨s2, o, by rw [hef]; exact q1, q2⟩
def Pay (l : Launch) (R : Room) (p : Program) (e : Env) (below : List Frame) (s : State) (args : Array Value) (Z : State) (EL : List (String × Nat)) (vm : Vm) (h : Heap) (y : MethodName) (len W : Nat) (as' : Array Value) (rc rs : Nat) (Q : Option Value → Vm → Heap → Prop) : Prop :=
  BackS l R p e below (s.setVm vm) args y len W (fun A a => a = as' ∧ A.U.heap = h ∧ A.cells + rc ≤ R.cells ∧ A.slots + rs ≤ R.slots)
    (fun A _ v B => ∃ L, (Fr Z.heap.size L ∧ Q v B.U.vm B.U.heap) ∧ B.locs = A.locs ++ L ∧ B.cells = A.cells + rc ∧ B.slots = A.slots + rs ∧ CHq Z EL vm h B.U.vm B.U.heap)
theorem Pay.of_met {y : MethodName} {bytes : ByteArray} {maxL : Nat} {ret : Option FieldType} {rm : Room} {len W : Nat} {as' : Array Value} (hM : Met l y bytes maxL ret [] rm Z EL vm h as' Q)
    (wc : (Jvm.Cond.code y bytes maxL ret).before a0 Z = true) (wz : (Jvm.Cond.initialized y.cls).before a0 Z = true) (hf : rm.frames + 1 ≤ R.frames) (hl : W + (maxL + 11) + rm.locals ≤ R.locals) (hZ : Z.Warmed39 vm) (H : CHv Z EL vm h) (hEL : EW Z a0 EL) :
    Pay l R p e below s args Z EL vm h y len W as' rm.cells rm.slots Q :=
  BackS.of_freeW (bytes := bytes) (maxL := maxL) (ret := ret) (E := fun _ first o t L k n => k = rm.cells ∧ n = rm.slots ∧ (∃ v, o = .returned v ∧ (Fr Z.heap.size L ∧ Q v t.vm t.heap)) ∧ CHq Z EL first.vm first.heap t.vm t.heap) hM hf hl
    (fun m meth c A a Y hp => have hU : Z.Warmed39 A.U.vm := wtrans (s := s.setVm vm) hZ Y.warmed
      ⟨by show (Jvm.Cond.and _ .tt).before a A.U = true; rw [Cond.before_and, mv hU wc]; rfl, mv hU wc, mv hU wz, hp.2.2.1, hp.2.2.2⟩)
    (fun m meth c A a g mk Y hp => ⟨hp.1, wtrans (s := s.setVm vm) hZ Y.warmed, hp.2.1, (show CHq Z EL vm h A.U.vm h from CHq.at Y hZ hEL H), State.Warmed39.of_rootvm (s := s.setVm vm) rfl (show (s.setVm vm).Warmed39 A.U.vm from Y.warmed.wide)⟩) (fun _ _ _ _ _ _ _ _ _ => trivial)
    (fun _ _ _ _ ⟨v, L, h1, h2, h3, h4⟩ => ⟨L, _, _, h4, rfl, rfl, ⟨v, h1, h2⟩, h3⟩)
    (fun m meth c A a g mk v t L k n Y hp _ _ ⟨e1, e2, ⟨v', e3, e4⟩, e5⟩ => by
      cases e3; subst e1 e2
      refine ⟨L, e4, rfl, rfl, rfl, (CHq.at Y hZ hEL H).trans ?_⟩
      rw [← hp.2.1]; exact e5)
theorem Pay.of_back {y : MethodName} {len W : Nat} {as' : Array Value} {rc rs : Nat} {Q0 : Option Value → Heap → List Loc → Prop}
    (hK : Back l R p e below (s.setVm vm) args y len W (fun A a => a = as' ∧ A.U.heap = h ∧ A.cells + rc ≤ R.cells ∧ A.slots + rs ≤ R.slots) (fun A _ v B => ∃ L, Q0 v B.U.heap L ∧ B.locs = A.locs ++ L ∧ B.cells = A.cells + rc ∧ B.slots = A.slots + rs))
    (hZ : Z.Warmed39 vm) (H : CHv Z EL vm h) (hEL : EW Z a0 EL)
    (hq : ∀ v h' L, Q0 v h' L → Fr Z.heap.size L ∧ (∃ ws, Keep h h' ws ∧ ∀ x ∈ ws, Safe Z EL vm h x) ∧ ∀ vm', CHq Z EL vm h vm' h' → Q v vm' h') : Pay l R p e below s args Z EL vm h y len W as' rc rs Q := by
  intro m meth c A g ig mk a X hg hsize hdg hW hn hp
  obtain ⟨v, B, X', ⟨L, q0, q1, q2, q3⟩, hsteps⟩ := hK m meth c A g ig mk a X hg hsize hdg hW hn hp
  obtain ⟨hF, ⟨ws, K, hs⟩, hQ⟩ := hq _ _ _ q0
  have C1 : CHq Z EL vm h vm B.U.heap := CHq.keep K hs H
  have C2 : CHq Z EL vm h B.U.vm B.U.heap := C1.trans (CHq.at X' hZ hEL C1.1)
  exact ⟨v, B, X'.retabled X'.warmed.wide, X'.warmed.since _, by rw [hp.2.1]; exact K.1, ⟨L, ⟨hF, hQ _ C2⟩, q1, q2, q3, C2⟩, hsteps⟩
theorem Pay.mono {y : MethodName} {len W rc rs : Nat} {as' : Array Value} {Q' : Option Value → Vm → Heap → Prop} (hP : Pay l R p e below s args Z EL vm h y len W as' rc rs Q) (hq : ∀ v vm' h', Q v vm' h' → Q' v vm' h') : Pay l R p e below s args Z EL vm h y len W as' rc rs Q' := by
  intro m meth c A g ig mk a X hg hsize hdg hW hn hp
  obtain ⟨v, B, X', h1, h2, ⟨L, ⟨q1, q2⟩, r⟩, st⟩ := hP m meth c A g ig mk a X hg hsize hdg hW hn hp
  exact ⟨v, B, X', h1, h2, ⟨L, ⟨q1, hq _ _ _ q2⟩, r⟩, st⟩
/-- behind any call -/
theorem gback {y : MethodName} {rc rs : Nat} {as' : Array Value} {Q' : Option Value → Vm → Heap → Prop} {rest : List Value} {pc' : Nat} {L : Array Slot}
    (st : ∀ T locs, Stand p l e R (s.setVm vm) m args below meth c T locs cells slots → Z.Warmed39 vm → vm.findClass own = some m.cls → T.heap = h → CHv Z EL vm h → EW Z a0 EL →
      ∃ (v : Option Value) (vm₁ : Vm) (B : Pt), (s.setVm vm).WarmedH vm₁ ∧ Stand p l e R ((s.setVm vm).setVm B.U.vm) m args below meth c B.U B.locs B.cells B.slots ∧ (s.setVm vm).Since B.U.vm B.U.heap.size ∧ T.heap.size ≤ B.U.heap.size ∧
        (∃ L, (Fr Z.heap.size L ∧ Q' v B.U.vm B.U.heap) ∧ B.locs = locs ++ L ∧ B.cells = cells + rc ∧ B.slots = slots + rs ∧ CHq Z EL vm h B.U.vm B.U.heap) ∧ Steps p.tables e below (T.setTop g) (B.U.setTop (mkF m pc' L (v.toList ++ rest))))
    (k : ∀ v vm' h', CHq Z EL vm h vm' h' → Q' v vm' h' → Go p l e R s m args below meth c Z a0 EL own Q vm' h' (cells + rc) (slots + rs) (mkF m pc' L (v.toList ++ rest))) : Go p l e R s m args below meth c Z a0 EL own Q vm h cells slots g := fun T X => by
  obtain ⟨locs, k0, X', eT, hZ, hown, hS, hk, N, H, E0, hEL, hx, hlk⟩ := X
  obtain ⟨v, vm1, ⟨U, Lx, cx, sx⟩, hW1, X1, hS1, hgr, ⟨L1, ⟨hF, hQ⟩, hl, hc, hs, hC⟩, s1⟩ := st T locs X' hZ hown eT H.1 hEL
  dsimp only [Pt.U, Pt.locs, Pt.cells, Pt.slots] at X1 hS1 hgr hF hQ hl hc hs hC s1
  subst hl hc hs
  obtain ⟨s2, o, q1, q2⟩ := k v U.vm U.heap hC hQ U ⟨_, U.heap.size, X1, rfl, State.Warmed39.trans (t := s.setVm vm) hZ hS1.1, (hS1.1.alike.findClass _ _).trans hown, hS.trans hS1 (Nat.le_trans hk (by rw [← eT]; exact hgr)), Nat.le_refl _, Fr.app N hF, H.trans hC, E0, hEL, hx, hlk⟩
  exact ⟨s2, o, s1.trans q1, q2⟩
end Kit
end Jvm.OwnKit
namespace Jvm.OwnKit
open Sem ClassFile Op Lib Bundle Jvm.Stand Jvm.Free Jvm.LawKit Jvm.RoadKit
section Kit2
variable {p : Program} {l : Launch} {e : Env} {R : Room} {s : State} {m : MethodId} {args : Array Value} {below : List Frame} {meth : Method} {c : Code} {Z : State} {a0 : Array Value} {EL : List (String × Nat)} {own : String} {Q : Option Value → Vm → Heap → Prop} {vm : Vm} {h : Heap} {cells slots : Nat} {g : JFrame}
/-! calls -/
theorem gcallS {index : Nat} {y : MethodName} {bytes : ByteArray} {maxL : Nat} {ret : Option FieldType} (hx : p.tables.exec = Jvm.exec) (wl : (Cond.methodLink own index y).before a0 Z = true) (wst : (Cond.static y).before a0 Z = true) (wz : (Cond.initialized y.cls).before a0 Z = true) (wc : (Cond.code y bytes maxL ret).before a0 Z = true)
    (hy : y.cls ≠ "java/lang/invoke/MethodHandle" ∧ y.cls ≠ "java/lang/invoke/VarHandle") {W rc rs : Nat} {as' : Array Value} {Q' : Option Value → Vm → Heap → Prop} (hP : Z.Warmed39 vm → CHv Z EL vm h → EW Z a0 EL → Pay l R p e below s args Z EL vm h y 3 W as' rc rs Q')
    {pc : Nat} (pc' : Nat) {L : Array Slot} {S argsL rest : List Value} (hlen : ∀ sig, parseMethodDescriptor y.desc = some sig → argsL.length = sig.parameters.length) (has : argsL.toArray = as') (hstk : S = argsL.reverse ++ rest) (hW : (rest.map fun v => v.category).sum ≤ W) (hml : L.size = c.maxLocals)
    (hd : decode c.code pc = .ok (.invokestatic index, 3)) (hp : pc + 3 = pc') (hc : cells + rc ≤ R.cells) (hs : slots + rs ≤ R.slots)
    (k : ∀ v vm' h', CHq Z EL vm h vm' h' → Q' v vm' h' → Go p l e R s m args below meth c Z a0 EL own Q vm' h' (cells + rc) (slots + rs) (mkF m pc' L (v.toList ++ rest))) : Go p l e R s m args below meth c Z a0 EL own Q vm h cells slots (mkF m pc L S) :=
  gback (y := y) (as' := as') (fun T locs X hZ hown eT H hEL => by
    subst has hp hstk
    exact callSS (s := s.setVm vm) X hx hown (mvT hZ wl) (mvT hZ wst) (mvT hZ wz) (mvT hZ wc) hy (hP hZ H hEL) (g := mkF m pc L _) rfl hml hlen rfl (by show 2 * 0 + _ ≤ _; omega) hd (fun _ _ => ⟨rfl, eT, hc, hs⟩)) k
theorem gcallI {index : Nat} {y : MethodName} {bytes : ByteArray} {maxL : Nat} (hx : p.tables.exec = Jvm.exec) (hyi : y.name = "<init>") (wl : (Cond.methodLink own index y).before a0 Z = true) (wi : (Cond.instanceMethod y).before a0 Z = true) (wc : (Cond.code y bytes maxL none).before a0 Z = true)
    (hy : y.cls ≠ "java/lang/invoke/MethodHandle" ∧ y.cls ≠ "java/lang/invoke/VarHandle") {W rc rs : Nat} {as' : Array Value} {Q' : Option Value → Vm → Heap → Prop} (hP : Z.Warmed39 vm → CHv Z EL vm h → EW Z a0 EL → Pay l R p e below s args Z EL vm h y 3 W as' rc rs Q')
    {pc : Nat} (pc' : Nat) {L : Array Slot} {S argsL rest : List Value} {a : Addr} (hlen : ∀ sig, parseMethodDescriptor y.desc = some sig → argsL.length = sig.parameters.length) (has : (.ref a :: argsL).toArray = as') (hstk : S = argsL.reverse ++ .ref a :: rest) (hW : (rest.map fun v => v.category).sum ≤ W) (hml : L.size = c.maxLocals)
    (hd : decode c.code pc = .ok (.invokespecial index, 3)) (hp : pc + 3 = pc') (hc : cells + rc ≤ R.cells) (hs : slots + rs ≤ R.slots)
    (k : ∀ v vm' h', CHq Z EL vm h vm' h' → Q' v vm' h' → Go p l e R s m args below meth c Z a0 EL own Q vm' h' (cells + rc) (slots + rs) (mkF m pc' L (v.toList ++ rest))) : Go p l e R s m args below meth c Z a0 EL own Q vm h cells slots (mkF m pc L S) :=
  gback (y := y) (as' := as') (fun T locs X hZ hown eT H hEL => by
    subst has hp hstk
    exact X.specialBackS (s := s.setVm vm) hx hyi hown (mvT hZ wl) (mvT hZ wi) (mvT hZ wc) hy (hP hZ H hEL) (g := mkF m pc L _) rfl hml (Steps.refl _) hlen rfl (by show 2 * 0 + _ ≤ _; omega) hd (fun _ _ => ⟨rfl, eT, hc, hs⟩)) k
theorem gcallV {index : Nat} {C : String} {y z : MethodName} (hx : p.tables.exec = Jvm.exec) (wl : (Cond.methodLink own index y).before a0 Z = true) (wd : (Cond.declares y).before a0 Z = true) (nf : ∀ (U : State), Z.Warmed39 U.vm → NotFace U y) (wsel : (Cond.selects C y z).before a0 Z = true) (wi : (Cond.instanceMethod z).before a0 Z = true)
    (hy : y.cls ≠ "java/lang/invoke/MethodHandle" ∧ y.cls ≠ "java/lang/invoke/VarHandle") {W rc rs : Nat} {as' : Array Value} {Q' : Option Value → Vm → Heap → Prop} (hP : Z.Warmed39 vm → CHv Z EL vm h → EW Z a0 EL → Pay l R p e below s args Z EL vm h z 3 W as' rc rs Q')
    {pc : Nat} (pc' : Nat) {L : Array Slot} {S argsL rest : List Value} {a : Addr} (E : Exa Z h a C) (hlen : ∀ sig, parseMethodDescriptor y.desc = some sig → argsL.length = sig.parameters.length) (has : (.ref a :: argsL).toArray = as') (hstk : S = argsL.reverse ++ .ref a :: rest) (hW : (rest.map fun v => v.category).sum ≤ W) (hml : L.size = c.maxLocals)
    (hd : decode c.code pc = .ok (.invokevirtual index, 3)) (hp : pc + 3 = pc') (hc : cells + rc ≤ R.cells) (hs : slots + rs ≤ R.slots)
    (k : ∀ v vm' h', CHq Z EL vm h vm' h' → Q' v vm' h' → Go p l e R s m args below meth c Z a0 EL own Q vm' h' (cells + rc) (slots + rs) (mkF m pc' L (v.toList ++ rest))) : Go p l e R s m args below meth c Z a0 EL own Q vm h cells slots (mkF m pc L S) :=
  gback (y := z) (as' := as') (fun T locs X hZ hown eT H hEL => by
    subst has hp hstk
    obtain ⟨cB, kB, h1, h2, h3⟩ := isOf (s := s.setVm vm) hZ eT E
    exact X.virtualBackS (s := s.setVm vm) hx hown (mvT hZ wl) (mvT hZ wd) (nf _ hZ) (mvT hZ wsel) (mvT hZ wi) hy (hP hZ H hEL) h1 h3 (g := mkF m pc L _) rfl hml (Steps.refl _) hlen rfl (by show 2 * 0 + _ ≤ _; omega) hd (fun _ _ => ⟨rfl, eT, hc, hs⟩)) k
theorem nfSel {C : String} {y : MethodName} (w : (Cond.selects C y y).before a0 Z = true) : ∀ (U : State), Z.Warmed39 U.vm → NotFace U y := fun U hU => notFace_of_selects (args := #[]) (mvT hU w)
theorem nfSup {S : String} {y : MethodName} (w : (Cond.superclass y.cls S).before a0 Z = true) : ∀ (U : State), Z.Warmed39 U.vm → NotFace U y := fun U hU => nf_super (args := #[]) (mvT hU w)
theorem gcallF {index count : Nat} {C : String} {xi y : MethodName} (hx : p.tables.exec = Jvm.exec) (wl : (Cond.methodLink own index xi).before a0 Z = true) (wd : (Cond.declares xi).before a0 Z = true) (wf : ∀ (U : State) (aa : Array Value), Z.Warmed39 U.vm → (Cond.interfaceMethod xi.cls xi.cls xi.name xi.desc).before aa U = true) (wsel : (Cond.selects C xi y).before a0 Z = true) (wi : (Cond.instanceMethod y).before a0 Z = true)
    (wp : (Cond.publicMethod y).before a0 Z = true) (wu : (Cond.unhidden C xi.name xi.desc).before a0 Z = true) (wca : (Cond.castable C xi.cls).before a0 Z = true)
    (hy : xi.cls ≠ "java/lang/invoke/MethodHandle" ∧ xi.cls ≠ "java/lang/invoke/VarHandle") {W rc rs : Nat} {as' : Array Value} {Q' : Option Value → Vm → Heap → Prop} (hP : Z.Warmed39 vm → CHv Z EL vm h → EW Z a0 EL → Pay l R p e below s args Z EL vm h y 5 W as' rc rs Q')
    {pc : Nat} (pc' : Nat) {L : Array Slot} {S argsL rest : List Value} {a : Addr} (E : Exa Z h a C) (hlen : ∀ sig, parseMethodDescriptor xi.desc = some sig → argsL.length = sig.parameters.length) (has : (.ref a :: argsL).toArray = as') (hstk : S = argsL.reverse ++ .ref a :: rest) (hW : (rest.map fun v => v.category).sum ≤ W) (hml : L.size = c.maxLocals)
    (hd : decode c.code pc = .ok (.invokeinterface index count, 5)) (hp : pc + 5 = pc') (hc : cells + rc ≤ R.cells) (hs : slots + rs ≤ R.slots)
    (k : ∀ v vm' h', CHq Z EL vm h vm' h' → Q' v vm' h' → Go p l e R s m args below meth c Z a0 EL own Q vm' h' (cells + rc) (slots + rs) (mkF m pc' L (v.toList ++ rest))) : Go p l e R s m args below meth c Z a0 EL own Q vm h cells slots (mkF m pc L S) :=
  gback (y := y) (as' := as') (fun T locs X hZ hown eT H hEL => by
    subst has hp hstk
    obtain ⟨cB, kB, h1, h2, h3⟩ := isOf (s := s.setVm vm) hZ eT E
    exact X.interfaceBackS (s := s.setVm vm) hx hown (mvT hZ wl) (mvT hZ wd) (wf _ _ hZ) (mvT hZ wsel) (mvT hZ wi) (mvT hZ wp) (mvT hZ wu) (mvT hZ wca) hy (hP hZ H hEL) h1 h2 h3 (g := mkF m pc L _) rfl hml (Steps.refl _) hlen rfl (by show 2 * 0 + _ ≤ _; omega) hd (fun _ _ => ⟨rfl, eT, hc, hs⟩)) k
theorem gcallU {index : Nat} {K : String} {y : MethodName} {bytes : ByteArray} {maxL : Nat} {ret : Option FieldType} (hx : p.tables.exec = Jvm.exec) (wl : (Cond.methodLink own index y).before a0 Z = true) (wsm : (Cond.sameMethod y.cls y.cls y.name y.desc).before a0 Z = true) (wi : (Cond.instanceMethod y).before a0 Z = true) (wsu : (Cond.superclass own y.cls).before a0 Z = true) (hn : y.name ≠ "<init>") (wc : (Cond.code y bytes maxL ret).before a0 Z = true)
    {W rc rs : Nat} {as' : Array Value} {Q' : Option Value → Vm → Heap → Prop} (hP : Z.Warmed39 vm → CHv Z EL vm h → EW Z a0 EL → Pay l R p e below s args Z EL vm h y 3 W as' rc rs Q')
    {pc : Nat} (pc' : Nat) {L : Array Slot} {S argsL rest : List Value} {a : Addr} (I : Ins Z h a K true) (hlen : ∀ sig, parseMethodDescriptor y.desc = some sig → argsL.length = sig.parameters.length) (has : (.ref a :: argsL).toArray = as') (hstk : S = argsL.reverse ++ .ref a :: rest) (hW : (rest.map fun v => v.category).sum ≤ W) (hml : L.size = c.maxLocals)
    (hd : decode c.code pc = .ok (.invokespecial index, 3)) (hp : pc + 3 = pc') (hc : cells + rc ≤ R.cells) (hs : slots + rs ≤ R.slots)
    (k : ∀ v vm' h', CHq Z EL vm h vm' h' → Q' v vm' h' → Go p l e R s m args below meth c Z a0 EL own Q vm' h' (cells + rc) (slots + rs) (mkF m pc' L (v.toList ++ rest))) : Go p l e R s m args below meth c Z a0 EL own Q vm h cells slots (mkF m pc L S) :=
  gback (y := y) (as' := as') (fun T locs X hZ hown eT H hEL => by
    subst has hp hstk
    exact superBackS (s := s.setVm vm) X hx hZ hown wl wsm wi wsu hn (hP hZ H hEL) eT I (g := mkF m pc L _) rfl hml wc hlen rfl (by show 2 * 0 + _ ≤ _; omega) hd (fun _ _ => ⟨rfl, eT, hc, hs⟩)) k
theorem gcallP {index : Nat} {y : MethodName} {bytes : ByteArray} {maxL : Nat} {ret : Option FieldType} (hx : p.tables.exec = Jvm.exec) (wl : (Cond.methodLink own index y).before a0 Z = true) (wi : (Cond.instanceMethod y).before a0 Z = true) (wsel : (Cond.selects y.cls y y).before a0 Z = true) (wp : (Cond.privateMethod y).before a0 Z = true) (wc : (Cond.code y bytes maxL ret).before a0 Z = true)
    (hy : y.cls ≠ "java/lang/invoke/MethodHandle" ∧ y.cls ≠ "java/lang/invoke/VarHandle") {W rc rs : Nat} {as' : Array Value} {Q' : Option Value → Vm → Heap → Prop} (hP : Z.Warmed39 vm → CHv Z EL vm h → EW Z a0 EL → Pay l R p e below s args Z EL vm h y 3 W as' rc rs Q')
    {pc : Nat} (pc' : Nat) {L : Array Slot} {S argsL rest : List Value} {a : Addr} {K : String} (E : Exa Z h a K) (hlen : ∀ sig, parseMethodDescriptor y.desc = some sig → argsL.length = sig.parameters.length) (has : (.ref a :: argsL).toArray = as') (hstk : S = argsL.reverse ++ .ref a :: rest) (hW : (rest.map fun v => v.category).sum ≤ W) (hml : L.size = c.maxLocals)
    (hd : decode c.code pc = .ok (.invokevirtual index, 3)) (hp : pc + 3 = pc') (hc : cells + rc ≤ R.cells) (hs : slots + rs ≤ R.slots)
    (k : ∀ v vm' h', CHq Z EL vm h vm' h' → Q' v vm' h' → Go p l e R s m args below meth c Z a0 EL own Q vm' h' (cells + rc) (slots + rs) (mkF m pc' L (v.toList ++ rest))) : Go p l e R s m args below meth c Z a0 EL own Q vm h cells slots (mkF m pc L S) :=
  gback (y := y) (as' := as') (fun T locs X hZ hown eT H hEL => by
    subst has hp hstk
    obtain ⟨cq, q1, q2⟩ := E.cell
    exact X.privateBackS (s := s.setVm vm) hx hown (mvT hZ wl) (mvT hZ wi) (mvT hZ wsel) (Cond.privateMethod_at (mvP (s := s.setVm vm) hZ wp (args := #[]))) (mvT hZ wc) hy (hP hZ H hEL) (g := mkF m pc L _) rfl hml (Steps.refl _) (by rw [eT]; exact q1) q2 hlen rfl (by show 2 * 0 + _ ≤ _; omega) hd (fun _ _ => ⟨rfl, eT, hc, hs⟩)) k
/-- Object.<init> -/
theorem ginitO {idx : Nat} (hx : p.tables.exec = Jvm.exec) (w1 : (Cond.methodLink own idx Lib.objectInit).before a0 Z = true) (w2 : (Cond.instanceMethod Lib.objectInit).before a0 Z = true) (w3 : (Cond.code Lib.objectInit ⟨#[0xb1]⟩ 1 none).before a0 Z = true)
    {pc : Nat} (pc' : Nat) {L : Array Slot} {rest : List Value} {a : Addr} {W : Nat} (hW : (rest.map fun v => v.category).sum ≤ W) (hml : L.size = c.maxLocals) (hd : decode c.code pc = .ok (.invokespecial idx, 3)) (hp : pc + 3 = pc') (hf : 1 ≤ R.frames) (hl : W + 12 ≤ R.locals)
    (k : Go p l e R s m args below meth c Z a0 EL own Q vm h cells slots (mkF m pc' L rest)) : Go p l e R s m args below meth c Z a0 EL own Q vm h cells slots (mkF m pc L (.ref a :: rest)) :=
  gy _ (fun T locs X hZ hown eT => by
    subst hp
    exact initO (s := s.setVm vm) X hx hZ hown w1 w2 w3 eT (g := mkF m pc L (.ref a :: rest)) rfl hml rfl hd hf (W := W) (by show 2 * 0 + _ ≤ _; omega) hl) k
/-! fields -/
theorem ggetF {R0 O n d host : String} {index : Nat} (hx : p.tables.exec = Jvm.exec) (w : (Cond.fieldLink own index R0 n d).before a0 Z = true ∨ (Cond.fieldLinkNest own index R0 n d host).before a0 Z = true) (via : Via Z R0 O n d) {a : Addr} {v : Value} (F : Fld Z h a O n d v)
    {pc : Nat} (pc' : Nat) {L : Array Slot} {rest : List Value} (hd : decode c.code pc = .ok (.getfield index, 3)) (hp : pc + 3 = pc')
    (k : Go p l e R s m args below meth c Z a0 EL own Q vm h cells slots (mkF m pc' L (v :: rest))) : Go p l e R s m args below meth c Z a0 EL own Q vm h cells slots (mkF m pc L (.ref a :: rest)) :=
  gy _ (fun T locs X hZ hown eT => by
    subst hp
    exact getF (s := s.setVm vm) X hx hZ hown (host := host) w via eT F (g := mkF m pc L (.ref a :: rest)) rfl rfl hd) k
theorem ggetS {R0 O n d host : String} {index : Nat} (hx : p.tables.exec = Jvm.exec) (w : (Cond.fieldLink own index R0 n d).before a0 Z = true ∨ (Cond.fieldLinkNest own index R0 n d host).before a0 Z = true) (via : Via Z R0 O n d) {v : Value} (F : Sta Z Z.heap O n d v)
    {pc : Nat} (pc' : Nat) {L : Array Slot} {S : List Value} (hd : decode c.code pc = .ok (.getstatic index, 3)) (hp : pc + 3 = pc')
    (k : Go p l e R s m args below meth c Z a0 EL own Q vm h cells slots (mkF m pc' L (v :: S))) : Go p l e R s m args below meth c Z a0 EL own Q vm h cells slots (mkF m pc L S) :=
  ginfo fun _ _ E => gy _ (fun T locs X hZ hown eT => by
    subst hp
    exact getS2 (s := s.setVm vm) X hx hZ hown (host := host) w via eT (F.ext E) (g := mkF m pc L S) rfl hd) k
theorem gputF {R0 O n d host C : String} {index kk : Nat} {ty : FieldType} (hx : p.tables.exec = Jvm.exec) (w : (Cond.fieldLink own index R0 n d).before a0 Z = true ∨ (Cond.fieldLinkNest own index R0 n d host).before a0 Z = true) (via : Via Z R0 O n d) {a : Addr} {v old : Value} (F : Fld Z h a O n d old) (E : Exa Z h a C)
    (Lw : (Cond.lays C O n d).before a0 Z = true ∨ ((Cond.laysFinal C O n d).before a0 Z = true ∧ own = O ∧ meth.name = "<init>")) (wi : (Cond.instantiable C kk).before a0 Z = true) (hty : parseFieldDescriptor d = some ty) (hn : narrow ty v = v) (hf : fits ty v = true) (ha : Z.heap.size ≤ a) (hs : Z.vm.Alike vm → Safe Z EL vm h a)
    {pc : Nat} (pc' : Nat) {L : Array Slot} {rest : List Value} (hd : decode c.code pc = .ok (.putfield index, 3)) (hp : pc + 3 = pc')
    (k : ∀ h', Wr h h' a (Jvm.RoadKit.slotOf Z O n d) v → CHq Z EL vm h vm h' → Go p l e R s m args below meth c Z a0 EL own Q vm h' cells slots (mkF m pc' L rest)) : Go p l e R s m args below meth c Z a0 EL own Q vm h cells slots (mkF m pc L (v :: .ref a :: rest)) :=
  gwr _ ha hs (fun T locs X hZ hown eT => by
    subst hp
    exact putF (s := s.setVm vm) X hx hZ hown (host := host) w via eT F E Lw wi hty hn hf (g := mkF m pc L (v :: .ref a :: rest)) rfl rfl hd) k
/-! objects and arrays are made -/
theorem gnewO {C : String} {index n : Nat} (hx : p.tables.exec = Jvm.exec) (w : (Cond.classLink own index C).before a0 Z = true) (wi : (Cond.instantiable C n).before a0 Z = true) (wz : (Cond.initialized C).before a0 Z = true)
    {pc : Nat} (pc' : Nat) {L : Array Slot} {S : List Value} (hd : decode c.code pc = .ok (.new index, 3)) (hp : pc + 3 = pc') (hc : cells + 1 ≤ R.cells) (hl : slots + n ≤ R.slots)
    (k : ∀ (b : Addr) (h' : Heap), h.size = b → Ext h h' → CHq Z EL vm h vm h' → Exa Z h' b C → (∀ {O nm d : String} {ty : FieldType}, Laid Z a0 C O nm d → parseFieldDescriptor d = some ty → Fld Z h' b O nm d (defaultValue ty)) → Z.heap.size ≤ b → Safe Z EL vm h' b → Go p l e R s m args below meth c Z a0 EL own Q vm h' (cells + 1) (slots + n) (mkF m pc' L (.ref b :: S))) :
    Go p l e R s m args below meth c Z a0 EL own Q vm h cells slots (mkF m pc L S) :=
  gnew (P := fun h' => Exa Z h' h.size C ∧ ∀ (O nm d : String) (ty : FieldType), Laid Z a0 C O nm d → parseFieldDescriptor d = some ty → Fld Z h' h.size O nm d (defaultValue ty)) (fun _ => mkF m pc' L (.ref h.size :: S))
    (fun T locs X hZ hown eT => by
      subst hp
      obtain ⟨T', h', X', e', E, A, D, -, st⟩ := newO (s := s.setVm vm) X hx hZ hown w wi wz eT (g := mkF m pc L S) rfl hd hc hl
      exact ⟨T', h', X', e', E, ⟨A, fun _ _ _ _ q r => D q r⟩, st⟩)
    (fun h' E hC hP hz hs => k _ h' rfl E hC hP.1 (fun q r => hP.2 _ _ _ _ q r) hz hs)
theorem gnewR {C : String} {index : Nat} (hx : p.tables.exec = Jvm.exec) (w1 : (Cond.classLink own index C).before a0 Z = true) (w2 : (Cond.arrayOver (.object C)).before a0 Z = true) {n : Int32} (hn : ¬ n < 0) {cap : Nat} (hcap : n.toNatClampNeg ≤ cap) (hb : cap * 8 ≤ 536870912) {ad : String} (had : "[" ++ (FieldType.object C).toString = ad)
    {pc : Nat} (pc' : Nat) {L : Array Slot} {S : List Value} (hd : decode c.code pc = .ok (.anewarray index, 3)) (hp : pc + 3 = pc') (hc : cells + 1 ≤ R.cells) (hl : slots + cap ≤ R.slots)
    (k : ∀ (b : Addr) (h' : Heap) (cA : ClassId), h.size = b → Ext h h' → CHq Z EL vm h vm h' → Arv Z h' b cA (.object C) n [] .null → Exa Z h' b ad → Ovr Z cA C → Z.heap.size ≤ b → Safe Z EL vm h' b → Go p l e R s m args below meth c Z a0 EL own Q vm h' (cells + 1) (slots + cap) (mkF m pc' L (.ref b :: S))) :
    Go p l e R s m args below meth c Z a0 EL own Q vm h cells slots (mkF m pc L (.int n :: S)) :=
  gnew (P := fun h' => ∃ cA, Arv Z h' h.size cA (.object C) n [] .null ∧ Exa Z h' h.size ad ∧ Ovr Z cA C) (fun _ => mkF m pc' L (.ref h.size :: S))
    (fun T locs X hZ hown eT => by
      subst hp
      obtain ⟨T', h', cA, X', e', E, A, X1, O, st⟩ := newRE (s := s.setVm vm) X hx hZ hown w1 w2 eT (g := mkF m pc L (.int n :: S)) rfl hd rfl hn hcap hb hc hl had
      exact ⟨T', h', X', e', E, ⟨cA, Arv.new A hn, X1, O⟩, st⟩)
    (fun h' E hC hP hz hs => by obtain ⟨cA, V, X1, O⟩ := hP; exact k _ h' cA rfl E hC V X1 O hz hs)
/-! arrays are written and read -/
theorem gstC {a : Addr} {kc : ClassId} {n : Int32} {vs : List Value} {d : Value} {j x y : Int32} {i : Nat} (hx : p.tables.exec = Jvm.exec) (F : Arv Z h a kc .char n vs d) (hin : ¬ j < 0 ∧ j < n) (hj : j.toNatClampNeg = i) (hi : i < vs.length) (hy : nar .char x = y) (ha : Z.heap.size ≤ a)
    {pc : Nat} (pc' : Nat) {L : Array Slot} {rest : List Value} (hd : decode c.code pc = .ok (.castore, 1)) (hp : pc + 1 = pc')
    (k : ∀ h', Wr h h' a i (.int y) → CHq Z EL vm h vm h' → Arv Z h' a kc .char n (vs.set i (.int y)) d → Go p l e R s m args below meth c Z a0 EL own Q vm h' cells slots (mkF m pc' L rest)) : Go p l e R s m args below meth c Z a0 EL own Q vm h cells slots (mkF m pc L (.int x :: .int j :: .ref a :: rest)) := by
  subst hy hj hp
  obtain ⟨cl, Ar, q1, q2, q3, q4, q5⟩ := F
  exact gwr _ ha (fun al => Safe.arr al Ar (by decide)) (fun T locs X hZ hown eT => stC (s := s.setVm vm) X hx hZ eT Ar (j := j) (inb_of q2 hin) (g := mkF m pc L (.int x :: .int j :: .ref a :: rest)) rfl rfl hd) fun h' W hC => k h' W hC (Arv.set Ar q1 q2 q3 q4 q5 (fits_nar_char _) W _ rfl hi)
theorem gstB {a : Addr} {kc : ClassId} {n : Int32} {vs : List Value} {d : Value} {j x y : Int32} {i : Nat} (hx : p.tables.exec = Jvm.exec) (F : Arv Z h a kc .byte n vs d) (hin : ¬ j < 0 ∧ j < n) (hj : j.toNatClampNeg = i) (hi : i < vs.length) (hy : nar .byte x = y) (ha : Z.heap.size ≤ a) (hs : Z.vm.Alike vm → Safe Z EL vm h a)
    {pc : Nat} (pc' : Nat) {L : Array Slot} {rest : List Value} (hd : decode c.code pc = .ok (.bastore, 1)) (hp : pc + 1 = pc')
    (k : ∀ h', Wr h h' a i (.int y) → CHq Z EL vm h vm h' → Arv Z h' a kc .byte n (vs.set i (.int y)) d → Go p l e R s m args below meth c Z a0 EL own Q vm h' cells slots (mkF m pc' L rest)) : Go p l e R s m args below meth c Z a0 EL own Q vm h cells slots (mkF m pc L (.int x :: .int j :: .ref a :: rest)) := by
  subst hy hj hp
  obtain ⟨cl, Ar, q1, q2, q3, q4, q5⟩ := F
  exact gwr _ ha hs (fun T locs X hZ hown eT => stB (s := s.setVm vm) X hx hZ eT Ar (j := j) (inb_of q2 hin) (g := mkF m pc L (.int x :: .int j :: .ref a :: rest)) rfl rfl hd) fun h' W hC => k h' W hC (Arv.set Ar q1 q2 q3 q4 q5 (fits_nar_byte _) W _ rfl hi)
theorem gstR {a : Addr} {kc : ClassId} {C : String} {n : Int32} {vs : List Value} {d v : Value} {j : Int32} {i : Nat} (hx : p.tables.exec = Jvm.exec) (F : Arv Z h a kc (.object C) n vs d) (hin : ¬ j < 0 ∧ j < n) (hj : j.toNatClampNeg = i) (hi : i < vs.length) (S : Sto Z h a v) (hv : v.isRef = true) (ha : Z.heap.size ≤ a)
    {pc : Nat} (pc' : Nat) {L : Array Slot} {rest : List Value} (hd : decode c.code pc = .ok (.aastore, 1)) (hp : pc + 1 = pc')
    (k : ∀ h', Wr h h' a i v → CHq Z EL vm h vm h' → Arv Z h' a kc (.object C) n (vs.set i v) d → Go p l e R s m args below meth c Z a0 EL own Q vm h' cells slots (mkF m pc' L rest)) : Go p l e R s m args below meth c Z a0 EL own Q vm h cells slots (mkF m pc L (v :: .int j :: .ref a :: rest)) := by
  subst hj hp
  obtain ⟨cl, Ar, q1, q2, q3, q4, q5⟩ := F
  exact gwr _ ha (fun al => Safe.arr al Ar nofun) (fun T locs X hZ hown eT => stR (s := s.setVm vm) X hx hZ eT Ar (j := j) (inb_of q2 hin) rfl S (g := mkF m pc L (v :: .int j :: .ref a :: rest)) rfl rfl hd) fun h' W hC => k h' W hC (Arv.set Ar q1 q2 q3 q4 q5 (by cases v <;> first | rfl | (cases hv; done)) W _ rfl hi)
theorem gldC {a : Addr} {kc : ClassId} {n : Int32} {vs : List Value} {d v : Value} {j : Int32} {i : Nat} (hx : p.tables.exec = Jvm.exec) (F : Arv Z h a kc .char n vs d) (hin : ¬ j < 0 ∧ j < n) (hj : j.toNatClampNeg = i) (hv : vs.getD i d = v)
    {pc : Nat} (pc' : Nat) {L : Array Slot} {rest : List Value} (hd : decode c.code pc = .ok (.caload, 1)) (hp : pc + 1 = pc')
    (k : Go p l e R s m args below meth c Z a0 EL own Q vm h cells slots (mkF m pc' L (v :: rest))) : Go p l e R s m args below meth c Z a0 EL own Q vm h cells slots (mkF m pc L (.int j :: .ref a :: rest)) := by
  subst hj hp
  obtain ⟨cl, Ar, q1, q2, q3, q4, q5⟩ := F
  exact gx _ (fun T locs X hZ hown eT => X.caload (s := s.setVm vm) hx (by rw [eT]; exact Ar.1) (State.isArrayOf_alike hZ.alike Ar.2.1) Ar.2.2 (inb_of q2 hin) (q4.at (inb_of q2 hin) hv) (g := mkF m pc L (.int j :: .ref a :: rest)) rfl rfl hd) k
theorem gldB {a : Addr} {kc : ClassId} {n : Int32} {vs : List Value} {d v : Value} {j : Int32} {i : Nat} (hx : p.tables.exec = Jvm.exec) (F : Arv Z h a kc .byte n vs d) (hin : ¬ j < 0 ∧ j < n) (hj : j.toNatClampNeg = i) (hv : vs.getD i d = v)
    {pc : Nat} (pc' : Nat) {L : Array Slot} {rest : List Value} (hd : decode c.code pc = .ok (.baload, 1)) (hp : pc + 1 = pc')
    (k : Go p l e R s m args below meth c Z a0 EL own Q vm h cells slots (mkF m pc' L (v :: rest))) : Go p l e R s m args below meth c Z a0 EL own Q vm h cells slots (mkF m pc L (.int j :: .ref a :: rest)) := by
  subst hj hp
  obtain ⟨cl, Ar, q1, q2, q3, q4, q5⟩ := F
  exact gx _ (fun T locs X hZ hown eT => X.baloadBytes (s := s.setVm vm) hx (by rw [eT]; exact Ar.1) (State.isArrayOf_alike hZ.alike Ar.2.1) Ar.2.2 (inb_of q2 hin) (q4.at (inb_of q2 hin) hv) (g := mkF m pc L (.int j :: .ref a :: rest)) rfl rfl hd) k
theorem gldI {a : Addr} {kc : ClassId} {n : Int32} {vs : List Value} {d v : Value} {j : Int32} {i : Nat} (hx : p.tables.exec = Jvm.exec) (F : Arv Z h a kc .int n vs d) (hin : ¬ j < 0 ∧ j < n) (hj : j.toNatClampNeg = i) (hv : vs.getD i d = v)
    {pc : Nat} (pc' : Nat) {L : Array Slot} {rest : List Value} (hd : decode c.code pc = .ok (.iaload, 1)) (hp : pc + 1 = pc')
    (k : Go p l e R s m args below meth c Z a0 EL own Q vm h cells slots (mkF m pc' L (v :: rest))) : Go p l e R s m args below meth c Z a0 EL own Q vm h cells slots (mkF m pc L (.int j :: .ref a :: rest)) := by
  subst hj hp
  obtain ⟨cl, Ar, q1, q2, q3, q4, q5⟩ := F
  exact gx _ (fun T locs X hZ hown eT => X.iaload (s := s.setVm vm) hx (by rw [eT]; exact Ar.1) (State.isArrayOf_alike hZ.alike Ar.2.1) Ar.2.2 (inb_of q2 hin) (q4.at (inb_of q2 hin) hv) (g := mkF m pc L (.int j :: .ref a :: rest)) rfl rfl hd) k
theorem gldR {a : Addr} {kc : ClassId} {C : String} {n : Int32} {vs : List Value} {d v : Value} {j : Int32} {i : Nat} (hx : p.tables.exec = Jvm.exec) (F : Arv Z h a kc (.object C) n vs d) (hin : ¬ j < 0 ∧ j < n) (hj : j.toNatClampNeg = i) (hv : vs.getD i d = v)
    {pc : Nat} (pc' : Nat) {L : Array Slot} {rest : List Value} (hd : decode c.code pc = .ok (.aaload, 1)) (hp : pc + 1 = pc')
    (k : Go p l e R s m args below meth c Z a0 EL own Q vm h cells slots (mkF m pc' L (v :: rest))) : Go p l e R s m args below meth c Z a0 EL own Q vm h cells slots (mkF m pc L (.int j :: .ref a :: rest)) := by
  subst hj hp
  obtain ⟨cl, Ar, q1, q2, q3, q4, q5⟩ := F
  exact gx _ (fun T locs X hZ hown eT => X.aaload (s := s.setVm vm) hx (by rw [eT]; exact Ar.1) (State.isArrayOf_alike hZ.alike Ar.2.1) rfl Ar.2.2 (inb_of q2 hin) (q4.at (inb_of q2 hin) hv) (g := mkF m pc L (.int j :: .ref a :: rest)) rfl rfl hd) k
theorem glen {a : Addr} {kc : ClassId} {ty : FieldType} {n : Int32} {vs : List Value} {d : Value} (hx : p.tables.exec = Jvm.exec) (F : Arv Z h a kc ty n vs d)
    {pc : Nat} (pc' : Nat) {L : Array Slot} {rest : List Value} (hd : decode c.code pc = .ok (.arraylength, 1)) (hp : pc + 1 = pc')
    (k : Go p l e R s m args below meth c Z a0 EL own Q vm h cells slots (mkF m pc' L (.int n :: rest))) : Go p l e R s m args below meth c Z a0 EL own Q vm h cells slots (mkF m pc L (.ref a :: rest)) := by
  subst hp
  obtain ⟨cl, Ar, q1, q2, q3, q4, q5⟩ := F
  exact gx _ (fun T locs X hZ hown eT t kk => X.arraylength (s := s.setVm vm) hx (by rw [eT]; exact Ar.1) (State.isArrayOf_alike hZ.alike Ar.2.1) (g := mkF m pc L (.ref a :: rest)) rfl rfl hd t (by rw [len_of q2 q3]; exact kk)) k
/-! casts, constants -/
theorem gcast {K : String} {index : Nat} (hx : p.tables.exec = Jvm.exec) (w : (Cond.classLink own index K).before a0 Z = true) {a : Addr} (F : Ins Z h a K true) {pc : Nat} (pc' : Nat) {L : Array Slot} {rest : List Value} (hd : decode c.code pc = .ok (.checkcast index, 3)) (hp : pc + 3 = pc')
    (k : Go p l e R s m args below meth c Z a0 EL own Q vm h cells slots (mkF m pc' L (.ref a :: rest))) : Go p l e R s m args below meth c Z a0 EL own Q vm h cells slots (mkF m pc L (.ref a :: rest)) :=
  gy _ (fun T locs X hZ hown eT => by
    subst hp
    exact castY (s := s.setVm vm) X hx hZ hown w eT F (g := mkF m pc L (.ref a :: rest)) rfl rfl hd) k
theorem ginstN {K C : String} {index : Nat} (hx : p.tables.exec = Jvm.exec) (w : (Cond.classLink own index K).before a0 Z = true) {a : Addr} (E : Exa Z h a C) (F : ∃ c t, Z.vm.findClass C = some c ∧ Z.vm.findClass K = some t ∧ Z.vm.assignable c t = false) {pc : Nat} (pc' : Nat) {L : Array Slot} {rest : List Value} (hd : decode c.code pc = .ok (.instanceof index, 3)) (hp : pc + 3 = pc')
    (k : Go p l e R s m args below meth c Z a0 EL own Q vm h cells slots (mkF m pc' L (.int 0 :: rest))) : Go p l e R s m args below meth c Z a0 EL own Q vm h cells slots (mkF m pc L (.ref a :: rest)) :=
  gy _ (fun T locs X hZ hown eT => by
    subst hp
    exact instNo (s := s.setVm vm) X hx hZ hown w eT E F (g := mkF m pc L (.ref a :: rest)) rfl rfl hd) k
end Kit2
end Jvm.OwnKit
namespace Jvm.OwnKit
open Sem ClassFile Op Lib Bundle Jvm.Stand Jvm.Free Jvm.LawKit Jvm.RoadKit
section Kit3
variable {p : Program} {l : Launch} {e : Env} {R : Room} {s : State} {m : MethodId} {args : Array Value} {below : List Frame} {meth : Method} {c : Code} {Z : State} {a0 : Array Value} {EL : List (String × Nat)} {own : String} {Q : Option Value → Vm → Heap → Prop} {vm : Vm} {h h' : Heap} {cells slots : Nat} {g : JFrame}
theorem gi2c {x y : Int32} (hx : p.tables.exec = Jvm.exec) (hy : x.toUInt32.toUInt16.toUInt32.toInt32 = y) {pc : Nat} (pc' : Nat) {L : Array Slot} {rest : List Value} (hd : decode c.code pc = .ok (.i2c, 1)) (hp : pc + 1 = pc')
    (k : Go p l e R s m args below meth c Z a0 EL own Q vm h cells slots (mkF m pc' L (.int y :: rest))) : Go p l e R s m args below meth c Z a0 EL own Q vm h cells slots (mkF m pc L (.int x :: rest)) := by
  subst hy hp
  exact gs _ (fun _ _ A k => XS.i2c A hx rfl hd rfl k) k
theorem narC (x : Int32) : nar .char (x &&& 255) = x &&& 255 := i2c_mask x
/-- a char of 0 to 255 -/
def B8 (c : Int32) : Prop := ¬ c < 0 ∧ ¬ (255 : Int32) < c
theorem b255 (x : Int32) : B8 (x &&& 255) := by
  have h := c_mask x 255 8 (by decide) (by decide)
  have e1 : (0 : Int32).toInt = 0 := rfl
  have e2 : (255 : Int32).toInt = 255 := rfl
  refine ⟨?_, ?_⟩
  · rw [Int32.lt_iff_toInt_lt, h, e1]; omega
  · rw [Int32.lt_iff_toInt_lt, h, e2]; omega
theorem bnil : ∀ c ∈ ([] : List Int32), B8 c := fun _ q => nomatch q
theorem bcons {a : Int32} {L : List Int32} (q : B8 a) (r : ∀ c ∈ L, B8 c) : ∀ c ∈ a :: L, B8 c := fun c z => (List.mem_cons.mp z).elim (fun u => u ▸ q) (r c)
/-- an ordinary Latin-1 String and its bytes -/
def Str (Z : State) (h : Heap) (a t : Addr) (cs : List Int32) : Prop := Exa Z h a "java/lang/String" ∧ Fld Z h a "java/lang/String" "coder" "B" (.int 0) ∧ Fld Z h a "java/lang/String" "value" "[B" (.ref t) ∧
  (∃ kb, Arv Z h t kb .byte (Int32.ofNat cs.length) ((cs.map fun c => c.toInt8.toInt32).map Value.int) (.int 0)) ∧ (∀ c ∈ cs, B8 c) ∧ cs.length ≤ 4000
variable {a t o : Addr} {cs : List Int32} {ws : List Addr} {sl : Nat} {v : Value}
theorem Str.ext (F : Str Z h a t cs) (E : Ext h h') : Str Z h' a t cs := by
  obtain ⟨f1, f2, f3, ⟨kb, f4⟩, f5⟩ := F
  exact ⟨f1.ext E, f2.ext E, f3.ext E, ⟨kb, f4.ext E⟩, f5⟩
theorem Str.keep (F : Str Z h a t cs) (K : Keep h h' ws) (q : a ∉ ws) (r : t ∉ ws) : Str Z h' a t cs := by
  obtain ⟨f1, f2, f3, ⟨kb, f4⟩, f5⟩ := F
  exact ⟨f1.keep K, f2.keep K q, f3.keep K q, ⟨kb, f4.keep K r⟩, f5⟩
theorem Str.other (F : Str Z h a t cs) (W : Wr h h' o sl v) (q : a ≠ o) (r : t ≠ o) : Str Z h' a t cs := by
  obtain ⟨f1, f2, f3, ⟨kb, f4⟩, f5⟩ := F
  exact ⟨f1.wr W, f2.other W (Or.inl q), f3.other W (Or.inl q), ⟨kb, f4.other W r⟩, f5⟩
theorem Str.tlt (F : Str Z h a t cs) : t < h.size := by
  obtain ⟨f1, f2, f3, ⟨kb, f4⟩, f5⟩ := F
  exact f4.lt
theorem Str.lit {kb : ClassId} {z : Int32} {vs : List Value} (E : Exa Z h a "java/lang/String") (C : Fld Z h a "java/lang/String" "coder" "B" (.int 0)) (V : Fld Z h a "java/lang/String" "value" "[B" (.ref t)) (A : Arv Z h t kb .byte z vs (.int 0)) (hb : ∀ c ∈ cs, ¬ c < 0 ∧ ¬ (255 : Int32) < c)
    (hz : z = Int32.ofNat cs.length) (hv : vs = (cs.map fun c => c.toInt8.toInt32).map Value.int) (hl : cs.length ≤ 4000) : Str Z h a t cs := ⟨E, C, V, ⟨kb, by rw [← hz, ← hv]; exact A⟩, hb, hl⟩
theorem Arv.sto {kc : ClassId} {C : String} {n : Int32} {vs : List Value} {d : Value} {y : Addr} (F : Arv Z h a kc (.object C) n vs d) (O : Ovr Z kc C) (I : Ins Z h y C true) : Sto Z h a (.ref y) := by
  obtain ⟨cl, Ar, q1, -⟩ := F
  exact Sto.ofV Ar q1 O I
end Kit3
end Jvm.OwnKit
namespace Jvm.OwnKit
open Sem ClassFile Op Lib Bundle Jvm.Stand Jvm.Free Jvm.LawKit Jvm.RoadKit
section Kit4
variable {p : Program} {l : Launch} {e : Env} {R : Room} {s : State} {m : MethodId} {args : Array Value} {below : List Frame} {meth : Method} {c : Code} {Z : State} {a0 : Array Value} {EL : List (String × Nat)} {own : String} {Q : Option Value → Vm → Heap → Prop} {vm : Vm} {h h' : Heap} {cells slots : Nat} {g : JFrame}
/-- roads that meet -/
theorem gjoin (P : Vm → Heap → JFrame → Prop) (cells' slots' : Nat) (k1 : ∀ vm' h' g', P vm' h' g' → Go p l e R s m args below meth c Z a0 EL own Q vm' h' cells' slots' g')
    (k2 : (∀ vm' h' g', P vm' h' g' → Go p l e R s m args below meth c Z a0 EL own Q vm' h' cells' slots' g') → Go p l e R s m args below meth c Z a0 EL own Q vm h cells slots g) : Go p l e R s m args below meth c Z a0 EL own Q vm h cells slots g := k2 k1
/-- C's chain of superclasses doesn't meet an instantiable K -/
theorem NSroot {O K : String} {n : Nat} (w : (Cond.noSuperclass O).before a0 Z = true) (wk : (Cond.instantiable K n).before a0 Z = true) (hn : O ≠ K) : NS Z O K := by
  obtain ⟨c, k, h1, h2, h3, -, -⟩ := Cond.noSuperclass_spec w
  obtain ⟨t, k', g1, g2, g3, g4, -⟩ := Cond.instantiable_spec wk
  have ne := ids_ne h1 g1 hn
  refine ⟨c, t, h1, g1, fun fuel => ?_⟩
  cases fuel with
  | zero => rfl
  | succ f => simp [Vm.isSubclassAux, ne, h2, h3]
theorem NSno {C S K : String} {n : Nat} (w : (Cond.superclass C S).before a0 Z = true) (wk : (Cond.instantiable K n).before a0 Z = true) (nn : NS Z C K) (hn : C ≠ K) : ∃ c t, Z.vm.findClass C = some c ∧ Z.vm.findClass K = some t ∧ Z.vm.assignable c t = false := by
  obtain ⟨c, t, h0, g0, n3⟩ := nn
  obtain ⟨p, k, kp, h1, h2, h3, h4, h5, -, h7⟩ := Cond.superclass_spec h0 w
  obtain ⟨t', k', g1, g2, g3, g4, -⟩ := Cond.instantiable_spec wk
  cases g0.symm.trans g1
  have ne := ids_ne h0 g0 hn
  have g5 : k'.isInterface = false := by cases hq : k'.isInterface <;> simp [hq] at g4 ⊢
  refine ⟨c, t, h0, g0, ?_⟩
  show Z.vm.assignableAux (255 + 1) c t = false
  simp [Vm.assignableAux, ne, h2, g2, h5, g3, g5, Vm.isSubclass, n3]
variable {b : Addr} {cs : List Int32} {ws : List Addr} {sl : Nat} {v : Value} {o : Addr}
theorem narB (x : Int32) : nar .byte (x.toInt8.toInt32) = x.toInt8.toInt32 := by
  show (x.toInt8.toInt32).toInt8.toInt32 = _
  simp
theorem b16 (x : Int32) : ¬ (x.toUInt32.toUInt16.toUInt32.toInt32) < 0 ∧ ¬ (65535 : Int32) < (x.toUInt32.toUInt16.toUInt32.toInt32) := by
  have h := c_i2c x
  have e1 : (0 : Int32).toInt = 0 := rfl
  have e2 : (65535 : Int32).toInt = 65535 := rfl
  rw [Int32.lt_iff_toInt_lt, Int32.lt_iff_toInt_lt, e1, e2]
  omega
/-! out of the case's words -/
theorem eqI {t : Term} {x y : Int32} {idx : List Nat} (h1 : t.eval args s none idx s = some (.int x)) (h2 : (Cond.eq t (Term.int y)).value args s none s idx = some true) : x = y := by simpa [Cond.value, Term.eval, h1] using h2
theorem lenlt {t : Term} {v : Value} {aa : Addr} {cl : Cell} (h : (Term.length t).eval args s none [] s = some v) (ht : t.eval args s none [] s = some (.ref aa)) (hA : s.arrayAt? aa = some cl) : cl.slots.size < 2 ^ 31 := by
  apply Decidable.byContradiction
  intro hb
  simp [Term.eval, ht, hA, hb] at h
theorem lenI {t : Term} {n : Int32} {aa : Addr} {cl : Cell} (w : (Cond.eq (Term.length t) (Term.int n)).value args s none s [] = some true) (ht : t.eval args s none [] s = some (.ref aa)) (hA : s.arrayAt? aa = some cl) : cl.slots.size < 2 ^ 31 ∧ cl.slots.size.toInt32 = n := by
  obtain ⟨x, y, f1, f2, -, -⟩ := cmp_v (Or.inl w)
  have hb := lenlt f1 ht hA
  exact ⟨hb, eqI (len_f ht hA hb) w⟩
theorem elI {t : Term} {aa : Addr} {cl : Cell} {j y : Int32} (ht : t.eval args s none [] s = some (.ref aa)) (hc : s.heap[aa]? = some cl) (w : (Cond.eq (Term.elem t (Term.int j)) (Term.int y)).value args s none s [] = some true) : cl.slots[j.toNatClampNeg]? = some (.int y) := by
  obtain ⟨x, y', e1, e2, k1, k2⟩ := cmp_v (Or.inl w)
  cases (Option.some.inj e2 : Value.int y = y')
  obtain ⟨z, rfl⟩ := k2
  have := eqI e1 w
  subst this
  exact (elem_in e1 ht rfl hc).2
theorem fldI {t : Term} {aa : Addr} {C n d : String} {y : Int32} (ht : t.eval args s none [] s = some (.ref aa)) (w : (Cond.eq (Term.field t C n d) (Term.int y)).value args s none s [] = some true) : Fld s s.heap aa C n d (.int y) := by
  obtain ⟨x, y', e1, e2, k1, k2⟩ := cmp_v (Or.inl w)
  cases (Option.some.inj e2 : Value.int y = y')
  obtain ⟨z, rfl⟩ := k2
  have := eqI e1 w
  subst this
  exact Fld.start ((fld_at ht).symm.trans e1)
theorem Str.start {t : Term} {cs : List Int32} {n : Int32} {aa : Addr} (hf : Fit s) (ev : t.eval args s none [] s = some (.ref aa)) (wE : (Cond.exactly t "java/lang/String").value args s none s [] = some true) (wC : (Cond.eq (Term.field t "java/lang/String" "coder" "B") (Term.int 0)).value args s none s [] = some true)
    (wA : (Cond.arrayOf (Term.field t "java/lang/String" "value" "[B") .byte).value args s none s [] = some true) (wL : (Cond.eq (Term.length (Term.field t "java/lang/String" "value" "[B")) (Term.int n)).value args s none s [] = some true) (hn : n = Int32.ofNat cs.length) (hl : cs.length ≤ 4000) (hb : ∀ c ∈ cs, B8 c)
    (H : ∀ (tt : Addr) (cl : Cell), (Term.field t "java/lang/String" "value" "[B").eval args s none [] s = some (.ref tt) → s.heap[tt]? = some cl → HasL cl 0 ((cs.map fun c => c.toInt8.toInt32).map Value.int)) : ∃ tt, Str s s.heap aa tt cs := by
  obtain ⟨tt, et⟩ := arr_v wA
  obtain ⟨cl, Ar⟩ := Arr.start et wA
  have hA : s.arrayAt? tt = some cl := Ar.fin (Vm.Alike.refl _)
  obtain ⟨h1, h2⟩ := lenI wL et hA
  have hz : ¬ n < 0 := by rw [hn, Int32.lt_iff_toInt_lt, Int32.toInt_ofNat_of_lt (by omega)]; simp
  have hz2 : n.toNatClampNeg = cs.length := by rw [hn, Int32.toNatClampNeg, Int32.toInt_ofNat_of_lt (by omega)]; rfl
  refine ⟨tt, Exa.start ev wE, fldI ev wC, Fld.start ((fld_at ev).symm.trans et), ⟨cl.cls, ?_⟩, hb, hl⟩
  rw [← hn]
  exact Arv.start hf Ar h1 h2 hz (by rw [hz2]; simp) (H tt cl et Ar.1)
end Kit4
end Jvm.OwnKit
namespace Jvm.OwnKit
open Sem ClassFile Op Lib Bundle Jvm.Stand Jvm.Free Jvm.LawKit Jvm.RoadKit
section Kit5
variable {p : Program} {l : Launch} {e : Env} {R : Room} {s : State} {m : MethodId} {args : Array Value} {below : List Frame} {meth : Method} {c : Code} {Z : State} {a0 : Array Value} {EL : List (String × Nat)} {own : String} {Q : Option Value → Vm → Heap → Prop} {vm : Vm} {h h' : Heap} {cells slots : Nat} {g : JFrame}
/-- a private method reached by invokevirtual, the word 'selects' at the receiver's class -/
theorem gcallQ {index : Nat} {C : String} {y : MethodName} {bytes : ByteArray} {maxL : Nat} {ret : Option FieldType} (hx : p.tables.exec = Jvm.exec) (wl : (Cond.methodLink own index y).before a0 Z = true) (wi : (Cond.instanceMethod y).before a0 Z = true) (wsel : (Cond.selects C y y).before a0 Z = true) (wp : (Cond.privateMethod y).before a0 Z = true) (wc : (Cond.code y bytes maxL ret).before a0 Z = true)
    (hy : y.cls ≠ "java/lang/invoke/MethodHandle" ∧ y.cls ≠ "java/lang/invoke/VarHandle") {W rc rs : Nat} {as' : Array Value} {Q' : Option Value → Vm → Heap → Prop} (hP : Z.Warmed39 vm → CHv Z EL vm h → EW Z a0 EL → Pay l R p e below s args Z EL vm h y 3 W as' rc rs Q')
    {pc : Nat} (pc' : Nat) {L : Array Slot} {S argsL rest : List Value} {a : Addr} {K : String} (E : Exa Z h a K) (hlen : ∀ sig, parseMethodDescriptor y.desc = some sig → argsL.length = sig.parameters.length) (has : (.ref a :: argsL).toArray = as') (hstk : S = argsL.reverse ++ .ref a :: rest) (hW : (rest.map fun v => v.category).sum ≤ W) (hml : L.size = c.maxLocals)
    (hd : decode c.code pc = .ok (.invokevirtual index, 3)) (hp : pc + 3 = pc') (hc : cells + rc ≤ R.cells) (hs : slots + rs ≤ R.slots)
    (k : ∀ v vm' h', CHq Z EL vm h vm' h' → Q' v vm' h' → Go p l e R s m args below meth c Z a0 EL own Q vm' h' (cells + rc) (slots + rs) (mkF m pc' L (v.toList ++ rest))) : Go p l e R s m args below meth c Z a0 EL own Q vm h cells slots (mkF m pc L S) :=
  gback (y := y) (as' := as') (fun T locs X hZ hown eT H hEL => by
    subst has hp hstk
    obtain ⟨cq, q1, q2⟩ := E.cell
    have hi : (Cond.instanceMethod y).before args (s.setVm vm) = true := mvT (s := s.setVm vm) hZ wi
    have hco : (Cond.code y bytes maxL ret).before args (s.setVm vm) = true := mvT (s := s.setVm vm) hZ wc
    obtain ⟨mk, mM, hn, hmM, hst, hab⟩ := Cond.instanceMethod_spec hi
    obtain ⟨mM', cM, e1, -, -, -, -, -, -, hsig⟩ := Cond.code_spec hn hco
    cases hmM.symm.trans e1
    obtain ⟨-, -, m2, -, -, q3, -, kP, hk1, hk2⟩ := Cond.selects_spec (show (Cond.selects C y y).before args (s.setVm vm) = true from mvT (s := s.setVm vm) hZ wsel)
    cases hn.symm.trans q3
    have hpr := Cond.privateMethod_at (mvP (s := s.setVm vm) hZ wp (args := #[]))
    obtain ⟨vm1, X1, st1⟩ := X.invokevirtual (s := s.setVm vm) hx hown (mvT hZ wl) hn hmM hst hk1 hk2 hy (a := a) (cell := cq) (by rw [eT]; exact q1) q2 (selectMethod_private hmM (hpr mk mM hn hmM)) hmM hab hk1 hk2 (g := mkF m pc L (argsL.reverse ++ .ref a :: rest)) rfl (argsL := argsL) (rest := rest) (hlen _ hsig) rfl hd
    obtain ⟨v, B, X2, hS, hgr, hpost, hst2⟩ := hP hZ H hEL m meth c ⟨T.setVm vm1, locs, cells, slots⟩ (mkF m pc L rest) (.invokevirtual index) mk (.ref a :: argsL).toArray X1 rfl hml hd (by show 2 * 0 + (rest.map fun v => v.category).sum ≤ _; omega) (X1.named hn) ⟨rfl, eT, hc, hs⟩
    exact ⟨v, vm1, B, X1.warmed, X2, hS, hgr, hpost, (st1 _ fun acts => by rw [doInvoke_state]; exact Steps.refl _).trans hst2⟩) k
theorem nfSame {C : String} {y y' : MethodName} (w : (Cond.selects C y' y').before a0 Z = true) (wi : (Cond.instanceMethod y').before a0 Z = true) (he : y'.cls = y.cls) : ∀ (U : State), Z.Warmed39 U.vm → NotFace U y := fun U hU r0 h0 => by
  have n1 : NotFace U y' := notFace_of_selects (args := #[]) (mvT hU w)
  obtain ⟨mk, mM, hn, -⟩ := Cond.instanceMethod_spec (show (Cond.instanceMethod y').before #[] U = true from mvT hU wi)
  obtain ⟨kr, h1, h2⟩ := n1 mk hn
  have e1 := findClass_of_methodNamed hn
  have e2 := findClass_of_methodNamed h0
  rw [he] at e1
  have e3 := Option.some.inj (e1.symm.trans e2)
  exact ⟨kr, by rw [← e3]; exact h1, h2⟩
theorem smOf {y : MethodName} (wi : (Cond.instanceMethod y).before a0 Z = true) (nf : ∀ (U : State), Z.Warmed39 U.vm → NotFace U y) (hy : y.cls ≠ "java/lang/invoke/MethodHandle" ∧ y.cls ≠ "java/lang/invoke/VarHandle") : (Cond.sameMethod y.cls y.cls y.name y.desc).before a0 Z = true := by
  obtain ⟨mk, mM, hn, -⟩ := Cond.instanceMethod_spec wi
  obtain ⟨kr, h1, h2⟩ := nf Z (State.Warmed39.refl Z) mk hn
  have e1 := findClass_of_methodNamed hn
  have e2 := State.methodFound?_of_named hn hy
  have hn' : Z.methodNamed? ⟨y.cls, y.name, y.desc⟩ = some mk := hn
  simp only [Cond.before, Cond.holds, Cond.value, e1, e2, hn']
  simp [h1, h2]
/-! arrays of bytes are copied -/
theorem tn {n : Nat} (h : n < 2147483648) : (Int32.ofNat n).toNatClampNeg = n := by rw [Int32.toNatClampNeg, Int32.toInt_ofNat_of_lt (by omega)]; rfl
theorem nn0 {n : Nat} (h : n < 2147483648) : ¬ Int32.ofNat n < 0 := by rw [Int32.lt_iff_toInt_lt, Int32.toInt_ofNat_of_lt (by omega)]; simp
theorem range_get (vs : List Value) (dv : Value) (i n : Nat) (hn : i + n ≤ vs.length) : (vs.drop i).take n = (List.range n).map fun t => vs.getD (i + t) dv := by
  apply List.ext_getElem
  · simp; omega
  · intro t h1 h2
    simp at h1 h2
    simp [List.getD_eq_getElem?_getD, List.getElem?_eq_getElem (show i + t < vs.length by omega)]
theorem gcopyN {index : Nat} (hx : p.tables.exec = Jvm.exec) (w1 : (Cond.methodLink own index Jvm.Stand.acN).before a0 Z = true) (w2 : (Cond.native Jvm.Stand.acN).before a0 Z = true) (w3 : (Cond.static Jvm.Stand.acN).before a0 Z = true) (w4 : (Cond.initialized "java/lang/System").before a0 Z = true)
    {a b : Addr} {ka kb : ClassId} {z z' sp dp nn : Int32} {vs vd : List Value} {dv dd : Value} (i j n N M : Nat) (A : Arv Z h a ka .byte z vs dv) (B : Arv Z h b kb .byte z' vd dd) (hsp : sp = Int32.ofNat i) (hdp : dp = Int32.ofNat j) (hnn : nn = Int32.ofNat n) (hz : z = Int32.ofNat N) (hz' : z' = Int32.ofNat M)
    (hN : N < 2147483648) (hM : M < 2147483648) (h4 : i + n ≤ N) (h5 : j + n ≤ M) (hvs : vs.length = N) (hvd : vd.length = M) (ge : Z.heap.size ≤ b) (hs : Z.vm.Alike vm → Safe Z EL vm h b)
    {pc : Nat} (pc' : Nat) {L : Array Slot} {rest : List Value} {W : Nat} (hW : (rest.map fun v => v.category).sum ≤ W) (hml : L.size = c.maxLocals) (hd : decode c.code pc = .ok (.invokestatic index, 3)) (hp : pc + 3 = pc') (hf : 1 ≤ R.frames) (hlo : W + 18 ≤ R.locals)
    (k : ∀ h', Keep h h' [b] → CHq Z EL vm h vm h' → Arv Z h' b kb .byte z' (vd.take j ++ (vs.drop i).take n ++ vd.drop (j + n)) dd → Go p l e R s m args below meth c Z a0 EL own Q vm h' cells slots (mkF m pc' L rest)) :
    Go p l e R s m args below meth c Z a0 EL own Q vm h cells slots (mkF m pc L (.int nn :: .int dp :: .ref b :: .int sp :: .ref a :: rest)) := fun T X => by
  subst hp hsp hdp hnn hz hz'
  obtain ⟨locs, k0, X', eT, hZ, hown, hS, hk, N0, H, E0, hEL, hx', hlk⟩ := X
  have ti : (Int32.ofNat i).toNatClampNeg = i := tn (by omega)
  have tj : (Int32.ofNat j).toNatClampNeg = j := tn (by omega)
  have tnn : (Int32.ofNat n).toNatClampNeg = n := tn (by omega)
  obtain ⟨T', h', L', X1, e1, F1, K1, V1, st⟩ := cpA (s := s.setVm vm) X' hx hZ hown w1 w2 w3 w4 eT A B (Or.inl ⟨rfl, rfl⟩) (nn0 (by omega)) (nn0 (by omega)) (nn0 (by omega)) (by rw [ti, tnn, tn hN]; exact h4) (by rw [tj, tnn, tn hM]; exact h5) (us := (vs.drop i).take n) (by rw [ti, tnn]; exact range_get vs dv i n (by omega)) (by rw [tj, tnn]; omega) N0 ge
    (g := mkF m pc L (.int (Int32.ofNat n) :: .int (Int32.ofNat j) :: .ref b :: .int (Int32.ofNat i) :: .ref a :: rest)) rfl hml rfl hd hf (W := W) (by show 2 * 0 + _ ≤ _; omega) (by show W + (7 + 11) ≤ _; omega)
  rw [tj, tnn] at V1
  have C1 : CHq Z EL vm h vm h' := CHq.keep K1 (allS (hs hZ.alike) all0) H.1
  obtain ⟨s2, o, q1, q2⟩ := k h' K1 C1 V1 T' ⟨L', k0, X1, e1, hZ, hown, hS, Nat.le_trans hk K1.1, F1, H.trans C1, E0, hEL, hx', hlk⟩
  exact ⟨s2, o, st _ q1, q2⟩
/-! a StringBuilder of Latin-1 signs -/
abbrev lo8s (cs : List Int32) : List Value := (cs.map fun c => c.toInt8.toInt32).map Value.int
def SBd (Z : State) (h : Heap) (b v : Addr) (cap : Nat) (cs : List Int32) : Prop := Exa Z h b "java/lang/StringBuilder" ∧ Fld Z h b "java/lang/AbstractStringBuilder" "value" "[B" (.ref v) ∧ Fld Z h b "java/lang/AbstractStringBuilder" "coder" "B" (.int 0) ∧ Fld Z h b "java/lang/AbstractStringBuilder" "count" "I" (.int (Int32.ofNat cs.length)) ∧
  (∃ kb zs, Arv Z h v kb .byte (Int32.ofNat cap) (lo8s cs ++ zs) (.int 0) ∧ cs.length + zs.length = cap) ∧ (∀ c ∈ cs, B8 c) ∧ cap ≤ 4000
variable {b v t o : Addr} {cap : Nat} {cs ds : List Int32} {ws : List Addr} {sl : Nat} {w : Value}
theorem SBd.ext (F : SBd Z h b v cap cs) (E : Ext h h') : SBd Z h' b v cap cs := by
  obtain ⟨f1, f2, f3, f4, ⟨kb, zs, f5, f6⟩, f7⟩ := F
  exact ⟨f1.ext E, f2.ext E, f3.ext E, f4.ext E, ⟨kb, zs, f5.ext E, f6⟩, f7⟩
theorem SBd.keep (F : SBd Z h b v cap cs) (K : Keep h h' ws) (q : b ∉ ws) (r : v ∉ ws) : SBd Z h' b v cap cs := by
  obtain ⟨f1, f2, f3, f4, ⟨kb, zs, f5, f6⟩, f7⟩ := F
  exact ⟨f1.keep K, f2.keep K q, f3.keep K q, f4.keep K q, ⟨kb, zs, f5.keep K r, f6⟩, f7⟩
theorem SBd.wr (F : SBd Z h b v cap cs) (W : Wr h h' o sl w) (q : b ≠ o) (r : v ≠ o) : SBd Z h' b v cap cs := by
  obtain ⟨f1, f2, f3, f4, ⟨kb, zs, f5, f6⟩, f7⟩ := F
  exact ⟨f1.wr W, f2.other W (Or.inl q), f3.other W (Or.inl q), f4.other W (Or.inl q), ⟨kb, zs, f5.other W r, f6⟩, f7⟩
theorem SBd.vlt (F : SBd Z h b v cap cs) : v < h.size := by obtain ⟨f1, f2, f3, f4, ⟨kb, zs, f5, f6⟩, f7⟩ := F; exact f5.lt
theorem addOf {a b : Nat} (h : a + b ≤ 4000) : Int32.ofNat a + Int32.ofNat b = Int32.ofNat (a + b) := by
  apply Int32.toInt_inj.mp
  have q := c_iadd (Int32.ofNat a) (Int32.ofNat b)
  have r := rng32 (Int32.ofNat a + Int32.ofNat b)
  rw [Int32.toInt_ofNat_of_lt (by omega), Int32.toInt_ofNat_of_lt (by omega)] at q
  rw [Int32.toInt_ofNat_of_lt (by omega)]
  omega
theorem subOf0 {a : Nat} (h : a ≤ 4000) : Int32.ofNat a - (0 : Int32) = Int32.ofNat a := by
  apply Int32.toInt_inj.mp
  have q := c_isub (Int32.ofNat a) 0
  have r := rng32 (Int32.ofNat a - 0)
  have e0 : (0 : Int32).toInt = 0 := rfl
  rw [Int32.toInt_ofNat_of_lt (by omega), e0] at q
  rw [Int32.toInt_ofNat_of_lt (by omega)]
  omega
theorem ltOf {a b : Nat} (ha : a ≤ 4000) (hb : b ≤ 4000) : Int32.ofNat a < Int32.ofNat b ↔ a < b := by
  rw [Int32.lt_iff_toInt_lt, Int32.toInt_ofNat_of_lt (by omega), Int32.toInt_ofNat_of_lt (by omega)]; omega
theorem eqOf {a b : Nat} (ha : a ≤ 4000) (hb : b ≤ 4000) : Int32.ofNat a = Int32.ofNat b ↔ a = b := by
  rw [← Int32.toInt_inj, Int32.toInt_ofNat_of_lt (by omega), Int32.toInt_ofNat_of_lt (by omega)]; omega
theorem subLe {a b : Nat} (ha : a ≤ 4000) (hb : b ≤ 4000) (h : a ≤ b) : ¬ (0 : Int32) < Int32.ofNat a - Int32.ofNat b := by
  have q := c_isub (Int32.ofNat a) (Int32.ofNat b)
  have r := rng32 (Int32.ofNat a - Int32.ofNat b)
  have e0 : (0 : Int32).toInt = 0 := rfl
  rw [Int32.toInt_ofNat_of_lt (by omega), Int32.toInt_ofNat_of_lt (by omega)] at q
  rw [Int32.lt_iff_toInt_lt, e0]
  omega
theorem shr0 {a : Nat} (h : a ≤ 4000) : (Int32.ofNat a >>> ((0 : Int32) &&& 31)) = Int32.ofNat a := by
  apply Int32.toInt_inj.mp
  rw [c_ishr _ 0 0 (by decide)]; simp
theorem shl0 {a : Nat} (h : a ≤ 4000) : (Int32.ofNat a <<< ((0 : Int32) &&& 31)) = Int32.ofNat a := by
  apply Int32.toInt_inj.mp
  have q := c_ishl (Int32.ofNat a) 0 0 (by decide)
  have r := rng32 (Int32.ofNat a <<< ((0 : Int32) &&& 31))
  rw [Int32.toInt_ofNat_of_lt (by omega)] at q ⊢
  omega
theorem lo8s_len (cs : List Int32) : (lo8s cs).length = cs.length := by simp [lo8s]
theorem lo8s_app (cs ds : List Int32) : lo8s (cs ++ ds) = lo8s cs ++ lo8s ds := by simp [lo8s]
/-- what a copy behind the first signs leaves -/
theorem put_list {zs : List Value} : ((lo8s cs ++ zs).take cs.length ++ ((lo8s ds).drop 0).take ds.length ++ (lo8s cs ++ zs).drop (cs.length + ds.length)) = lo8s (cs ++ ds) ++ zs.drop ds.length := by
  rw [List.take_append_of_le_length (by rw [lo8s_len]; exact Nat.le_refl _), List.take_of_length_le (by rw [lo8s_len]; exact Nat.le_refl _), List.drop_zero, List.take_of_length_le (by rw [lo8s_len]; exact Nat.le_refl _), lo8s_app]
  have e : (lo8s cs).drop cs.length = [] := List.drop_of_length_le (by rw [lo8s_len]; exact Nat.le_refl _)
  rw [← List.drop_drop, List.drop_append_of_le_length (by rw [lo8s_len]; exact Nat.le_refl _), e, List.nil_append]
theorem pre_list {zs : List Value} {d : Value} : ((List.replicate cs.length d).take 0 ++ ((lo8s cs ++ zs).drop 0).take cs.length ++ (List.replicate cs.length d).drop (0 + cs.length)) = lo8s cs := by
  rw [List.take_zero, List.nil_append, List.drop_zero, List.take_append_of_le_length (by rw [lo8s_len]; exact Nat.le_refl _), List.take_of_length_le (by rw [lo8s_len]; exact Nat.le_refl _), List.drop_of_length_le (by simp), List.append_nil]
end Kit5
end Jvm.OwnKit
namespace Jvm.OwnKit
open Sem ClassFile Op Lib Bundle Jvm.Stand Jvm.Free Jvm.LawKit Jvm.RoadKit
section Kit6
variable {p : Program} {l : Launch} {e : Env} {R : Room} {s : State} {m : MethodId} {args : Array Value} {below : List Frame} {meth : Method} {c : Code} {Z : State} {a0 : Array Value} {EL : List (String × Nat)} {own : String} {Q : Option Value → Vm → Heap → Prop} {vm : Vm} {h h' : Heap} {cells slots : Nat} {g : JFrame}
/-- a private method reached by invokevirtual, the word 'selects' at the receiver's class -/
theorem gldcM {C : String} {index : Nat} {mr : Addr} (hx : p.tables.exec = Jvm.exec) (w : (Cond.classLink own index C).before a0 Z = true) (M : Mir Z C mr) {pc : Nat} (pc' : Nat) {L : Array Slot} {S : List Value} (hd : decode c.code pc = .ok (.ldc index, 2)) (hp : pc + 2 = pc')
    (k : Go p l e R s m args below meth c Z a0 EL own Q vm h cells slots (mkF m pc' L (.ref mr :: S))) : Go p l e R s m args below meth c Z a0 EL own Q vm h cells slots (mkF m pc L S) :=
  gy _ (fun T locs X hZ hown eT => by
    subst hp
    obtain ⟨cc, kc, m1, m2, m3, -⟩ := M
    obtain ⟨k', q, ek⟩ := hZ.alike.2.2 _ _ m2
    have f1 : vm.findClass C = some cc := by rw [hZ.alike.findClass]; exact m1
    have f3 : k'.mirror = some mr := by rw [ek]; exact m3
    have hev : (Term.mirror C).eval args (s.setVm vm) none [] (s.setVm vm) = some (.ref mr) := by simp [Term.eval, f1, q, f3]
    obtain ⟨vm', X', st⟩ := X.ldcMirror hx hown (mv (s := s.setVm vm) hZ w) hev (g := mkF m pc L S) rfl hd
    exact ⟨_, X', eT, st⟩) k
theorem ggcls {C : String} {index : Nat} {mr a : Addr} (hx : p.tables.exec = Jvm.exec) (w1 : (Cond.methodLink own index ⟨"java/lang/Object", "getClass", "()Ljava/lang/Class;"⟩).before a0 Z = true) (w2 : (Cond.declares ⟨"java/lang/Object", "getClass", "()Ljava/lang/Class;"⟩).before a0 Z = true) (w3 : (Cond.noSuperclass "java/lang/Object").before a0 Z = true) (w4 : (Cond.selects C ⟨"java/lang/Object", "getClass", "()Ljava/lang/Class;"⟩ ⟨"java/lang/Object", "getClass", "()Ljava/lang/Class;"⟩).before a0 Z = true)
    (w5 : (Cond.instanceMethod ⟨"java/lang/Object", "getClass", "()Ljava/lang/Class;"⟩).before a0 Z = true) (w6 : (Cond.native ⟨"java/lang/Object", "getClass", "()Ljava/lang/Class;"⟩).before a0 Z = true) (E : Exa Z h a C) (M : Mir Z C mr)
    {pc : Nat} (pc' : Nat) {L : Array Slot} {rest : List Value} {W : Nat} (hW : (rest.map fun v => v.category).sum ≤ W) (hml : L.size = c.maxLocals) (hd : decode c.code pc = .ok (.invokevirtual index, 3)) (hp : pc + 3 = pc') (hf : 1 ≤ R.frames) (hlo : W + (nativeFrameWords "java/lang/Object" "getClass" 1 + 11) ≤ R.locals)
    (k : Go p l e R s m args below meth c Z a0 EL own Q vm h cells slots (mkF m pc' L (.ref mr :: rest))) : Go p l e R s m args below meth c Z a0 EL own Q vm h cells slots (mkF m pc L (.ref a :: rest)) :=
  gy _ (fun T locs X hZ hown eT => by
    subst hp
    exact gcls (s := s.setVm vm) X hx hZ hown w1 w2 w3 w4 w5 w6 eT E M (g := mkF m pc L (.ref a :: rest)) rfl hml rfl hd hf (W := W) (by show 2 * 0 + _ ≤ _; omega) hlo) k
theorem gcopyR {index : Nat} (hx : p.tables.exec = Jvm.exec) (w1 : (Cond.methodLink own index Jvm.Stand.acN).before a0 Z = true) (w2 : (Cond.native Jvm.Stand.acN).before a0 Z = true) (w3 : (Cond.static Jvm.Stand.acN).before a0 Z = true) (w4 : (Cond.initialized "java/lang/System").before a0 Z = true)
    {Ca Cb : String} {a b : Addr} {ka kb : ClassId} {z z' sp dp nn : Int32} {vs vd : List Value} {dv dd : Value} (i j n N M : Nat) (A : Arv Z h a ka (.object Ca) z vs dv) (B : Arv Z h b kb (.object Cb) z' vd dd) (hsp : sp = Int32.ofNat i) (hdp : dp = Int32.ofNat j) (hnn : nn = Int32.ofNat n) (hz : z = Int32.ofNat N) (hz' : z' = Int32.ofNat M)
    (hN : N < 2147483648) (hM : M < 2147483648) (h4 : i + n ≤ N) (h5 : j + n ≤ M) (hvs : vs.length = N) (hvd : vd.length = M) (hsto : StoL Z h b ((vs.drop i).take n)) (ge : Z.heap.size ≤ b) (hs : Z.vm.Alike vm → Safe Z EL vm h b)
    {pc : Nat} (pc' : Nat) {L : Array Slot} {rest : List Value} {W : Nat} (hW : (rest.map fun v => v.category).sum ≤ W) (hml : L.size = c.maxLocals) (hd : decode c.code pc = .ok (.invokestatic index, 3)) (hp : pc + 3 = pc') (hf : 1 ≤ R.frames) (hlo : W + 18 ≤ R.locals)
    (k : ∀ h', Keep h h' [b] → CHq Z EL vm h vm h' → Arv Z h' b kb (.object Cb) z' (vd.take j ++ (vs.drop i).take n ++ vd.drop (j + n)) dd → Go p l e R s m args below meth c Z a0 EL own Q vm h' cells slots (mkF m pc' L rest)) :
    Go p l e R s m args below meth c Z a0 EL own Q vm h cells slots (mkF m pc L (.int nn :: .int dp :: .ref b :: .int sp :: .ref a :: rest)) := fun T X => by
  subst hp hsp hdp hnn hz hz'
  obtain ⟨locs, k0, X', eT, hZ, hown, hS, hk, N0, H, E0, hEL, hx', hlk⟩ := X
  have ti : (Int32.ofNat i).toNatClampNeg = i := tn (by omega)
  have tj : (Int32.ofNat j).toNatClampNeg = j := tn (by omega)
  have tnn : (Int32.ofNat n).toNatClampNeg = n := tn (by omega)
  obtain ⟨T', h', L', X1, e1, F1, K1, V1, st⟩ := cpA (s := s.setVm vm) X' hx hZ hown w1 w2 w3 w4 eT A B (Or.inr ⟨rfl, rfl, hsto⟩) (nn0 (by omega)) (nn0 (by omega)) (nn0 (by omega)) (by rw [ti, tnn, tn hN]; exact h4) (by rw [tj, tnn, tn hM]; exact h5) (us := (vs.drop i).take n) (by rw [ti, tnn]; exact range_get vs dv i n (by omega)) (by rw [tj, tnn]; omega) N0 ge
    (g := mkF m pc L (.int (Int32.ofNat n) :: .int (Int32.ofNat j) :: .ref b :: .int (Int32.ofNat i) :: .ref a :: rest)) rfl hml rfl hd hf (W := W) (by show 2 * 0 + _ ≤ _; omega) (by show W + (7 + 11) ≤ _; omega)
  rw [tj, tnn] at V1
  have C1 : CHq Z EL vm h vm h' := CHq.keep K1 (allS (hs hZ.alike) all0) H.1
  obtain ⟨s2, o, q1, q2⟩ := k h' K1 C1 V1 T' ⟨L', k0, X1, e1, hZ, hown, hS, Nat.le_trans hk K1.1, F1, H.trans C1, E0, hEL, hx', hlk⟩
  exact ⟨s2, o, st _ q1, q2⟩
theorem gcallIN {index : Nat} {host : String} {y : MethodName} {bytes : ByteArray} {maxL : Nat} (hx : p.tables.exec = Jvm.exec) (hyi : y.name = "<init>") (wl : (Cond.methodLinkNest own index y host).before a0 Z = true) (wi : (Cond.instanceMethod y).before a0 Z = true) (wc : (Cond.code y bytes maxL none).before a0 Z = true)
    (hy : y.cls ≠ "java/lang/invoke/MethodHandle" ∧ y.cls ≠ "java/lang/invoke/VarHandle") {W rc rs : Nat} {as' : Array Value} {Q' : Option Value → Vm → Heap → Prop} (hP : Z.Warmed39 vm → CHv Z EL vm h → EW Z a0 EL → Pay l R p e below s args Z EL vm h y 3 W as' rc rs Q')
    {pc : Nat} (pc' : Nat) {L : Array Slot} {S argsL rest : List Value} {a : Addr} (hlen : ∀ sig, parseMethodDescriptor y.desc = some sig → argsL.length = sig.parameters.length) (has : (.ref a :: argsL).toArray = as') (hstk : S = argsL.reverse ++ .ref a :: rest) (hW : (rest.map fun v => v.category).sum ≤ W) (hml : L.size = c.maxLocals)
    (hd : decode c.code pc = .ok (.invokespecial index, 3)) (hp : pc + 3 = pc') (hc : cells + rc ≤ R.cells) (hs : slots + rs ≤ R.slots)
    (k : ∀ v vm' h', CHq Z EL vm h vm' h' → Q' v vm' h' → Go p l e R s m args below meth c Z a0 EL own Q vm' h' (cells + rc) (slots + rs) (mkF m pc' L (v.toList ++ rest))) : Go p l e R s m args below meth c Z a0 EL own Q vm h cells slots (mkF m pc L S) :=
  gback (y := y) (as' := as') (fun T locs X hZ hown eT H hEL => by
    subst has hp hstk
    exact X.specialBackNestS (s := s.setVm vm) hx hyi hown (Cond.methodLinkNest_wide hZ wl :) (mvT hZ wi) (mvT hZ wc) hy (hP hZ H hEL) (g := mkF m pc L _) rfl hml (Steps.refl _) hlen rfl (by show 2 * 0 + _ ≤ _; omega) hd (fun _ _ => ⟨rfl, eT, hc, hs⟩)) k
theorem gnewPE {aty : ArrayType} {ad : String} (hx : p.tables.exec = Jvm.exec) (w : (Cond.arrayClass (newarray.typeOf aty)).before a0 Z = true) {n : Int32} (hn : ¬ n < 0) {cap : Nat} (hcap : n.toNatClampNeg ≤ cap) (hb : cap * 8 ≤ 536870912) (had : "[" ++ (newarray.typeOf aty).toString = ad)
    {pc : Nat} (pc' : Nat) {L : Array Slot} {S : List Value} (hd : decode c.code pc = .ok (.newarray aty, 2)) (hp : pc + 2 = pc') (hc : cells + 1 ≤ R.cells) (hl : slots + cap ≤ R.slots)
    (k : ∀ (b : Addr) (h' : Heap) (cA : ClassId), h.size = b → Ext h h' → CHq Z EL vm h vm h' → Arv Z h' b cA (newarray.typeOf aty) n [] (defaultValue (newarray.typeOf aty)) → Exa Z h' b ad → Z.heap.size ≤ b → Safe Z EL vm h' b → Go p l e R s m args below meth c Z a0 EL own Q vm h' (cells + 1) (slots + cap) (mkF m pc' L (.ref b :: S))) :
    Go p l e R s m args below meth c Z a0 EL own Q vm h cells slots (mkF m pc L (.int n :: S)) :=
  gnew (P := fun h' => ∃ cA, Arv Z h' h.size cA (newarray.typeOf aty) n [] (defaultValue (newarray.typeOf aty)) ∧ Exa Z h' h.size ad) (fun _ => mkF m pc' L (.ref h.size :: S))
    (fun T locs X hZ hown eT => by
      subst hp
      obtain ⟨T', h', cA, X', e', E, A, XE, st⟩ := newPE (s := s.setVm vm) X hx hZ w eT (g := mkF m pc L (.int n :: S)) rfl hd rfl hn hcap hb hc hl had
      exact ⟨T', h', X', e', E, ⟨cA, Arv.new A hn, XE⟩, st⟩)
    (fun h' E hC hP hz hs => by obtain ⟨cA, V, XE⟩ := hP; exact k _ h' cA rfl E hC V XE hz hs)
end Kit6
end Jvm.OwnKit
namespace Jvm.OwnKit
open Sem ClassFile Op Lib Bundle Jvm.Stand Jvm.Free Jvm.LawKit Jvm.RoadKit
section Kit7
variable {p : Program} {l : Launch} {e : Env} {R : Room} {s : State} {m : MethodId} {args : Array Value} {below : List Frame} {meth : Method} {c : Code} {Z : State} {a0 : Array Value} {EL : List (String × Nat)} {own : String} {Q : Option Value → Vm → Heap → Prop} {vm : Vm} {h h' : Heap} {cells slots : Nat} {g : JFrame}
end Kit7
end Jvm.OwnKit
namespace Jvm.OwnKit
open Sem ClassFile Op Lib Bundle Jvm.Stand Jvm.Free Jvm.LawKit Jvm.RoadKit
section Kit8
variable {p : Program} {l : Launch} {e : Env} {R : Room} {s : State} {m : MethodId} {args : Array Value} {below : List Frame} {meth : Method} {c : Code} {Z : State} {a0 : Array Value} {EL : List (String × Nat)} {own : String} {Q : Option Value → Vm → Heap → Prop} {vm : Vm} {h h' : Heap} {cells slots : Nat} {g : JFrame}
variable {bytes : ByteArray} {pc n : Nat} {nf : Fin 4} {L : Array Slot} {S : List Value} {v : Value} {z y : Int32} {i : Int}
theorem gcallVU {index : Nat} {C owner : String} {y z : MethodName} (hx : p.tables.exec = Jvm.exec) (wl : (Cond.methodLink own index y).before a0 Z = true) (wsm : (Cond.sameMethod y.cls owner y.name y.desc).before a0 Z = true) (wd : (Cond.declares ⟨owner, y.name, y.desc⟩).before a0 Z = true) (wsel : (Cond.selects C y z).before a0 Z = true) (wi : (Cond.instanceMethod z).before a0 Z = true)
    (hy : owner ≠ "java/lang/invoke/MethodHandle" ∧ owner ≠ "java/lang/invoke/VarHandle") {W rc rs : Nat} {as' : Array Value} {Q' : Option Value → Vm → Heap → Prop} (hP : Z.Warmed39 vm → CHv Z EL vm h → EW Z a0 EL → Pay l R p e below s args Z EL vm h z 3 W as' rc rs Q')
    {pc : Nat} (pc' : Nat) {L : Array Slot} {S argsL rest : List Value} {a : Addr} (E : Exa Z h a C) (hlen : ∀ sig, parseMethodDescriptor y.desc = some sig → argsL.length = sig.parameters.length) (has : (.ref a :: argsL).toArray = as') (hstk : S = argsL.reverse ++ .ref a :: rest) (hW : (rest.map fun v => v.category).sum ≤ W) (hml : L.size = c.maxLocals)
    (hd : decode c.code pc = .ok (.invokevirtual index, 3)) (hp : pc + 3 = pc') (hc : cells + rc ≤ R.cells) (hs : slots + rs ≤ R.slots)
    (k : ∀ v vm' h', CHq Z EL vm h vm' h' → Q' v vm' h' → Go p l e R s m args below meth c Z a0 EL own Q vm' h' (cells + rc) (slots + rs) (mkF m pc' L (v.toList ++ rest))) : Go p l e R s m args below meth c Z a0 EL own Q vm h cells slots (mkF m pc L S) :=
  gback (y := z) (as' := as') (fun T locs X hZ hown eT H hEL => by
    subst has hp hstk
    obtain ⟨cB, kB, h1, h2, h3⟩ := isOf (s := s.setVm vm) hZ eT E
    exact X.virtualBackUpS (s := s.setVm vm) hx hown (mvT hZ wl) (mvT hZ wsm) (mvT hZ wd) hy (mvT hZ wsel) (mvT hZ wi) (hP hZ H hEL) h1 h3 (g := mkF m pc L _) rfl hml (Steps.refl _) hlen rfl (by show 2 * 0 + _ ≤ _; omega) hd (fun _ _ => ⟨rfl, eT, hc, hs⟩)) k
end Kit8
end Jvm.OwnKit
namespace Jvm.OwnKit
open Sem ClassFile Op Lib Bundle Jvm.Stand Jvm.Free Jvm.LawKit Jvm.RoadKit
section Kit9
variable {p : Program} {l : Launch} {e : Env} {R : Room} {s : State} {m : MethodId} {args : Array Value} {below : List Frame} {meth : Method} {c : Code} {Z : State} {a0 : Array Value} {EL : List (String × Nat)} {own : String} {Q : Option Value → Vm → Heap → Prop} {vm : Vm} {h h' : Heap} {cells slots : Nat} {g : JFrame}
variable {bytes : ByteArray} {pc n : Nat} {nf : Fin 4} {L : Array Slot} {S : List Value} {v : Value} {z y : Int32} {i : Int}
variable {cd : ClassFile.Cond} {b : Addr}
theorem gat1 (k : Go p l e R s m args below meth c Z a0 EL own Q vm h cells slots (mkF m pc L (v :: S))) : Go p l e R s m args below meth c Z a0 EL own Q vm h cells slots (mkF m pc L ((some v).toList ++ S)) := k
theorem gat0 (k : Go p l e R s m args below meth c Z a0 EL own Q vm h cells slots (mkF m pc L S)) : Go p l e R s m args below meth c Z a0 EL own Q vm h cells slots (mkF m pc L ((none : Option Value).toList ++ S)) := k
end Kit9
end Jvm.OwnKit
namespace Jvm.OwnKit
open Sem ClassFile Op Lib Bundle Jvm.Stand Jvm.Free Jvm.LawKit Jvm.RoadKit
section Kit10
variable {p : Program} {l : Launch} {e : Env} {R : Room} {s : State} {m : MethodId} {args : Array Value} {below : List Frame} {meth : Method} {c : Code} {Z : State} {a0 : Array Value} {EL : List (String × Nat)} {own : String} {Q : Option Value → Vm → Heap → Prop} {vm : Vm} {h : Heap} {cells slots : Nat} {g : JFrame}
/-! calls -/
theorem gldcRq {index : Nat} {text : String} (hx : p.tables.exec = Jvm.exec) (w : (Cond.stringLink own index text).before a0 Z = true) (wS : ∀ a ∈ Bundle.stringAtoms, a.before a0 Z = true) (hmem : (own, index) ∈ EL) {n : Nat} (hn : 4 * text.toList.length ≤ n) (hbig : n ≤ 536870912)
    {vs : List Value} {z : Int32} (ht : (∀ c ∈ text.toList, c.toNat < 256) ∧ text.toList.map (fun c => Value.int (Jvm.Lit.byteI c.toNat.toUInt16)) = vs) (hz : ¬ z < 0) (hlz : z.toNatClampNeg = vs.length)
    {pc : Nat} (pc' : Nat) {L : Array Slot} {S : List Value} (hd : decode c.code pc = .ok (.ldc index, 2)) (hp : pc + 2 = pc') (hc : cells + 2 ≤ R.cells) (hl : slots + (n + 4) ≤ R.slots)
    (k : ∀ (a b : Addr) (kb : ClassId) (vm' : Vm) (h' : Heap), Ext h h' → CHq Z EL vm h vm' h' → Exa Z h' a "java/lang/String" → Fld Z h' a "java/lang/String" "coder" "B" (.int 0) → Fld Z h' a "java/lang/String" "value" "[B" (.ref b) → Arv Z h' b kb .byte z vs (.int 0) → (∀ x, Safe Z EL vm' h' x → x ≠ a ∧ x ≠ b) →
      Go p l e R s m args below meth c Z a0 EL own Q vm' h' (cells + 2) (slots + (n + 4)) (mkF m pc' L (.ref a :: S))) : Go p l e R s m args below meth c Z a0 EL own Q vm h cells slots (mkF m pc L S) := fun T X => by
  subst hp
  obtain ⟨locs, k0, X', eT, hZ, hown, hS, hk, N, H, E0, hEL, hx', hlk⟩ := X
  obtain ⟨a, T', h', k1, b, kb, X1, e1, E, hS1, hk1, hZ1, ho1, F1, F2, F3, F4, -, -, hC, -, F5, st⟩ := ldcCH X' hx hZ hown w wS eT hS hk hEL hmem H.1 ht hz hlz (g := mkF m pc L S) rfl hd hn hbig hc hl
  have hC := CHq.up hC (fun q => by rw [q] at hmem; cases hmem)
  obtain ⟨s2, o, q1, q2⟩ := k a b kb T'.vm h' E hC F1 F2 F3 F4 F5 T' ⟨locs, k1, X1, e1, hZ1, ho1, hS1, hk1, N, H.trans hC, E0, hEL, hx', hlk⟩
  exact ⟨s2, o, st _ q1, q2⟩
/-- a method with an exception table, whose walk throws and interns nothing -/
def MetH (l : Launch) (y : MethodName) (bytes : ByteArray) (maxL : Nat) (ret : Option FieldType) (hs : List (Nat × Nat × Nat × Nat)) (rm : Room) (Z : State) (vm0 : Vm) (h0 : Heap) (as' : Array Value) (Q1 : Option Value → Heap → Prop) : Prop :=
  MetFree l y (head1 [Jvm.Cond.codeWith y bytes maxL ret hs] rm) (fun a U => a = as' ∧ Z.Warmed39 U.vm ∧ U.heap = h0 ∧ CHq Z [] vm0 h0 U.vm h0 ∧ (Z.setVm vm0).Warmed39 U.vm) (fun _ _ _ _ _ => True)
    (fun _ U o U' => ∃ v L, o = .returned v ∧ (Fr Z.heap.size L ∧ Q1 v U'.heap) ∧ FrameEnd U o U' L rm.cells rm.slots)
theorem MetH.of_walk {y : MethodName} {bytes : ByteArray} {maxL : Nat} {ret : Option FieldType} {hs : List (Nat × Nat × Nat × Nat)} {rm : Room} {vm0 : Vm} {h0 : Heap} {as' : Array Value} {Q1 : Option Value → Heap → Prop} (L0 : Array Slot) (hpn : plainFor y = true) (X00 : Ext Z.heap h0)
    (hef : ∀ m, entryFrame m as' maxL = mkF m 0 L0 [])
    (walk : ∀ (p : Program) (e : Env) (s : State) (m : MethodId) (below : List Frame) (meth : Method) (c : Code) (vm : Vm), p.tables.exec = Jvm.exec → c.code = bytes → c.maxLocals = maxL → meth.sig.returnType = ret → meth.name = y.name → CHq Z [] vm0 h0 vm h0 → (Z.setVm vm0).Warmed39 vm →
      Go p l e rm s m as' below meth c Z a0 [] y.cls (fun v _ h => Q1 v h) vm h0 0 0 (mkF m 0 L0 [])) : MetH l y bytes maxL ret hs rm Z vm0 h0 as' Q1 := by
  refine MetFree.of_bodySF hpn hisWith ?_
  intro p e s m args below meth c s₁ Bd hml0 hP hK
  obtain ⟨rfl, hZ, hh, hC, hW0⟩ := hP
  have X0 : Stand p l e rm s m args below meth c s₁ [] 0 0 := Stand.of_body Bd
  have e0 : s₁.heap = h0 := by rw [← hh, Bd.state]; rfl
  obtain ⟨s2, o, q1, qx, qy, v, L, e1, e2, e3, e4⟩ := walk p e s m below meth c s.vm Bd.exec Bd.bytes hml0 Bd.returns (name_of_methodNamed Bd.named Bd.method).1 hC hW0 s₁
    ⟨[], 0, X0, e0, hZ, findClass_of_methodNamed Bd.named, (State.WarmedH.refl s).since 0, Nat.zero_le _, Fr.nil _, by rw [hh]; exact CHq.refl hC.1, by rw [hh]; exact X00, EW.nil (a0 := a0), Bd.exec, Bd.notSynchronized⟩
  exact ⟨s2, o, by rw [hef]; exact q1, qx, qy, v, L, e1, e2, ⟨e4.1, State.WarmedH.of_rootvm (s := Z.setVm s.vm) rfl (e3.2.2.2 rfl), e4.2.2.2⟩⟩
theorem Pay.of_metH {y : MethodName} {bytes : ByteArray} {maxL : Nat} {ret : Option FieldType} {hs : List (Nat × Nat × Nat × Nat)} {rm : Room} {len W : Nat} {as' : Array Value} {Q1 : Option Value → Heap → Prop} {ws : List Addr} (hM : MetH l y bytes maxL ret hs rm Z vm h as' Q1)
    (wc : (Jvm.Cond.codeWith y bytes maxL ret hs).before a0 Z = true) (wz : (Jvm.Cond.initialized y.cls).before a0 Z = true) (hf : rm.frames + 1 ≤ R.frames) (hl : W + (maxL + 11) + rm.locals ≤ R.locals) (hZ : Z.Warmed39 vm) (H : CHv Z EL vm h) (hEL : EW Z a0 EL)
    (hk : ∀ v h', Q1 v h' → Keep h h' ws) (hs' : ∀ x ∈ ws, Safe Z EL vm h x) : Pay l R p e below s args Z EL vm h y len W as' rm.cells rm.slots (fun v _ h' => Q1 v h') :=
  Pay.of_back (Q0 := fun v h' L => Fr Z.heap.size L ∧ Q1 v h')
    (Back.of_freeWith (bytes := bytes) (maxL := maxL) (ret := ret) (handlers := hs) (E := fun _ _ o t L k n => k = rm.cells ∧ n = rm.slots ∧ ∃ v, o = .returned v ∧ (Fr Z.heap.size L ∧ Q1 v t.heap)) hM hf hl
      (fun m meth c A a Y hp => have hU : Z.Warmed39 A.U.vm := wtrans (s := s.setVm vm) hZ Y.warmed
        ⟨by show (Jvm.Cond.and _ .tt).before a A.U = true; rw [Cond.before_and, mv hU wc]; rfl, mv hU wc, mv hU wz, hp.2.2.1, hp.2.2.2⟩)
      (fun m meth c A a g mk Y hp => ⟨hp.1, wtrans (s := s.setVm vm) hZ Y.warmed, hp.2.1, (show CHq Z [] vm h A.U.vm h from CHq.at Y hZ (EW.nil (a0 := a0)) (fun _ q => by cases q)), State.Warmed39.of_rootvm (s := s.setVm vm) rfl (show (s.setVm vm).Warmed39 A.U.vm from Y.warmed.wide)⟩) (fun _ _ _ _ _ _ _ _ _ => trivial)
      (fun _ _ _ _ ⟨v, L, h1, h2, h3⟩ => ⟨L, _, _, h3, rfl, rfl, v, h1, h2⟩)
      (fun m meth c A a g mk v t L k n Y hp _ _ ⟨e1, e2, v', e3, e4⟩ => by cases e3; subst e1 e2; exact ⟨L, e4, rfl, rfl, rfl⟩))
    hZ H hEL (fun v h' L q => ⟨q.1, ⟨ws, hk _ _ q.2, hs'⟩, fun _ _ => q.2⟩)
end Kit10
end Jvm.OwnKit
namespace Jvm.OwnKit
open Sem ClassFile Op Lib Bundle Jvm.Stand Jvm.Free Jvm.LawKit Jvm.RoadKit
section Kit11
variable {p : Program} {l : Launch} {e : Env} {R : Room} {s : State} {m : MethodId} {args : Array Value} {below : List Frame} {meth : Method} {c : Code} {Z : State} {a0 : Array Value} {EL : List (String × Nat)} {own : String} {Q : Option Value → Vm → Heap → Prop} {vm : Vm} {h : Heap} {cells slots : Nat} {g : JFrame}
/-! calls -/
theorem gmS {index : Nat} {y : MethodName} {bz : ByteArray} {mz : Nat} {rz : Option FieldType} {rm : Room} {as' : Array Value} {Q' : Option Value → Vm → Heap → Prop} (wl : (Cond.methodLink own index y).before a0 Z = true) (wst : (Cond.static y).before a0 Z = true) (wcz : (Cond.code y bz mz rz).before a0 Z = true) (wz : (Cond.initialized y.cls).before a0 Z = true) (hM : Ext Z.heap h → Met l y bz mz rz [] rm Z EL vm h as' Q')
    {pc : Nat} (pc' : Nat) {L : Array Slot} {S argsL rest : List Value} {nL : Nat} {ps : List FieldType} {r : Option FieldType} (hps : parseMethodDescriptor y.desc = some ⟨ps, r⟩) {bytes : ByteArray} (hd : decode bytes pc = .ok (.invokestatic index, 3))
    (k : ∀ v vm' h', CHq Z EL vm h vm' h' → h.size ≤ h'.size → Q' v vm' h' → Go p l e R s m args below meth c Z a0 EL own Q vm' h' (cells + rm.cells) (slots + rm.slots) (mkF m pc' L (v.toList ++ rest))) (hx : p.tables.exec = Jvm.exec := by assumption) (hby : c.code = bytes := by assumption) (hm : c.maxLocals = nL := by assumption) (hstk : S = argsL.reverse ++ rest := by rfl) (hlen : argsL.length = ps.length := by rfl) (has : argsL.toArray = as' := by rfl) (hL : L.size = nL := by rfl) (hp : pc + 3 = pc' := by rfl)
    (hy : y.cls ≠ "java/lang/invoke/MethodHandle" ∧ y.cls ≠ "java/lang/invoke/VarHandle" := by decide) (hf : rm.frames + 1 ≤ R.frames := by decide) (hl : (rest.map fun v => v.category).sum + (mz + 11) + rm.locals ≤ R.locals := by exact Nat.le_of_ble_eq_true rfl) (hc : cells + rm.cells ≤ R.cells := by decide) (hs : slots + rm.slots ≤ R.slots := by decide) : Go p l e R s m args below meth c Z a0 EL own Q vm h cells slots (mkF m pc L S) :=
  ginfo fun _ _ O => gcallS hx wl wst wz wcz hy (fun hZ H hEL => Pay.of_met (W := (rest.map fun v => v.category).sum) (hM O) wcz wz hf hl hZ H hEL) pc' (lenOf hps hlen) has hstk (Nat.le_refl _) (hL.trans hm.symm) (hb hby hd) hp hc hs (fun v vm' h' C q => k v vm' h' C C.2.1 q)
theorem gmI {index : Nat} {y : MethodName} {bz : ByteArray} {mz : Nat} {rm : Room} {as' : Array Value} {Q' : Option Value → Vm → Heap → Prop} (hyi : y.name = "<init>") (wl : (Cond.methodLink own index y).before a0 Z = true) (wi : (Cond.instanceMethod y).before a0 Z = true) (wcz : (Cond.code y bz mz none).before a0 Z = true) (wz : (Cond.initialized y.cls).before a0 Z = true) (hM : Ext Z.heap h → Met l y bz mz none [] rm Z EL vm h as' Q')
    {pc : Nat} (pc' : Nat) {L : Array Slot} {S argsL rest : List Value} {a : Addr} {nL : Nat} {ps : List FieldType} {r : Option FieldType} (hps : parseMethodDescriptor y.desc = some ⟨ps, r⟩) {bytes : ByteArray} (hd : decode bytes pc = .ok (.invokespecial index, 3))
    (k : ∀ v vm' h', CHq Z EL vm h vm' h' → h.size ≤ h'.size → Q' v vm' h' → Go p l e R s m args below meth c Z a0 EL own Q vm' h' (cells + rm.cells) (slots + rm.slots) (mkF m pc' L (v.toList ++ rest))) (hx : p.tables.exec = Jvm.exec := by assumption) (hby : c.code = bytes := by assumption) (hm : c.maxLocals = nL := by assumption) (hstk : S = argsL.reverse ++ .ref a :: rest := by rfl) (hlen : argsL.length = ps.length := by rfl) (has : (.ref a :: argsL).toArray = as' := by rfl) (hL : L.size = nL := by rfl) (hp : pc + 3 = pc' := by rfl)
    (hy : y.cls ≠ "java/lang/invoke/MethodHandle" ∧ y.cls ≠ "java/lang/invoke/VarHandle" := by decide) (hf : rm.frames + 1 ≤ R.frames := by decide) (hl : (rest.map fun v => v.category).sum + (mz + 11) + rm.locals ≤ R.locals := by exact Nat.le_of_ble_eq_true rfl) (hc : cells + rm.cells ≤ R.cells := by decide) (hs : slots + rm.slots ≤ R.slots := by decide) : Go p l e R s m args below meth c Z a0 EL own Q vm h cells slots (mkF m pc L S) :=
  ginfo fun _ _ O => gcallI hx hyi wl wi wcz hy (fun hZ H hEL => Pay.of_met (W := (rest.map fun v => v.category).sum) (hM O) wcz wz hf hl hZ H hEL) pc' (lenOf hps hlen) has hstk (Nat.le_refl _) (hL.trans hm.symm) (hb hby hd) hp hc hs (fun v vm' h' C q => k v vm' h' C C.2.1 q)
theorem gmV {index : Nat} {C : String} {y z : MethodName} {bz : ByteArray} {mz : Nat} {rz : Option FieldType} {rm : Room} {as' : Array Value} {Q' : Option Value → Vm → Heap → Prop} (wl : (Cond.methodLink own index y).before a0 Z = true) (wd : (Cond.declares y).before a0 Z = true) (nf : ∀ (U : State), Z.Warmed39 U.vm → NotFace U y) (wsel : (Cond.selects C y z).before a0 Z = true) (wi : (Cond.instanceMethod z).before a0 Z = true) (wcz : (Cond.code z bz mz rz).before a0 Z = true) (wz : (Cond.initialized z.cls).before a0 Z = true) (hM : Ext Z.heap h → Met l z bz mz rz [] rm Z EL vm h as' Q')
    {pc : Nat} (pc' : Nat) {L : Array Slot} {S argsL rest : List Value} {a : Addr} {nL : Nat} {ps : List FieldType} {r : Option FieldType} (E : Exa Z h a C) (hps : parseMethodDescriptor y.desc = some ⟨ps, r⟩) {bytes : ByteArray} (hd : decode bytes pc = .ok (.invokevirtual index, 3))
    (k : ∀ v vm' h', CHq Z EL vm h vm' h' → h.size ≤ h'.size → Q' v vm' h' → Go p l e R s m args below meth c Z a0 EL own Q vm' h' (cells + rm.cells) (slots + rm.slots) (mkF m pc' L (v.toList ++ rest))) (hx : p.tables.exec = Jvm.exec := by assumption) (hby : c.code = bytes := by assumption) (hm : c.maxLocals = nL := by assumption) (hstk : S = argsL.reverse ++ .ref a :: rest := by rfl) (hlen : argsL.length = ps.length := by rfl) (has : (.ref a :: argsL).toArray = as' := by rfl) (hL : L.size = nL := by rfl) (hp : pc + 3 = pc' := by rfl)
    (hy : y.cls ≠ "java/lang/invoke/MethodHandle" ∧ y.cls ≠ "java/lang/invoke/VarHandle" := by decide) (hf : rm.frames + 1 ≤ R.frames := by decide) (hl : (rest.map fun v => v.category).sum + (mz + 11) + rm.locals ≤ R.locals := by exact Nat.le_of_ble_eq_true rfl) (hc : cells + rm.cells ≤ R.cells := by decide) (hs : slots + rm.slots ≤ R.slots := by decide) : Go p l e R s m args below meth c Z a0 EL own Q vm h cells slots (mkF m pc L S) :=
  ginfo fun _ _ O => gcallV (z := z) hx wl wd nf wsel wi hy (fun hZ H hEL => Pay.of_met (W := (rest.map fun v => v.category).sum) (hM O) wcz wz hf hl hZ H hEL) pc' E (lenOf hps hlen) has hstk (Nat.le_refl _) (hL.trans hm.symm) (hb hby hd) hp hc hs (fun v vm' h' C q => k v vm' h' C C.2.1 q)
theorem gmVU {index : Nat} {C owner : String} {y z : MethodName} {bz : ByteArray} {mz : Nat} {rz : Option FieldType} {rm : Room} {as' : Array Value} {Q' : Option Value → Vm → Heap → Prop} (wl : (Cond.methodLink own index y).before a0 Z = true) (wsm : (Cond.sameMethod y.cls owner y.name y.desc).before a0 Z = true) (wd : (Cond.declares ⟨owner, y.name, y.desc⟩).before a0 Z = true) (wsel : (Cond.selects C y z).before a0 Z = true) (wi : (Cond.instanceMethod z).before a0 Z = true) (wcz : (Cond.code z bz mz rz).before a0 Z = true) (wz : (Cond.initialized z.cls).before a0 Z = true) (hM : Ext Z.heap h → Met l z bz mz rz [] rm Z EL vm h as' Q')
    {pc : Nat} (pc' : Nat) {L : Array Slot} {S argsL rest : List Value} {a : Addr} {nL : Nat} {ps : List FieldType} {r : Option FieldType} (E : Exa Z h a C) (hps : parseMethodDescriptor y.desc = some ⟨ps, r⟩) {bytes : ByteArray} (hd : decode bytes pc = .ok (.invokevirtual index, 3))
    (k : ∀ v vm' h', CHq Z EL vm h vm' h' → h.size ≤ h'.size → Q' v vm' h' → Go p l e R s m args below meth c Z a0 EL own Q vm' h' (cells + rm.cells) (slots + rm.slots) (mkF m pc' L (v.toList ++ rest))) (hx : p.tables.exec = Jvm.exec := by assumption) (hby : c.code = bytes := by assumption) (hm : c.maxLocals = nL := by assumption) (hstk : S = argsL.reverse ++ .ref a :: rest := by rfl) (hlen : argsL.length = ps.length := by rfl) (has : (.ref a :: argsL).toArray = as' := by rfl) (hL : L.size = nL := by rfl) (hp : pc + 3 = pc' := by rfl)
    (hy : owner ≠ "java/lang/invoke/MethodHandle" ∧ owner ≠ "java/lang/invoke/VarHandle" := by decide) (hf : rm.frames + 1 ≤ R.frames := by decide) (hl : (rest.map fun v => v.category).sum + (mz + 11) + rm.locals ≤ R.locals := by exact Nat.le_of_ble_eq_true rfl) (hc : cells + rm.cells ≤ R.cells := by decide) (hs : slots + rm.slots ≤ R.slots := by decide) : Go p l e R s m args below meth c Z a0 EL own Q vm h cells slots (mkF m pc L S) :=
  ginfo fun _ _ O => gcallVU (z := z) hx wl wsm wd wsel wi hy (fun hZ H hEL => Pay.of_met (W := (rest.map fun v => v.category).sum) (hM O) wcz wz hf hl hZ H hEL) pc' E (lenOf hps hlen) has hstk (Nat.le_refl _) (hL.trans hm.symm) (hb hby hd) hp hc hs (fun v vm' h' C q => k v vm' h' C C.2.1 q)
theorem gmF {index count : Nat} {C : String} {xi y : MethodName} {bz : ByteArray} {mz : Nat} {rz : Option FieldType} {rm : Room} {as' : Array Value} {Q' : Option Value → Vm → Heap → Prop} (wl : (Cond.methodLink own index xi).before a0 Z = true) (wd : (Cond.declares xi).before a0 Z = true) (wf : ∀ (U : State) (aa : Array Value), Z.Warmed39 U.vm → (Cond.interfaceMethod xi.cls xi.cls xi.name xi.desc).before aa U = true) (wsel : (Cond.selects C xi y).before a0 Z = true) (wi : (Cond.instanceMethod y).before a0 Z = true) (wp : (Cond.publicMethod y).before a0 Z = true) (wu : (Cond.unhidden C xi.name xi.desc).before a0 Z = true) (wca : (Cond.castable C xi.cls).before a0 Z = true) (wcz : (Cond.code y bz mz rz).before a0 Z = true) (wz : (Cond.initialized y.cls).before a0 Z = true) (hM : Ext Z.heap h → Met l y bz mz rz [] rm Z EL vm h as' Q')
    {pc : Nat} (pc' : Nat) {L : Array Slot} {S argsL rest : List Value} {a : Addr} {nL : Nat} {ps : List FieldType} {r : Option FieldType} (E : Exa Z h a C) (hps : parseMethodDescriptor xi.desc = some ⟨ps, r⟩) {bytes : ByteArray} (hd : decode bytes pc = .ok (.invokeinterface index count, 5))
    (k : ∀ v vm' h', CHq Z EL vm h vm' h' → h.size ≤ h'.size → Q' v vm' h' → Go p l e R s m args below meth c Z a0 EL own Q vm' h' (cells + rm.cells) (slots + rm.slots) (mkF m pc' L (v.toList ++ rest))) (hx : p.tables.exec = Jvm.exec := by assumption) (hby : c.code = bytes := by assumption) (hm : c.maxLocals = nL := by assumption) (hstk : S = argsL.reverse ++ .ref a :: rest := by rfl) (hlen : argsL.length = ps.length := by rfl) (has : (.ref a :: argsL).toArray = as' := by rfl) (hL : L.size = nL := by rfl) (hp : pc + 5 = pc' := by rfl)
    (hy : xi.cls ≠ "java/lang/invoke/MethodHandle" ∧ xi.cls ≠ "java/lang/invoke/VarHandle" := by decide) (hf : rm.frames + 1 ≤ R.frames := by decide) (hl : (rest.map fun v => v.category).sum + (mz + 11) + rm.locals ≤ R.locals := by exact Nat.le_of_ble_eq_true rfl) (hc : cells + rm.cells ≤ R.cells := by decide) (hs : slots + rm.slots ≤ R.slots := by decide) : Go p l e R s m args below meth c Z a0 EL own Q vm h cells slots (mkF m pc L S) :=
  ginfo fun _ _ O => gcallF hx wl wd wf wsel wi wp wu wca hy (fun hZ H hEL => Pay.of_met (W := (rest.map fun v => v.category).sum) (hM O) wcz wz hf hl hZ H hEL) pc' E (lenOf hps hlen) has hstk (Nat.le_refl _) (hL.trans hm.symm) (hb hby hd) hp hc hs (fun v vm' h' C q => k v vm' h' C C.2.1 q)
end Kit11
end Jvm.OwnKit
namespace Jvm.OwnKit
open Sem ClassFile Op Lib Bundle Jvm.Stand Jvm.Free Jvm.LawKit Jvm.RoadKit
section Kit12
variable {p : Program} {l : Launch} {e : Env} {R : Room} {s : State} {m : MethodId} {args : Array Value} {below : List Frame} {meth : Method} {c : Code} {Z : State} {a0 : Array Value} {EL : List (String × Nat)} {own : String} {Q : Option Value → Vm → Heap → Prop} {vm : Vm} {h h' : Heap} {cells slots : Nat} {g : JFrame}
variable {bytes : ByteArray} {pc n : Nat} {nf : Fin 4} {L : Array Slot} {S : List Value} {v : Value} {z y : Int32} {i : Int}
variable {cd : ClassFile.Cond} {b : Addr}
theorem vA (pc' : Nat) (hd : decode bytes pc = .ok (.aload n, 2)) (k : Go p l e R s m args below meth c Z a0 EL own Q vm h cells slots (mkF m pc' L (v :: S))) (hx : p.tables.exec = Jvm.exec := by assumption) (hby : c.code = bytes := by assumption) (hp : pc + 2 = pc' := by exact rfl) (hl : L[n]? = some (.val v) := by exact rfl) (hv : v.isRef = true := by exact rfl) : Go p l e R s m args below meth c Z a0 EL own Q vm h cells slots (mkF m pc L S) := by
  subst hp
  exact gs _ (fun _ _ A kq => XS.aload A hx rfl (hb hby hd) hl hv kq) k
theorem vAN (pc' : Nat) (hd : decode bytes pc = .ok (.aload_n nf, 1)) (k : Go p l e R s m args below meth c Z a0 EL own Q vm h cells slots (mkF m pc' L (v :: S))) (hx : p.tables.exec = Jvm.exec := by assumption) (hby : c.code = bytes := by assumption) (hp : pc + 1 = pc' := by exact rfl) (hl : L[nf.val]? = some (.val v) := by exact rfl) (hv : v.isRef = true := by exact rfl) : Go p l e R s m args below meth c Z a0 EL own Q vm h cells slots (mkF m pc L S) := by
  subst hp
  exact gs _ (fun _ _ A kq => XS.aloadN A hx rfl (hb hby hd) hl hv kq) k
theorem vI (pc' : Nat) (hd : decode bytes pc = .ok (.iload n, 2)) (k : Go p l e R s m args below meth c Z a0 EL own Q vm h cells slots (mkF m pc' L (.int z :: S))) (hx : p.tables.exec = Jvm.exec := by assumption) (hby : c.code = bytes := by assumption) (hp : pc + 2 = pc' := by exact rfl) (hl : L[n]? = some (.val (.int z)) := by exact rfl) : Go p l e R s m args below meth c Z a0 EL own Q vm h cells slots (mkF m pc L S) := by
  subst hp
  exact gs _ (fun _ _ A kq => XS.iload A hx rfl (hb hby hd) hl kq) k
theorem vIN (pc' : Nat) (hd : decode bytes pc = .ok (.iload_n nf, 1)) (k : Go p l e R s m args below meth c Z a0 EL own Q vm h cells slots (mkF m pc' L (.int z :: S))) (hx : p.tables.exec = Jvm.exec := by assumption) (hby : c.code = bytes := by assumption) (hp : pc + 1 = pc' := by exact rfl) (hl : L[nf.val]? = some (.val (.int z)) := by exact rfl) : Go p l e R s m args below meth c Z a0 EL own Q vm h cells slots (mkF m pc L S) := by
  subst hp
  exact gs _ (fun _ _ A kq => XS.iloadN A hx rfl (hb hby hd) hl kq) k
theorem vD (pc' : Nat) (hd : decode bytes pc = .ok (.dup, 1)) (k : Go p l e R s m args below meth c Z a0 EL own Q vm h cells slots (mkF m pc' L (v :: v :: S))) (hx : p.tables.exec = Jvm.exec := by assumption) (hby : c.code = bytes := by assumption) (hp : pc + 1 = pc' := by exact rfl) (hc : v.category = 1 := by exact rfl) : Go p l e R s m args below meth c Z a0 EL own Q vm h cells slots (mkF m pc L (v :: S)) := by
  subst hp
  exact gs _ (fun _ _ A kq => XS.dup A hx rfl (hb hby hd) rfl hc kq) k
theorem vP (pc' : Nat) (hd : decode bytes pc = .ok (.pop, 1)) (k : Go p l e R s m args below meth c Z a0 EL own Q vm h cells slots (mkF m pc' L S)) (hx : p.tables.exec = Jvm.exec := by assumption) (hby : c.code = bytes := by assumption) (hp : pc + 1 = pc' := by exact rfl) (hc : v.category = 1 := by exact rfl) : Go p l e R s m args below meth c Z a0 EL own Q vm h cells slots (mkF m pc L (v :: S)) := by
  subst hp
  exact gs _ (fun _ _ A kq => XS.pop A hx rfl (hb hby hd) rfl hc kq) k
theorem vU (pc' : Nat) (hd : decode bytes pc = .ok (.aconst_null, 1)) (k : Go p l e R s m args below meth c Z a0 EL own Q vm h cells slots (mkF m pc' L (.null :: S))) (hx : p.tables.exec = Jvm.exec := by assumption) (hby : c.code = bytes := by assumption) (hp : pc + 1 = pc' := by exact rfl) : Go p l e R s m args below meth c Z a0 EL own Q vm h cells slots (mkF m pc L S) := by
  subst hp
  exact gs _ (fun _ _ A kq => XS.aconstNull A hx rfl (hb hby hd) kq) k
theorem vG (pc' : Nat) (hd : decode bytes pc = .ok (.goto i, 3)) (k : Go p l e R s m args below meth c Z a0 EL own Q vm h cells slots (mkF m pc' L S)) (hx : p.tables.exec = Jvm.exec := by assumption) (hby : c.code = bytes := by assumption) (ho : 0 ≤ (pc : Int) + i := by decide) (hp : ((pc : Int) + i).toNat = pc' := by decide) : Go p l e R s m args below meth c Z a0 EL own Q vm h cells slots (mkF m pc L S) := gs _ (fun _ _ A kq => XS.goto A hx rfl (pc0 := pc) (pc' := pc') rfl (hb hby hd) ho hp kq) k
theorem vKc (pc' : Nat) (z : Int32) (hd : decode bytes pc = .ok (.iconst i, 1)) (k : Go p l e R s m args below meth c Z a0 EL own Q vm h cells slots (mkF m pc' L (.int z :: S))) (hx : p.tables.exec = Jvm.exec := by assumption) (hby : c.code = bytes := by assumption) (hp : pc + 1 = pc' := by exact rfl) (hz : Int32.ofInt i = z := by exact rfl) : Go p l e R s m args below meth c Z a0 EL own Q vm h cells slots (mkF m pc L S) := by
  subst hp hz
  exact gs _ (fun _ _ A kq => XS.iconst A hx rfl (hb hby hd) kq) k
theorem vKb (pc' : Nat) (z : Int32) (hd : decode bytes pc = .ok (.bipush i, 2)) (k : Go p l e R s m args below meth c Z a0 EL own Q vm h cells slots (mkF m pc' L (.int z :: S))) (hx : p.tables.exec = Jvm.exec := by assumption) (hby : c.code = bytes := by assumption) (hp : pc + 2 = pc' := by exact rfl) (hz : (Int8.ofInt i).toInt32 = z := by exact rfl) : Go p l e R s m args below meth c Z a0 EL own Q vm h cells slots (mkF m pc L S) := by
  subst hp hz
  exact gs _ (fun _ _ A kq => XS.bipush A hx rfl (hb hby hd) kq) k
theorem vKs (pc' : Nat) (z : Int32) (hd : decode bytes pc = .ok (.sipush i, 3)) (k : Go p l e R s m args below meth c Z a0 EL own Q vm h cells slots (mkF m pc' L (.int z :: S))) (hx : p.tables.exec = Jvm.exec := by assumption) (hby : c.code = bytes := by assumption) (hp : pc + 3 = pc' := by exact rfl) (hz : (Int16.ofInt i).toInt32 = z := by exact rfl) : Go p l e R s m args below meth c Z a0 EL own Q vm h cells slots (mkF m pc L S) := by
  subst hp hz
  exact gs _ (fun _ _ A kq => XS.sipush A hx rfl (hb hby hd) kq) k
theorem viadd (pc' : Nat) (w : Int32) (hd : decode bytes pc = .ok (.iadd, 1)) (k : Go p l e R s m args below meth c Z a0 EL own Q vm h cells slots (mkF m pc' L (.int w :: S))) (hx : p.tables.exec = Jvm.exec := by assumption) (hby : c.code = bytes := by assumption) (hp : pc + 1 = pc' := by exact rfl) (hw : z + y = w := by first | exact rfl | decide) : Go p l e R s m args below meth c Z a0 EL own Q vm h cells slots (mkF m pc L (.int y :: .int z :: S)) := by
  subst hp hw
  exact gs _ (fun _ _ A kq => XS.iadd A hx rfl (hb hby hd) rfl kq) k
theorem visub (pc' : Nat) (w : Int32) (hd : decode bytes pc = .ok (.isub, 1)) (k : Go p l e R s m args below meth c Z a0 EL own Q vm h cells slots (mkF m pc' L (.int w :: S))) (hx : p.tables.exec = Jvm.exec := by assumption) (hby : c.code = bytes := by assumption) (hp : pc + 1 = pc' := by exact rfl) (hw : z - y = w := by first | exact rfl | decide) : Go p l e R s m args below meth c Z a0 EL own Q vm h cells slots (mkF m pc L (.int y :: .int z :: S)) := by
  subst hp hw
  exact gs _ (fun _ _ A kq => XS.isub A hx rfl (hb hby hd) rfl kq) k
theorem viand (pc' : Nat) (w : Int32) (hd : decode bytes pc = .ok (.iand, 1)) (k : Go p l e R s m args below meth c Z a0 EL own Q vm h cells slots (mkF m pc' L (.int w :: S))) (hx : p.tables.exec = Jvm.exec := by assumption) (hby : c.code = bytes := by assumption) (hp : pc + 1 = pc' := by exact rfl) (hw : z &&& y = w := by first | exact rfl | decide) : Go p l e R s m args below meth c Z a0 EL own Q vm h cells slots (mkF m pc L (.int y :: .int z :: S)) := by
  subst hp hw
  exact gs _ (fun _ _ A kq => XS.iand A hx rfl (hb hby hd) rfl kq) k
theorem vSI (pc' : Nat) (L' : Array Slot) (hd : decode bytes pc = .ok (.istore n, 2)) (k : Go p l e R s m args below meth c Z a0 EL own Q vm h cells slots (mkF m pc' L' S)) (hx : p.tables.exec = Jvm.exec := by assumption) (hby : c.code = bytes := by assumption) (hp : pc + 2 = pc' := by exact rfl) (hl : storeLocals L n (.int z) = some L' := by exact rfl) : Go p l e R s m args below meth c Z a0 EL own Q vm h cells slots (mkF m pc L (.int z :: S)) := by
  subst hp
  exact gs _ (fun _ _ A kq => XS.istore A hx rfl (hb hby hd) rfl hl kq) k
theorem vSIN (pc' : Nat) (L' : Array Slot) (hd : decode bytes pc = .ok (.istore_n nf, 1)) (k : Go p l e R s m args below meth c Z a0 EL own Q vm h cells slots (mkF m pc' L' S)) (hx : p.tables.exec = Jvm.exec := by assumption) (hby : c.code = bytes := by assumption) (hp : pc + 1 = pc' := by exact rfl) (hl : storeLocals L nf.val (.int z) = some L' := by exact rfl) : Go p l e R s m args below meth c Z a0 EL own Q vm h cells slots (mkF m pc L (.int z :: S)) := by
  subst hp
  exact gs _ (fun _ _ A kq => XS.istoreN A hx rfl (hb hby hd) rfl hl kq) k
theorem vSA (pc' : Nat) (L' : Array Slot) (hd : decode bytes pc = .ok (.astore n, 2)) (k : Go p l e R s m args below meth c Z a0 EL own Q vm h cells slots (mkF m pc' L' S)) (hx : p.tables.exec = Jvm.exec := by assumption) (hby : c.code = bytes := by assumption) (hp : pc + 2 = pc' := by exact rfl) (hv : v.isRef = true := by exact rfl) (hl : storeLocals L n v = some L' := by exact rfl) : Go p l e R s m args below meth c Z a0 EL own Q vm h cells slots (mkF m pc L (v :: S)) := by
  subst hp
  exact gs _ (fun _ _ A kq => XS.astore A hx rfl (hb hby hd) rfl hv hl kq) k
theorem vSAN (pc' : Nat) (L' : Array Slot) (hd : decode bytes pc = .ok (.astore_n nf, 1)) (k : Go p l e R s m args below meth c Z a0 EL own Q vm h cells slots (mkF m pc' L' S)) (hx : p.tables.exec = Jvm.exec := by assumption) (hby : c.code = bytes := by assumption) (hp : pc + 1 = pc' := by exact rfl) (hv : v.isRef = true := by exact rfl) (hl : storeLocals L nf.val v = some L' := by exact rfl) : Go p l e R s m args below meth c Z a0 EL own Q vm h cells slots (mkF m pc L (v :: S)) := by
  subst hp
  exact gs _ (fun _ _ A kq => XS.astoreN A hx rfl (hb hby hd) rfl hv hl kq) k
theorem vInc (pc' : Nat) (L' : Array Slot) (hd : decode bytes pc = .ok (.iinc n i, 3)) (k : Go p l e R s m args below meth c Z a0 EL own Q vm h cells slots (mkF m pc' L' S)) (hx : p.tables.exec = Jvm.exec := by assumption) (hby : c.code = bytes := by assumption) (hp : pc + 3 = pc' := by exact rfl) (hl : L[n]? = some (.val (.int z)) := by exact rfl) (hl' : storeLocals L n (.int (z + Int32.ofInt i)) = some L' := by exact rfl) : Go p l e R s m args below meth c Z a0 EL own Q vm h cells slots (mkF m pc L S) := by
  subst hp
  exact gs _ (fun _ _ A kq => XS.iinc A hx rfl (hb hby hd) hl hl' kq) k
theorem vN (pc' : Nat) (hd : decode bytes pc = .ok (.ifCond cd i, 3)) (hc : ifCond.holds cd z = false) (k : Go p l e R s m args below meth c Z a0 EL own Q vm h cells slots (mkF m pc' L S)) (hx : p.tables.exec = Jvm.exec := by assumption) (hby : c.code = bytes := by assumption) (hp : pc + 3 = pc' := by exact rfl) : Go p l e R s m args below meth c Z a0 EL own Q vm h cells slots (mkF m pc L (.int z :: S)) := by
  subst hp
  exact gs _ (fun _ _ A kq => XS.ifNo A hx rfl (hb hby hd) rfl hc kq) k
theorem vNc (pc' : Nat) (hd : decode bytes pc = .ok (.if_icmp cd i, 3)) (hc : if_icmp.holds cd z y = false) (k : Go p l e R s m args below meth c Z a0 EL own Q vm h cells slots (mkF m pc' L S)) (hx : p.tables.exec = Jvm.exec := by assumption) (hby : c.code = bytes := by assumption) (hp : pc + 3 = pc' := by exact rfl) : Go p l e R s m args below meth c Z a0 EL own Q vm h cells slots (mkF m pc L (.int y :: .int z :: S)) := by
  subst hp
  exact gs _ (fun _ _ A kq => XS.icmpNo A hx rfl (hb hby hd) rfl hc kq) k
theorem vN0 (pc' : Nat) (hd : decode bytes pc = .ok (.ifnull i, 3)) (k : Go p l e R s m args below meth c Z a0 EL own Q vm h cells slots (mkF m pc' L S)) (hx : p.tables.exec = Jvm.exec := by assumption) (hby : c.code = bytes := by assumption) (hp : pc + 3 = pc' := by exact rfl) : Go p l e R s m args below meth c Z a0 EL own Q vm h cells slots (mkF m pc L (.ref b :: S)) := by
  subst hp
  exact gs _ (fun _ _ A kq => XS.ifnullNo A hx rfl (hb hby hd) rfl kq) k
theorem vN1 (pc' : Nat) (hd : decode bytes pc = .ok (.ifnonnull i, 3)) (k : Go p l e R s m args below meth c Z a0 EL own Q vm h cells slots (mkF m pc' L S)) (hx : p.tables.exec = Jvm.exec := by assumption) (hby : c.code = bytes := by assumption) (hp : pc + 3 = pc' := by exact rfl) : Go p l e R s m args below meth c Z a0 EL own Q vm h cells slots (mkF m pc L (.null :: S)) := by
  subst hp
  exact gs _ (fun _ _ A kq => XS.ifnonnullNo A hx rfl (hb hby hd) rfl kq) k
theorem vY (pc' : Nat) (hd : decode bytes pc = .ok (.ifCond cd i, 3)) (hc : ifCond.holds cd z = true) (k : Go p l e R s m args below meth c Z a0 EL own Q vm h cells slots (mkF m pc' L S)) (hx : p.tables.exec = Jvm.exec := by assumption) (hby : c.code = bytes := by assumption) (ho : 0 ≤ (pc : Int) + i := by decide) (hp : ((pc : Int) + i).toNat = pc' := by decide) : Go p l e R s m args below meth c Z a0 EL own Q vm h cells slots (mkF m pc L (.int z :: S)) := gs _ (fun _ _ A kq => XS.ifYes A hx rfl (pc0 := pc) (pc' := pc') rfl (hb hby hd) rfl hc ho hp kq) k
theorem vYc (pc' : Nat) (hd : decode bytes pc = .ok (.if_icmp cd i, 3)) (hc : if_icmp.holds cd z y = true) (k : Go p l e R s m args below meth c Z a0 EL own Q vm h cells slots (mkF m pc' L S)) (hx : p.tables.exec = Jvm.exec := by assumption) (hby : c.code = bytes := by assumption) (ho : 0 ≤ (pc : Int) + i := by decide) (hp : ((pc : Int) + i).toNat = pc' := by decide) : Go p l e R s m args below meth c Z a0 EL own Q vm h cells slots (mkF m pc L (.int y :: .int z :: S)) := gs _ (fun _ _ A kq => XS.icmpYes A hx rfl (pc0 := pc) (pc' := pc') rfl (hb hby hd) rfl hc ho hp kq) k
theorem vY0 (pc' : Nat) (hd : decode bytes pc = .ok (.ifnull i, 3)) (k : Go p l e R s m args below meth c Z a0 EL own Q vm h cells slots (mkF m pc' L S)) (hx : p.tables.exec = Jvm.exec := by assumption) (hby : c.code = bytes := by assumption) (ho : 0 ≤ (pc : Int) + i := by decide) (hp : ((pc : Int) + i).toNat = pc' := by decide) : Go p l e R s m args below meth c Z a0 EL own Q vm h cells slots (mkF m pc L (.null :: S)) := gs _ (fun _ _ A kq => XS.ifnullYes A hx rfl (pc0 := pc) (pc' := pc') rfl (hb hby hd) rfl ho hp kq) k
theorem vY1 (pc' : Nat) (hd : decode bytes pc = .ok (.ifnonnull i, 3)) (k : Go p l e R s m args below meth c Z a0 EL own Q vm h cells slots (mkF m pc' L S)) (hx : p.tables.exec = Jvm.exec := by assumption) (hby : c.code = bytes := by assumption) (ho : 0 ≤ (pc : Int) + i := by decide) (hp : ((pc : Int) + i).toNat = pc' := by decide) : Go p l e R s m args below meth c Z a0 EL own Q vm h cells slots (mkF m pc L (.ref b :: S)) := gs _ (fun _ _ A kq => XS.ifnonnullYes A hx rfl (pc0 := pc) (pc' := pc') rfl (hb hby hd) rfl ho hp kq) k
theorem nL {x w : Nat} (h : x < w := by omega) : x ∉ [w] := fun q => Nat.ne_of_lt h (List.mem_singleton.mp q)
theorem nG {x w : Nat} (h : x > w := by omega) : x ∉ [w] := fun q => Nat.ne_of_gt h (List.mem_singleton.mp q)
theorem CHq.sf {Z : State} {EL : List (String × Nat)} {vm vm1 : Vm} {h h' : Heap} (A : CHq Z EL vm h vm1 h') {x : Addr} (S : Safe Z EL vm h x) (hx : h.size > x := by omega) : Safe Z EL vm1 h' x := A.safe hx S
theorem nLL {x w u : Nat} (h : x < w := by omega) (g : x < u := by omega) : x ∉ [w, u] := fun q => (List.mem_cons.mp q).elim (Nat.ne_of_lt h) fun q => Nat.ne_of_lt g (List.mem_singleton.mp q)
theorem oz {D : List Jvm.Cond} (hw : ∀ d ∈ D, d.before a0 Z = true) (k : Nat) {d : Jvm.Cond} (q : D[k]? = some d := by exact rfl) : d.before a0 Z = true := hw _ (List.mem_of_getElem? q)
theorem lA {α : Type} {x y : List α} : (x ++ y).length = x.length + y.length := List.length_append
theorem lN {α : Type} : ([] : List α).length = 0 := rfl
theorem lC {α : Type} {x : α} {y : List α} : (x :: y).length = y.length + 1 := rfl
theorem gF {O f d : String} {index : Nat} (w : (Cond.fieldLink own index O f d).before a0 Z = true) {a : Addr} {v : Value} (F : Fld Z h a O f d v) {pc : Nat} (pc' : Nat) {L : Array Slot} {rest : List Value} (hd : decode bytes pc = .ok (.getfield index, 3)) (k : Go p l e R s m args below meth c Z a0 EL own Q vm h cells slots (mkF m pc' L (v :: rest))) (hx : p.tables.exec = Jvm.exec := by assumption) (hby : c.code = bytes := by assumption) (hp : pc + 3 = pc' := by exact rfl) : Go p l e R s m args below meth c Z a0 EL own Q vm h cells slots (mkF m pc L (.ref a :: rest)) := ggetF (host := "") hx (Or.inl w) Via.refl F pc' (hb hby hd) hp k
abbrev Dc (b : ByteArray) (p : Nat) (i : Instr) (n : Nat) : Prop := decode b p = .ok (i, n)
end Kit12
end Jvm.OwnKit
/- laws to paste: Road.backV (cut by pick.py; bodies as the Statement names them) -/
namespace Jvm.Pilot.@@N@@
namespace StrChars
open Jvm Sem ClassFile Op Lib Jvm.Stand Jvm.Free.XT Jvm.Free.ALB Jvm.Free.JM Jvm.Free
open Jvm.Lib.Cold (StaticIs)
/-- a char array whose places are chars -/
def Ch (a : Addr) (A : Cell) (U : State) : Prop := Arr .char a A U ∧ Typed .char A
theorem Ch.mv {a : Addr} {A : Cell} {U U' : State} (h : Ch a A U) (hal : U.vm.Alike U'.vm) (hh : U'.heap = U.heap) : Ch a A U' := ⟨h.1.mv hal hh, h.2⟩
theorem Ch.keep {a : Addr} {A : Cell} {U U' : State} (h : Ch a A U) (hal : U.vm.Alike U'.vm) (hk : U'.heap[a]? = some A) : Ch a A U' := ⟨h.1.keep hal hk, h.2⟩
/-- what place i of a char[]'s cell holds -/
def cv (A : Cell) (i : Nat) : Int32 := match A.slots[i]? with | some (.int x) => x | _ => 0
theorem Ch.get {a : Addr} {A : Cell} {U : State} (h : Ch a A U) {i : Nat} (hi : i < A.slots.size) : A.slots[i]? = some (.int (cv A i)) := by
  have e := Array.getElem?_eq_getElem hi
  have f := h.2 i _ e
  unfold cv; rw [e]
  generalize A.slots[i] = v at f
  cases v <;> simp [fits] at f ⊢
/-- the byte that i2b leaves of a char -/
def lo8 (x : Int32) : Int32 := x.toInt8.toInt32
theorem fits_lo8 (y : Int32) : fits .byte (.int (lo8 y)) = true := by
  have h1 := y.toInt8.le_toInt
  have h2 := y.toInt8.toInt_lt
  simp only [lo8, fits, Bool.and_eq_true, decide_eq_true_eq, Int32.le_iff_toInt_le, Int8.toInt_toInt32, show (-128 : Int32).toInt = -128 from by decide, show (127 : Int32).toInt = 127 from by decide]
  omega
/-- A' is A but that each place j of lo .. hi - 1 holds f j -/
def Laid (A A' : Cell) (lo hi : Nat) (f : Nat → Value) : Prop := A'.cls = A.cls ∧ A'.vm = A.vm ∧ A'.slots.size = A.slots.size ∧ ∀ i, A'.slots[i]? = if lo ≤ i ∧ i < hi then some (f i) else A.slots[i]?
theorem Laid.zero (A : Cell) (lo : Nat) (f : Nat → Value) : Laid A A lo (lo + 0) f := ⟨rfl, rfl, rfl, fun i => by rw [if_neg (by omega)]⟩
theorem Laid.step {A Ak : Cell} {lo k : Nat} {f : Nat → Value} {v : Value} (h : Laid A Ak lo k f) (hlo : lo ≤ k) (hk : k < Ak.slots.size) (hv : v = f k) : Laid A (Ak.setSlot k v) lo (k + 1) f := by
  refine ⟨h.1, h.2.1, by simpa [Cell.setSlot] using h.2.2.1, fun i => ?_⟩
  by_cases e : k = i
  · subst e; rw [Cell.slots_setSlot_self v hk, if_pos (by omega), hv]
  · rw [Cell.slots_setSlot_ne v e, h.2.2.2 i]
    by_cases q : lo ≤ i ∧ i < k
    · rw [if_pos q, if_pos (by omega)]
    · rw [if_neg q, if_neg (by omega)]
def U16 : String := "java/lang/StringUTF16"
namespace Cmp5
def yN : MethodName := ⟨"java/lang/StringUTF16", "compress", "([CI[BII)I"⟩
abbrev yB : ByteArray := jdk_52_method_21_code
theorem d0 : decode yB 0 = .ok (.iconst 0, 1) := by decide +kernel
theorem d1 : decode yB 1 = .ok (.istore 5, 2) := by decide +kernel
theorem d3 : decode yB 3 = .ok (.iload 5, 2) := by decide +kernel
theorem d5 : decode yB 5 = .ok (.iload 4, 2) := by decide +kernel
theorem d7 : decode yB 7 = .ok (.if_icmp (.ge) 37, 3) := by decide +kernel
theorem d10 : decode yB 10 = .ok (.aload_n 0, 1) := by decide +kernel
theorem d11 : decode yB 11 = .ok (.iload_n 1, 1) := by decide +kernel
theorem d12 : decode yB 12 = .ok (.caload, 1) := by decide +kernel
theorem d13 : decode yB 13 = .ok (.istore 6, 2) := by decide +kernel
theorem d15 : decode yB 15 = .ok (.iload 6, 2) := by decide +kernel
theorem d17 : decode yB 17 = .ok (.sipush 255, 3) := by decide +kernel
theorem d20 : decode yB 20 = .ok (.if_icmp (.le) 6, 3) := by decide +kernel
theorem d26 : decode yB 26 = .ok (.aload_n 2, 1) := by decide +kernel
theorem d27 : decode yB 27 = .ok (.iload_n 3, 1) := by decide +kernel
theorem d28 : decode yB 28 = .ok (.iload 6, 2) := by decide +kernel
theorem d30 : decode yB 30 = .ok (.i2b, 1) := by decide +kernel
theorem d31 : decode yB 31 = .ok (.bastore, 1) := by decide +kernel
theorem d32 : decode yB 32 = .ok (.iinc 1 1, 3) := by decide +kernel
theorem d35 : decode yB 35 = .ok (.iinc 3 1, 3) := by decide +kernel
theorem d38 : decode yB 38 = .ok (.iinc 5 1, 3) := by decide +kernel
theorem d41 : decode yB 41 = .ok (.goto (-38), 3) := by decide +kernel
theorem d44 : decode yB 44 = .ok (.iload 4, 2) := by decide +kernel
theorem d46 : decode yB 46 = .ok (.ireturn, 1) := by decide +kernel
def site : List Cond := []
def tab : Cond := tabOf yN yB 7 (some .int) site
def P (b : Addr) (A : Cell) (d : Addr) (B : Cell) (o q len : Nat) (args : Array Value) (s : State) : Prop := args = #[.ref b, .int (Int32.ofNat o), .ref d, .int (Int32.ofNat q), .int (Int32.ofNat len)] ∧ Ch b A s ∧ Arr .byte d B s ∧ b ≠ d ∧ o + len ≤ A.slots.size ∧ q + len ≤ B.slots.size ∧ ∀ i, i < len → ¬ 255 < cv A (o + i)
def E (b : Addr) (A : Cell) (d : Addr) (B : Cell) (o q len : Nat) (r : Option Value) (s u : State) : Prop := r = some (.int (Int32.ofNat len)) ∧ ∃ B', Put d B' s u ∧ Laid B B' q (q + len) (fun j => Value.int (lo8 (cv A (o + (j - q)))))
/-- no char of the range above 255: len; the places written hold each char's low byte -/
theorem law (l : Launch) (b : Addr) (A : Cell) (d : Addr) (B : Cell) (o q len : Nat) : Law l yN 5 5 0 0 yB 7 (some .int) site (P b A d B o q len) (E b A d B o q len) (copyLocs d q len) 0 0 := by
  refine Law.of_walk (plainFor_of_name (by decide +kernel)) (by decide +kernel) (by decide +kernel) (by decide) (fun _ _ h => by rw [h.1]; rfl) (fun _ U U' hal hh h => ⟨h.1, h.2.1.mv hal hh, h.2.2.1.mv hal hh, h.2.2.2⟩) (fun r U U' V V' h1 hal h2 h => ⟨h.1, h.2.elim fun B' q => ⟨B', q.1.mv h1 h2, q.2⟩⟩) ?_
  intro p e s m args below meth c s₁ X0 hexec hbytes hml hret hlk hnm hown hh0 W hP
  obtain ⟨rfl, hA, hB, hne, l1, l2, hp⟩ := hP
  have c1 : Steps p.tables e below (s₁.setTop (entryFrame m #[.ref b, .int (Int32.ofNat o), .ref d, .int (Int32.ofNat q), .int (Int32.ofNat len)] 7)) (s₁.setTop (mkF m 0 #[.val (.ref b), .val (.int (Int32.ofNat o)), .val (.ref d), .val (.int (Int32.ofNat q)), .val (.int (Int32.ofNat len)), .unset, .unset] [])) := entry rfl
  have hA0 := hA.1.mv X0.warmed.alike hh0
  have hB0 := hB.mv X0.warmed.alike hh0
  have a31 := hA.1.2.2.2
  have c2 : Steps p.tables e below (s₁.setTop (entryFrame m #[.ref b, .int (Int32.ofNat o), .ref d, .int (Int32.ofNat q), .int (Int32.ofNat len)] 7)) (s₁.setTop (mkF m 3 #[.val (.ref b), .val (.int (Int32.ofNat o)), .val (.ref d), .val (.int (Int32.ofNat q)), .val (.int (Int32.ofNat len)), .val (.int 0), .unset] [])) := c1.trans (by
    refine iconstV X0.here hexec rfl 0 (hb hbytes d0) (by decide) ?_
    refine XS.istore X0.here hexec rfl (hb hbytes d1) rfl rfl ?_
    exact Steps.refl _)
  have loop : ∀ (r i : Nat), i + r = len → ∀ (z : Slot), (z = .unset ∨ ∃ w, z = .val w ∧ w.category = 1) → ∀ (Tl : State) (Bk : Cell), Stand p l e { frames := 0, locals := 0, cells := 0, slots := 0 } s m #[.ref b, .int (Int32.ofNat o), .ref d, .int (Int32.ofNat q), .int (Int32.ofNat len)] below meth c Tl ([] ++ copyLocs d q i) 0 0 → Put d Bk s₁ Tl → Laid B Bk q (q + i) (fun j => Value.int (lo8 (cv A (o + (j - q))))) →
      Steps p.tables e below (s₁.setTop (entryFrame m #[.ref b, .int (Int32.ofNat o), .ref d, .int (Int32.ofNat q), .int (Int32.ofNat len)] 7)) (Tl.setTop (mkF m 3 #[.val (.ref b), .val (.int (Int32.ofNat (o + i))), .val (.ref d), .val (.int (Int32.ofNat (q + i))), .val (.int (Int32.ofNat len)), .val (.int (Int32.ofNat i)), z] [])) → ∃ (T' : State) (B' : Cell) (z' : Slot), Stand p l e { frames := 0, locals := 0, cells := 0, slots := 0 } s m #[.ref b, .int (Int32.ofNat o), .ref d, .int (Int32.ofNat q), .int (Int32.ofNat len)] below meth c T' ([] ++ copyLocs d q len) 0 0 ∧ Put d B' s₁ T' ∧ Laid B B' q (q + len) (fun j => Value.int (lo8 (cv A (o + (j - q))))) ∧
      Steps p.tables e below (s₁.setTop (entryFrame m #[.ref b, .int (Int32.ofNat o), .ref d, .int (Int32.ofNat q), .int (Int32.ofNat len)] 7)) (T'.setTop (mkF m 3 #[.val (.ref b), .val (.int (Int32.ofNat (o + len))), .val (.ref d), .val (.int (Int32.ofNat (q + len))), .val (.int (Int32.ofNat len)), .val (.int (Int32.ofNat len)), z'] [])) := by
    intro r
    induction r with
    | zero =>
      intro i hi z hz Tl Bk Xl pl fl cl
      have hil : i = len := by omega
      rw [hil] at Xl fl cl
      exact ⟨Tl, Bk, z, Xl, pl, fl, cl⟩
    | succ r ih =>
      intro i hi z hz Tl Bk Xl pl fl cl
      have all := X0.warmed.alike.symm.trans Xl.warmed.alike
      have hAl := hA0.keep all (pl.other hne hA0.1)
      have hBk := hB0.like all pl.1 fl.1 fl.2.1 fl.2.2.1
      have hlt : q + i < Bk.slots.size := by rw [fl.2.2.1]; omega
      have c3 : Steps p.tables e below (s₁.setTop (entryFrame m #[.ref b, .int (Int32.ofNat o), .ref d, .int (Int32.ofNat q), .int (Int32.ofNat len)] 7)) (Tl.setTop (mkF m 12 #[.val (.ref b), .val (.int (Int32.ofNat (o + i))), .val (.ref d), .val (.int (Int32.ofNat (q + i))), .val (.int (Int32.ofNat len)), .val (.int (Int32.ofNat i)), z] [.int (Int32.ofNat (o + i)), .ref b])) := cl.trans (by
        refine XS.iload Xl.here hexec rfl (hb hbytes d3) rfl ?_
        refine XS.iload Xl.here hexec rfl (hb hbytes d5) rfl ?_
        refine XS.icmpNo Xl.here hexec rfl (hb hbytes d7) rfl (ii_ge_f (lt32 (by omega) (by omega))) ?_
        refine XS.aloadN Xl.here hexec rfl (hb hbytes d10) rfl rfl ?_
        refine XS.iloadN Xl.here hexec rfl (hb hbytes d11) rfl ?_
        exact Steps.refl _)
      have c4 : Steps p.tables e below (s₁.setTop (entryFrame m #[.ref b, .int (Int32.ofNat o), .ref d, .int (Int32.ofNat q), .int (Int32.ofNat len)] 7)) (Tl.setTop (mkF m 13 #[.val (.ref b), .val (.int (Int32.ofNat (o + i))), .val (.ref d), .val (.int (Int32.ofNat (q + i))), .val (.int (Int32.ofNat len)), .val (.int (Int32.ofNat i)), z] [.int (cv A (o + i))])) := c3.trans (by
        refine Xl.aget hexec hAl rfl (hA.get (i := o + i) (by omega)) rfl rfl (hb hbytes d12) ?_
        exact Steps.refl _)
      have c5 : Steps p.tables e below (s₁.setTop (entryFrame m #[.ref b, .int (Int32.ofNat o), .ref d, .int (Int32.ofNat q), .int (Int32.ofNat len)] 7)) (Tl.setTop (mkF m 15 #[.val (.ref b), .val (.int (Int32.ofNat (o + i))), .val (.ref d), .val (.int (Int32.ofNat (q + i))), .val (.int (Int32.ofNat len)), .val (.int (Int32.ofNat i)), .val (.int (cv A (o + i)))] [])) := c4.trans (by
        refine XS.istoreS Xl.here hexec rfl (hb hbytes d13) rfl rfl hz ?_
        exact Steps.refl _)
      have c6 : Steps p.tables e below (s₁.setTop (entryFrame m #[.ref b, .int (Int32.ofNat o), .ref d, .int (Int32.ofNat q), .int (Int32.ofNat len)] 7)) (Tl.setTop (mkF m 31 #[.val (.ref b), .val (.int (Int32.ofNat (o + i))), .val (.ref d), .val (.int (Int32.ofNat (q + i))), .val (.int (Int32.ofNat len)), .val (.int (Int32.ofNat i)), .val (.int (cv A (o + i)))] [.int (lo8 (cv A (o + i))), .int (Int32.ofNat (q + i)), .ref d])) := c5.trans (by
        refine XS.iload Xl.here hexec rfl (hb hbytes d15) rfl ?_
        refine sipushV Xl.here hexec rfl 255 (hb hbytes d17) (by decide) ?_
        refine XS.icmpYes Xl.here hexec rfl (pc0 := 20) rfl (hb hbytes d20) rfl (ii_le_t (hp i (by omega))) (by decide) rfl ?_
        refine XS.aloadN Xl.here hexec rfl (hb hbytes d26) rfl rfl ?_
        refine XS.iloadN Xl.here hexec rfl (hb hbytes d27) rfl ?_
        refine XS.iload Xl.here hexec rfl (hb hbytes d28) rfl ?_
        refine i2b Xl.here hexec rfl (hb hbytes d30) rfl ?_
        exact Steps.refl _)
      obtain ⟨T7, X7, p7, st7⟩ := Xl.aput hexec hBk rfl hlt rfl (fits_lo8 (cv A (o + i))) (g := (mkF m 31 #[.val (.ref b), .val (.int (Int32.ofNat (o + i))), .val (.ref d), .val (.int (Int32.ofNat (q + i))), .val (.int (Int32.ofNat len)), .val (.int (Int32.ofNat i)), .val (.int (cv A (o + i)))] [.int (lo8 (cv A (o + i))), .int (Int32.ofNat (q + i)), .ref d])) rfl (rest := []) rfl (hb hbytes d31)
      have c8 : Steps p.tables e below (s₁.setTop (entryFrame m #[.ref b, .int (Int32.ofNat o), .ref d, .int (Int32.ofNat q), .int (Int32.ofNat len)] 7)) (T7.setTop (mkF m 32 #[.val (.ref b), .val (.int (Int32.ofNat (o + i))), .val (.ref d), .val (.int (Int32.ofNat (q + i))), .val (.int (Int32.ofNat len)), .val (.int (Int32.ofNat i)), .val (.int (cv A (o + i)))] [])) := c6.trans (st7 _ (Steps.refl _))
      have c9 : Steps p.tables e below (s₁.setTop (entryFrame m #[.ref b, .int (Int32.ofNat o), .ref d, .int (Int32.ofNat q), .int (Int32.ofNat len)] 7)) (T7.setTop (mkF m 3 #[.val (.ref b), .val (.int (Int32.ofNat (o + i) + 1)), .val (.ref d), .val (.int (Int32.ofNat (q + i) + 1)), .val (.int (Int32.ofNat len)), .val (.int (Int32.ofNat i + 1)), .val (.int (cv A (o + i)))] [])) := c8.trans (by
        refine iincV X7.here hexec rfl 1 (hb hbytes d32) (by decide) rfl rfl ?_
        refine iincV X7.here hexec rfl 1 (hb hbytes d35) (by decide) rfl rfl ?_
        refine iincV X7.here hexec rfl 1 (hb hbytes d38) (by decide) rfl rfl ?_
        refine XS.goto X7.here hexec rfl (pc0 := 41) rfl (hb hbytes d41) (by decide) rfl ?_
        exact Steps.refl _)
      have c10 : Steps p.tables e below (s₁.setTop (entryFrame m #[.ref b, .int (Int32.ofNat o), .ref d, .int (Int32.ofNat q), .int (Int32.ofNat len)] 7)) (T7.setTop (mkF m 3 #[.val (.ref b), .val (.int (Int32.ofNat (o + (i + 1)))), .val (.ref d), .val (.int (Int32.ofNat (q + (i + 1)))), .val (.int (Int32.ofNat len)), .val (.int (Int32.ofNat (i + 1))), .val (.int (cv A (o + i)))] [])) := by
        have := c9
        rw [succ32, succ32, succ32] at this
        exact this
      exact ih (i + 1) (by omega) _ (Or.inr ⟨_, rfl, rfl⟩) T7 _ (by rw [copyLocs_step, ← List.append_assoc]; exact X7) (pl.trans p7) (fl.step (by omega) hlt (by simp)) c10
  obtain ⟨T9, B9, z9, X9, p9, f9, g9⟩ := loop len 0 (by omega) .unset (Or.inl rfl) s₁ B (by simpa [copyLocs] using X0) ⟨hB0.1, fun _ _ => rfl, rfl⟩ (Laid.zero _ _ _) c2
  have c11 : Steps p.tables e below (s₁.setTop (entryFrame m #[.ref b, .int (Int32.ofNat o), .ref d, .int (Int32.ofNat q), .int (Int32.ofNat len)] 7)) (T9.setTop (mkF m 46 #[.val (.ref b), .val (.int (Int32.ofNat (o + len))), .val (.ref d), .val (.int (Int32.ofNat (q + len))), .val (.int (Int32.ofNat len)), .val (.int (Int32.ofNat len)), z9] [.int (Int32.ofNat len)])) := g9.trans (by
    refine XS.iload X9.here hexec rfl (hb hbytes d3) rfl ?_
    refine XS.iload X9.here hexec rfl (hb hbytes d5) rfl ?_
    refine XS.icmpYes X9.here hexec rfl (pc0 := 7) rfl (hb hbytes d7) rfl (ii_ge_t (nlt32 (by omega) (Nat.le_refl _))) (by decide) rfl ?_
    refine XS.iload X9.here hexec rfl (hb hbytes d44) rfl ?_
    exact Steps.refl _)
  exact ⟨T9, some (.int (Int32.ofNat len)), _, _, _, X9, by simp, rfl, rfl, (fun h => by cases h), ⟨rfl, B9, p9.from hh0, f9⟩, fun fs hl => c11.trans (X9.ireturnOut hexec hret rfl (Or.inl rfl) (hb hbytes d46) hl)⟩
end Cmp5
namespace Cmp3
def yN : MethodName := ⟨"java/lang/StringUTF16", "compress", "([CII)[B"⟩
abbrev yB : ByteArray := jdk_52_method_16_code
theorem d0 : decode yB 0 = .ok (.iload_n 2, 1) := by decide +kernel
theorem d1 : decode yB 1 = .ok (.newarray .byte, 2) := by decide +kernel
theorem d3 : decode yB 3 = .ok (.astore_n 3, 1) := by decide +kernel
theorem d4 : decode yB 4 = .ok (.aload_n 0, 1) := by decide +kernel
theorem d5 : decode yB 5 = .ok (.iload_n 1, 1) := by decide +kernel
theorem d6 : decode yB 6 = .ok (.aload_n 3, 1) := by decide +kernel
theorem d7 : decode yB 7 = .ok (.iconst 0, 1) := by decide +kernel
theorem d8 : decode yB 8 = .ok (.iload_n 2, 1) := by decide +kernel
theorem d9 : decode yB 9 = .ok (.invokestatic 115, 3) := by decide +kernel
theorem d12 : decode yB 12 = .ok (.istore 4, 2) := by decide +kernel
theorem d14 : decode yB 14 = .ok (.iload 4, 2) := by decide +kernel
theorem d16 : decode yB 16 = .ok (.iload_n 2, 1) := by decide +kernel
theorem d17 : decode yB 17 = .ok (.if_icmp (.eq) 40, 3) := by decide +kernel
theorem d57 : decode yB 57 = .ok (.aload_n 3, 1) := by decide +kernel
theorem d58 : decode yB 58 = .ok (.areturn, 1) := by decide +kernel
def site : List Cond := [.arrayClass .byte, Cmp5.tab] ++ staticW U16 115 Cmp5.yN
def tab : Cond := tabOf yN yB 6 (some (.array .byte)) site
def P (b : Addr) (A : Cell) (o len : Nat) (args : Array Value) (s : State) : Prop := args = #[.ref b, .int (Int32.ofNat o), .int (Int32.ofNat len)] ∧ Ch b A s ∧ o + len ≤ A.slots.size ∧ len ≤ 536870912 ∧ ∀ i, i < len → ¬ 255 < cv A (o + i)
def E (b : Addr) (A : Cell) (o len : Nat) (r : Option Value) (s u : State) : Prop := NewArr .byte "[B" len (fun j => .int (lo8 (cv A (o + j)))) r s u ∧ u.heap.size = s.heap.size + 1
/-- no char of the range above 255: a new byte[] of their low bytes -/
theorem law (l : Launch) (b : Addr) (A : Cell) (o len : Nat) : Law l yN 3 3 1 18 yB 6 (some (.array .byte)) site (P b A o len) (E b A o len) [] 1 len := by
  refine Law.of_walk (plainFor_of_name (by decide +kernel)) (by decide +kernel) (by decide +kernel) (by decide) (fun _ _ h => by rw [h.1]; rfl) (fun _ U U' hal hh h => ⟨h.1, h.2.1.mv hal hh, h.2.2⟩) (fun r U U' V V' h1 hal h2 h => ⟨NewArr.mv r U U' V V' h1 hal h2 h.1, by rw [h1, h2]; exact h.2⟩) ?_
  intro p e s m args below meth c s₁ X0 hexec hbytes hml hret hlk hnm hown hh0 W hP
  obtain ⟨rfl, hA, l1, l2, hp⟩ := hP
  have a31 := hA.1.2.2.2
  have c1 : Steps p.tables e below (s₁.setTop (entryFrame m #[.ref b, .int (Int32.ofNat o), .int (Int32.ofNat len)] 6)) (s₁.setTop (mkF m 0 #[.val (.ref b), .val (.int (Int32.ofNat o)), .val (.int (Int32.ofNat len)), .unset, .unset, .unset] [])) := entry rfl
  have c2 : Steps p.tables e below (s₁.setTop (entryFrame m #[.ref b, .int (Int32.ofNat o), .int (Int32.ofNat len)] 6)) (s₁.setTop (mkF m 1 #[.val (.ref b), .val (.int (Int32.ofNat o)), .val (.int (Int32.ofNat len)), .unset, .unset, .unset] [.int (Int32.ofNat len)])) := c1.trans (by
    refine XS.iloadN X0.here hexec rfl (hb hbytes d0) rfl ?_
    exact Steps.refl _)
  obtain ⟨T3, B3, X3, ba3, bs3, bv3, bh3, bf3, st3⟩ := X0.anew hexec (atype := .byte) (wk W (.arrayClass .byte)) rfl (by show len * 1 ≤ _; omega) (by omega) (g := (mkF m 1 #[.val (.ref b), .val (.int (Int32.ofNat o)), .val (.int (Int32.ofNat len)), .unset, .unset, .unset] [.int (Int32.ofNat len)])) rfl (hb hbytes d1) (rest := []) rfl (Nat.le_refl _) (by show 0 + len ≤ len; omega)
  rw [hh0] at ba3 st3
  have kp3 : XT.Kept s T3 := (XT.Kept.of_eq hh0).push bh3
  have hA3 := hA.keep X3.warmed.alike (kp3 _ _ hA.1.1)
  have hne : b ≠ s.heap.size := hA.1.ne
  have c4 : Steps p.tables e below (s₁.setTop (entryFrame m #[.ref b, .int (Int32.ofNat o), .int (Int32.ofNat len)] 6)) (T3.setTop (mkF m 3 #[.val (.ref b), .val (.int (Int32.ofNat o)), .val (.int (Int32.ofNat len)), .unset, .unset, .unset] [.ref s.heap.size])) := c2.trans (st3 _ (Steps.refl _))
  have c5 : Steps p.tables e below (s₁.setTop (entryFrame m #[.ref b, .int (Int32.ofNat o), .int (Int32.ofNat len)] 6)) (T3.setTop (mkF m 9 #[.val (.ref b), .val (.int (Int32.ofNat o)), .val (.int (Int32.ofNat len)), .val (.ref s.heap.size), .unset, .unset] [.int (Int32.ofNat len), .int 0, .ref s.heap.size, .int (Int32.ofNat o), .ref b])) := c4.trans (by
    refine XS.astoreN X3.here hexec rfl (hb hbytes d3) rfl rfl rfl ?_
    refine XS.aloadN X3.here hexec rfl (hb hbytes d4) rfl rfl ?_
    refine XS.iloadN X3.here hexec rfl (hb hbytes d5) rfl ?_
    refine XS.aloadN X3.here hexec rfl (hb hbytes d6) rfl rfl ?_
    refine iconstV X3.here hexec rfl 0 (hb hbytes d7) (by decide) ?_
    refine XS.iloadN X3.here hexec rfl (hb hbytes d8) rfl ?_
    exact Steps.refl _)
  obtain ⟨v6, T6, X6, E6, g6⟩ := X3.callS hexec (Cmp5.law l b A s.heap.size B3 o 0 len) hown (wks W (staticW U16 115 Cmp5.yN)) (wk W Cmp5.tab) (W := 0) (Nat.le_of_ble_eq_true rfl) (Nat.le_of_ble_eq_true rfl) (Nat.le_refl _) (by show 0 + len + 0 ≤ len; omega) (g := (mkF m 9 #[.val (.ref b), .val (.int (Int32.ofNat o)), .val (.int (Int32.ofNat len)), .val (.ref s.heap.size), .unset, .unset] [.int (Int32.ofNat len), .int (Int32.ofNat 0), .ref s.heap.size, .int (Int32.ofNat o), .ref b])) rfl (by rw [hml]; rfl) c5 (argsL := [.ref b, .int (Int32.ofNat o), .ref s.heap.size, .int (Int32.ofNat 0), .int (Int32.ofNat len)]) (rest := []) rfl rfl (by show 2 * 0 + 0 ≤ _; decide) (hb hbytes d9) (⟨rfl, hA3, ba3, hne, l1, by rw [bs3]; simp, hp⟩)
  obtain ⟨rfl, B6, p6, f6⟩ := E6
  have c7 : Steps p.tables e below (s₁.setTop (entryFrame m #[.ref b, .int (Int32.ofNat o), .int (Int32.ofNat len)] 6)) (T6.setTop (mkF m 12 #[.val (.ref b), .val (.int (Int32.ofNat o)), .val (.int (Int32.ofNat len)), .val (.ref s.heap.size), .unset, .unset] [.int (Int32.ofNat len)])) := g6
  have c8 : Steps p.tables e below (s₁.setTop (entryFrame m #[.ref b, .int (Int32.ofNat o), .int (Int32.ofNat len)] 6)) (T6.setTop (mkF m 58 #[.val (.ref b), .val (.int (Int32.ofNat o)), .val (.int (Int32.ofNat len)), .val (.ref s.heap.size), .val (.int (Int32.ofNat len)), .unset] [.ref s.heap.size])) := c7.trans (by
    refine XS.istore X6.here hexec rfl (hb hbytes d12) rfl rfl ?_
    refine XS.iload X6.here hexec rfl (hb hbytes d14) rfl ?_
    refine XS.iloadN X6.here hexec rfl (hb hbytes d16) rfl ?_
    refine XS.icmpYes X6.here hexec rfl (pc0 := 17) rfl (hb hbytes d17) rfl (ii_eq_t rfl) (by decide) rfl ?_
    refine XS.aloadN X6.here hexec rfl (hb hbytes d57) rfl rfl ?_
    exact Steps.refl _)
  have X8 := X6.wide (L' := []) (cells' := 1) (slots' := len) (fun x hx hlt => by
    simp only [List.nil_append, copyLocs, List.mem_map, List.mem_range] at hx
    obtain ⟨i, -, rfl⟩ := hx
    exact absurd hlt (Nat.lt_irrefl _)) (Nat.le_refl _) (by omega)
  exact ⟨T6, some (.ref s.heap.size), _, _, _, X8, rfl, rfl, rfl, (fun h => by cases h), ⟨⟨rfl, B6, ba3.like (X3.warmed.alike.symm.trans X6.warmed.alike) p6.1 f6.1 f6.2.1 f6.2.2.1, f6.2.1.trans bv3, by rw [X6.warmed.alike.findClass, f6.1]; exact bf3, by rw [f6.2.2.1, bs3]; simp, fun j hj => by rw [f6.2.2.2 j, if_pos (by omega)]; rfl, kp3.put p6 (Nat.le_refl _)⟩, by rw [p6.2.2, bh3, hh0]; simp⟩, fun fs hl => c8.trans (X8.areturnOut hexec rfl hret rfl (hb hbytes d58) hl)⟩
end Cmp3
namespace CodL
def yN : MethodName := ⟨"java/lang/StringUTF16", "coderFromArrayLen", "([BI)B"⟩
abbrev yB : ByteArray := jdk_52_method_15_code
theorem d0 : decode yB 0 = .ok (.iload_n 1, 1) := by decide +kernel
theorem d1 : decode yB 1 = .ok (.aload_n 0, 1) := by decide +kernel
theorem d2 : decode yB 2 = .ok (.arraylength, 1) := by decide +kernel
theorem d3 : decode yB 3 = .ok (.isub, 1) := by decide +kernel
theorem d4 : decode yB 4 = .ok (.bipush 31, 2) := by decide +kernel
theorem d6 : decode yB 6 = .ok (.iushr, 1) := by decide +kernel
theorem d7 : decode yB 7 = .ok (.i2b, 1) := by decide +kernel
theorem d8 : decode yB 8 = .ok (.ireturn, 1) := by decide +kernel
def site : List Cond := []
def tab : Cond := tabOf yN yB 2 (some .byte) site
def P (d : Addr) (B : Cell) (args : Array Value) (s : State) : Prop := args = #[.ref d, .int (Int32.ofNat B.slots.size)] ∧ Arr .byte d B s
def E (r : Option Value) (s u : State) : Prop := XT.PureE (some (.int 0)) r s u
/-- an array as long as the number of chars: LATIN1 -/
theorem law (l : Launch) (d : Addr) (B : Cell) : Law l yN 2 2 0 0 yB 2 (some .byte) site (P d B) E [] 0 0 := by
  refine Law.of_walk (plainFor_of_name (by decide +kernel)) (by decide +kernel) (by decide +kernel) (by decide) (fun _ _ h => by rw [h.1]; rfl) (fun _ U U' hal hh h => ⟨h.1, h.2.mv hal hh⟩) (fun r U U' V V' h1 hal h2 h => XT.PureE.mv r U U' V V' h1 hal h2 h) ?_
  intro p e s m args below meth c s₁ X0 hexec hbytes hml hret hlk hnm hown hh0 W hP
  obtain ⟨rfl, hB⟩ := hP
  have hB0 := hB.mv X0.warmed.alike hh0
  have c1 : Steps p.tables e below (s₁.setTop (entryFrame m #[.ref d, .int (Int32.ofNat B.slots.size)] 2)) (s₁.setTop (mkF m 0 #[.val (.ref d), .val (.int (Int32.ofNat B.slots.size))] [])) := entry rfl
  have c2 : Steps p.tables e below (s₁.setTop (entryFrame m #[.ref d, .int (Int32.ofNat B.slots.size)] 2)) (s₁.setTop (mkF m 2 #[.val (.ref d), .val (.int (Int32.ofNat B.slots.size))] [.ref d, .int (Int32.ofNat B.slots.size)])) := c1.trans (by
    refine XS.iloadN X0.here hexec rfl (hb hbytes d0) rfl ?_
    refine XS.aloadN X0.here hexec rfl (hb hbytes d1) rfl rfl ?_
    exact Steps.refl _)
  have c3 : Steps p.tables e below (s₁.setTop (entryFrame m #[.ref d, .int (Int32.ofNat B.slots.size)] 2)) (s₁.setTop (mkF m 8 #[.val (.ref d), .val (.int (Int32.ofNat B.slots.size))] [.int (lo8 (ushr (Int32.ofNat B.slots.size - Int32.ofNat B.slots.size) 31))])) := c2.trans (by
    refine X0.alen hexec hB0 rfl rfl (hb hbytes d2) ?_
    refine XS.isub X0.here hexec rfl (hb hbytes d3) rfl ?_
    refine bipushV X0.here hexec rfl 31 (hb hbytes d4) (by decide) ?_
    refine iushr X0.here hexec rfl (hb hbytes d6) rfl ?_
    refine i2b X0.here hexec rfl (hb hbytes d7) rfl ?_
    exact Steps.refl _)
  have e0 : lo8 (ushr (Int32.ofNat B.slots.size - Int32.ofNat B.slots.size) 31) = 0 := by rw [Int32.sub_self]; decide
  rw [e0] at c3
  exact ⟨s₁, some (.int 0), _, _, _, X0, rfl, rfl, rfl, (fun h => by cases h), ⟨rfl, hh0⟩, fun fs hl => c3.trans (X0.ireturnOut hexec hret rfl (Or.inr (Or.inr (Or.inl rfl))) (hb hbytes d8) hl)⟩
end CodL
/-- the String at a is Latin-1 over a new byte[] (the heap's one new cell): the low bytes of the len chars of A from o on; every cell but a is kept -/
def Got (a : Addr) (D : Cell) (fV fC : Field) (A : Cell) (o len : Nat) (r : Option Value) (s u : State) : Prop := r = none ∧ ∃ D' V : Cell, Blank "java/lang/String" a D' u ∧ Same D D' [fV.slot, fC.slot] ∧ D'.slots[fV.slot]? = some (.ref s.heap.size) ∧ D'.slots[fC.slot]? = some (.int 0) ∧ Arr .byte s.heap.size V u ∧ V.vm = .none ∧ u.vm.findClass "[B" = some V.cls ∧ V.slots.size = len ∧ (∀ j, j < len → V.slots[j]? = some (.int (lo8 (cv A (o + j))))) ∧ (∀ (y : Addr) (c : Cell), y ≠ a → s.heap[y]? = some c → u.heap[y]? = some c) ∧ u.heap.size = s.heap.size + 1
theorem Got.mv {a : Addr} {D A : Cell} {fV fC : Field} {o len : Nat} : ∀ r (U U' V V' : State), U'.heap = U.heap → V.vm.Alike V'.vm → V'.heap = V.heap → Got a D fV fC A o len r U V → Got a D fV fC A o len r U' V' :=
  fun r U U' V V' h1 hal h2 ⟨e0, D', X, a1, a2, a3, a4, a5, a6, a7, a8, a9, a10, a11⟩ => ⟨e0, D', X, a1.mv hal h2, a2, by rw [h1]; exact a3, a4, by rw [h1]; exact a5.mv hal h2, a6, by rw [hal.findClass]; exact a7, a8, a9, by rw [h1, h2]; exact a10, by rw [h1, h2]; exact a11⟩
namespace New4
def yN : MethodName := ⟨"java/lang/String", "<init>", "([CIILjava/lang/Void;)V"⟩
abbrev yB : ByteArray := jdk_42_method_149_code
theorem d0 : decode yB 0 = .ok (.aload_n 0, 1) := by decide +kernel
theorem d1 : decode yB 1 = .ok (.invokespecial 1, 3) := by decide +kernel
theorem d4 : decode yB 4 = .ok (.iload_n 3, 1) := by decide +kernel
theorem d5 : decode yB 5 = .ok (.ifCond (.ne) 22, 3) := by decide +kernel
theorem d27 : decode yB 27 = .ok (.getstatic 38, 3) := by decide +kernel
theorem d30 : decode yB 30 = .ok (.ifCond (.eq) 28, 3) := by decide +kernel
theorem d33 : decode yB 33 = .ok (.aload_n 1, 1) := by decide +kernel
theorem d34 : decode yB 34 = .ok (.iload_n 2, 1) := by decide +kernel
theorem d35 : decode yB 35 = .ok (.iload_n 3, 1) := by decide +kernel
theorem d36 : decode yB 36 = .ok (.invokestatic 177, 3) := by decide +kernel
theorem d39 : decode yB 39 = .ok (.astore 5, 2) := by decide +kernel
theorem d41 : decode yB 41 = .ok (.aload_n 0, 1) := by decide +kernel
theorem d42 : decode yB 42 = .ok (.aload 5, 2) := by decide +kernel
theorem d44 : decode yB 44 = .ok (.iload_n 3, 1) := by decide +kernel
theorem d45 : decode yB 45 = .ok (.invokestatic 47, 3) := by decide +kernel
theorem d48 : decode yB 48 = .ok (.putfield 15, 3) := by decide +kernel
theorem d51 : decode yB 51 = .ok (.aload_n 0, 1) := by decide +kernel
theorem d52 : decode yB 52 = .ok (.aload 5, 2) := by decide +kernel
theorem d54 : decode yB 54 = .ok (.putfield 9, 3) := by decide +kernel
theorem d57 : decode yB 57 = .ok (.return_, 1) := by decide +kernel
def site : List Cond := [.fieldLink "java/lang/String" 38 "java/lang/String" "COMPACT_STRINGS" "Z", Cmp3.tab, CodL.tab, .laysFinal "java/lang/String" "java/lang/String" "value" "[B", .fieldLink "java/lang/String" 9 "java/lang/String" "value" "[B", .laysFinal "java/lang/String" "java/lang/String" "coder" "B", .fieldLink "java/lang/String" 15 "java/lang/String" "coder" "B"] ++ objW "java/lang/String" 1 ++ staticW "java/lang/String" 177 Cmp3.yN ++ staticW "java/lang/String" 47 CodL.yN
def tab : Cond := tabOf yN yB 6 none site
def P (a : Addr) (D : Cell) (fV fC : Field) (b : Addr) (A : Cell) (z : Int32) (o len : Nat) (args : Array Value) (s : State) : Prop := args = #[.ref a, .ref b, .int (Int32.ofNat o), .int (Int32.ofNat len), .null] ∧ Blank "java/lang/String" a D s ∧ Found "java/lang/String" "value" "[B" fV s ∧ Found "java/lang/String" "coder" "B" fC s ∧ Ch b A s ∧ StaticIs s "java/lang/String" "COMPACT_STRINGS" "Z" (.int z) ∧ ¬ z = 0 ∧ 0 < len ∧ o + len ≤ A.slots.size ∧ len ≤ 536870912 ∧ ∀ i, i < len → ¬ 255 < cv A (o + i)
def E (a : Addr) (D : Cell) (fV fC : Field) (A : Cell) (o len : Nat) (r : Option Value) (s u : State) : Prop := Got a D fV fC A o len r s u
/-- len > 0, no char of the range above 255: a Latin-1 String of their low bytes -/
theorem law (l : Launch) (a : Addr) (D : Cell) (fV fC : Field) (b : Addr) (A : Cell) (z : Int32) (o len : Nat) : Law l yN 5 4 2 35 yB 6 none site (P a D fV fC b A z o len) (E a D fV fC A o len) [⟨a, fC.slot⟩, ⟨a, fV.slot⟩] 1 len := by
  refine Law.of_walk (plainFor_of_name (by decide +kernel)) (by decide +kernel) (by decide +kernel) (by decide) (fun _ _ h => by rw [h.1]; rfl) (fun _ U U' hal hh h => ⟨h.1, h.2.1.mv hal hh, h.2.2.1.al hal, h.2.2.2.1.al hal, h.2.2.2.2.1.mv hal hh, h.2.2.2.2.2.1.there hal hh, h.2.2.2.2.2.2⟩) (fun r U U' V V' h1 hal h2 h => Got.mv r U U' V V' h1 hal h2 h) ?_
  intro p e s m args below meth c s₁ X0 hexec hbytes hml hret hlk hnm hown hh0 W hP
  obtain ⟨rfl, hB, f1, f2, hA, s1, hz, l0, l1, l2, hp⟩ := hP
  have a31 := hA.1.2.2.2
  have c1 : Steps p.tables e below (s₁.setTop (entryFrame m #[.ref a, .ref b, .int (Int32.ofNat o), .int (Int32.ofNat len), .null] 6)) (s₁.setTop (mkF m 0 #[.val (.ref a), .val (.ref b), .val (.int (Int32.ofNat o)), .val (.int (Int32.ofNat len)), .val .null, .unset] [])) := entry rfl
  have c2 : Steps p.tables e below (s₁.setTop (entryFrame m #[.ref a, .ref b, .int (Int32.ofNat o), .int (Int32.ofNat len), .null] 6)) (s₁.setTop (mkF m 1 #[.val (.ref a), .val (.ref b), .val (.int (Int32.ofNat o)), .val (.int (Int32.ofNat len)), .val .null, .unset] [.ref a])) := c1.trans (by
    refine XS.aloadN X0.here hexec rfl (hb hbytes d0) rfl rfl ?_
    exact Steps.refl _)
  obtain ⟨T3, X3, q3, st3⟩ := X0.oinit hexec hown (wks W (objW "java/lang/String" 1)) (g := (mkF m 1 #[.val (.ref a), .val (.ref b), .val (.int (Int32.ofNat o)), .val (.int (Int32.ofNat len)), .val .null, .unset] [.ref a])) rfl (by rw [hml]; rfl) (rest := []) rfl (hb hbytes d1) (W := 0) (by show 2 * 0 + 0 ≤ _; decide) (Nat.le_of_ble_eq_true rfl) (Nat.le_of_ble_eq_true rfl)
  have hh3 := q3.trans hh0
  have c4 : Steps p.tables e below (s₁.setTop (entryFrame m #[.ref a, .ref b, .int (Int32.ofNat o), .int (Int32.ofNat len), .null] 6)) (T3.setTop (mkF m 27 #[.val (.ref a), .val (.ref b), .val (.int (Int32.ofNat o)), .val (.int (Int32.ofNat len)), .val .null, .unset] [])) := (c2.trans (st3 _ (Steps.refl _))).trans (by
    refine XS.iloadN X3.here hexec rfl (hb hbytes d4) rfl ?_
    refine XS.ifYes X3.here hexec rfl (pc0 := 5) rfl (hb hbytes d5) rfl (i0_ne_t (nz32 (by omega) l0)) (by decide) rfl ?_
    exact Steps.refl _)
  obtain ⟨T5, X5, q5, st5⟩ := X3.sget hexec hown (wk W (.fieldLink "java/lang/String" 38 "java/lang/String" "COMPACT_STRINGS" "Z")) s1 (fun _ _ h => by rw [hh3]; exact h) (g := (mkF m 27 #[.val (.ref a), .val (.ref b), .val (.int (Int32.ofNat o)), .val (.int (Int32.ofNat len)), .val .null, .unset] [])) rfl (hb hbytes d27)
  have hh5 := q5.trans hh3
  have c6 : Steps p.tables e below (s₁.setTop (entryFrame m #[.ref a, .ref b, .int (Int32.ofNat o), .int (Int32.ofNat len), .null] 6)) (T5.setTop (mkF m 30 #[.val (.ref a), .val (.ref b), .val (.int (Int32.ofNat o)), .val (.int (Int32.ofNat len)), .val .null, .unset] [.int z])) := c4.trans (st5 _ (Steps.refl _))
  have c7 : Steps p.tables e below (s₁.setTop (entryFrame m #[.ref a, .ref b, .int (Int32.ofNat o), .int (Int32.ofNat len), .null] 6)) (T5.setTop (mkF m 36 #[.val (.ref a), .val (.ref b), .val (.int (Int32.ofNat o)), .val (.int (Int32.ofNat len)), .val .null, .unset] [.int (Int32.ofNat len), .int (Int32.ofNat o), .ref b])) := c6.trans (by
    refine XS.ifNo X5.here hexec rfl (hb hbytes d30) rfl (i0_eq_f hz) ?_
    refine XS.aloadN X5.here hexec rfl (hb hbytes d33) rfl rfl ?_
    refine XS.iloadN X5.here hexec rfl (hb hbytes d34) rfl ?_
    refine XS.iloadN X5.here hexec rfl (hb hbytes d35) rfl ?_
    exact Steps.refl _)
  obtain ⟨v8, T8, X8, E8, g8⟩ := X5.callS hexec (Cmp3.law l b A o len) hown (wks W (staticW "java/lang/String" 177 Cmp3.yN)) (wk W Cmp3.tab) (W := 0) (Nat.le_of_ble_eq_true rfl) (Nat.le_of_ble_eq_true rfl) (Nat.le_refl _) (by show 0 + len ≤ len; omega) (g := (mkF m 36 #[.val (.ref a), .val (.ref b), .val (.int (Int32.ofNat o)), .val (.int (Int32.ofNat len)), .val .null, .unset] [.int (Int32.ofNat len), .int (Int32.ofNat o), .ref b])) rfl (by rw [hml]; rfl) c7 (argsL := [.ref b, .int (Int32.ofNat o), .int (Int32.ofNat len)]) (rest := []) rfl rfl (by show 2 * 0 + 0 ≤ _; decide) (hb hbytes d36) (⟨rfl, hA.mv X5.warmed.alike hh5, l1, l2, hp⟩)
  obtain ⟨e8, z8⟩ := E8
  obtain ⟨rfl, N, n1, n2, n3, n4, n5, n6⟩ := NewArr.mv _ T5 s _ _ hh5.symm (Vm.Alike.refl _) rfl e8
  rw [hh5] at z8
  have hB1 := hB.keep X8.warmed.alike (n6 _ _ hB.1)
  have hne : s.heap.size ≠ a := (Nat.ne_of_lt (Array.getElem?_eq_some_iff.mp hB.1).1).symm
  have c9 : Steps p.tables e below (s₁.setTop (entryFrame m #[.ref a, .ref b, .int (Int32.ofNat o), .int (Int32.ofNat len), .null] 6)) (T8.setTop (mkF m 39 #[.val (.ref a), .val (.ref b), .val (.int (Int32.ofNat o)), .val (.int (Int32.ofNat len)), .val .null, .unset] [.ref s.heap.size])) := g8
  have c10 : Steps p.tables e below (s₁.setTop (entryFrame m #[.ref a, .ref b, .int (Int32.ofNat o), .int (Int32.ofNat len), .null] 6)) (T8.setTop (mkF m 45 #[.val (.ref a), .val (.ref b), .val (.int (Int32.ofNat o)), .val (.int (Int32.ofNat len)), .val .null, .val (.ref s.heap.size)] [.int (Int32.ofNat N.slots.size), .ref s.heap.size, .ref a])) := by
    have hc : Steps p.tables e below (s₁.setTop (entryFrame m #[.ref a, .ref b, .int (Int32.ofNat o), .int (Int32.ofNat len), .null] 6)) (T8.setTop (mkF m 45 #[.val (.ref a), .val (.ref b), .val (.int (Int32.ofNat o)), .val (.int (Int32.ofNat len)), .val .null, .val (.ref s.heap.size)] [.int (Int32.ofNat len), .ref s.heap.size, .ref a])) := c9.trans (by
      refine XS.astore X8.here hexec rfl (hb hbytes d39) rfl rfl rfl ?_
      refine XS.aloadN X8.here hexec rfl (hb hbytes d41) rfl rfl ?_
      refine XS.aload X8.here hexec rfl (hb hbytes d42) rfl rfl ?_
      refine XS.iloadN X8.here hexec rfl (hb hbytes d44) rfl ?_
      exact Steps.refl _)
    rw [n4]; exact hc
  obtain ⟨v11, T11, X11, E11, g11⟩ := X8.callS hexec (CodL.law l s.heap.size N) hown (wks W (staticW "java/lang/String" 47 CodL.yN)) (wk W CodL.tab) (W := 1) (Nat.le_of_ble_eq_true rfl) (Nat.le_of_ble_eq_true rfl) (Nat.le_refl _) (by show 0 + len + 0 ≤ len; omega) (g := (mkF m 45 #[.val (.ref a), .val (.ref b), .val (.int (Int32.ofNat o)), .val (.int (Int32.ofNat len)), .val .null, .val (.ref s.heap.size)] [.int (Int32.ofNat N.slots.size), .ref s.heap.size, .ref a])) rfl (by rw [hml]; rfl) c10 (argsL := [.ref s.heap.size, .int (Int32.ofNat N.slots.size)]) (rest := [.ref a]) rfl rfl (by show 2 * 0 + (1 + 0) ≤ _; decide) (hb hbytes d45) (⟨rfl, n1⟩)
  obtain ⟨rfl, q11⟩ := E11
  have hB11 := hB1.mv (X8.warmed.alike.symm.trans X11.warmed.alike) q11
  have c12 : Steps p.tables e below (s₁.setTop (entryFrame m #[.ref a, .ref b, .int (Int32.ofNat o), .int (Int32.ofNat len), .null] 6)) (T11.setTop (mkF m 48 #[.val (.ref a), .val (.ref b), .val (.int (Int32.ofNat o)), .val (.int (Int32.ofNat len)), .val .null, .val (.ref s.heap.size)] [.int 0, .ref a])) := g11
  obtain ⟨T13, X13, p13, bl13, sl13, st13⟩ := X11.finit hexec hown (wk W (.fieldLink "java/lang/String" 15 "java/lang/String" "coder" "B")) (Or.inr ⟨_, (wk W (.laysFinal "java/lang/String" "java/lang/String" "coder" "B"))⟩) (Or.inl ⟨rfl, hnm⟩) f2 (Or.inl rfl) hB11 (t := .byte) (by decide +kernel) rfl (g := (mkF m 48 #[.val (.ref a), .val (.ref b), .val (.int (Int32.ofNat o)), .val (.int (Int32.ofNat len)), .val .null, .val (.ref s.heap.size)] [.int 0, .ref a])) rfl (rest := []) rfl (hb hbytes d48)
  have c14 : Steps p.tables e below (s₁.setTop (entryFrame m #[.ref a, .ref b, .int (Int32.ofNat o), .int (Int32.ofNat len), .null] 6)) (T13.setTop (mkF m 54 #[.val (.ref a), .val (.ref b), .val (.int (Int32.ofNat o)), .val (.int (Int32.ofNat len)), .val .null, .val (.ref s.heap.size)] [.ref s.heap.size, .ref a])) := (c12.trans (st13 _ (Steps.refl _))).trans (by
    refine XS.aloadN X13.here hexec rfl (hb hbytes d51) rfl rfl ?_
    refine XS.aload X13.here hexec rfl (hb hbytes d52) rfl rfl ?_
    exact Steps.refl _)
  obtain ⟨T15, X15, p15, bl15, sl15, st15⟩ := X13.finit hexec hown (wk W (.fieldLink "java/lang/String" 9 "java/lang/String" "value" "[B")) (Or.inr ⟨_, (wk W (.laysFinal "java/lang/String" "java/lang/String" "value" "[B"))⟩) (Or.inl ⟨rfl, hnm⟩) f1 (Or.inl rfl) bl13 (t := (.array .byte)) (by decide +kernel) rfl (g := (mkF m 54 #[.val (.ref a), .val (.ref b), .val (.int (Int32.ofNat o)), .val (.int (Int32.ofNat len)), .val .null, .val (.ref s.heap.size)] [.ref s.heap.size, .ref a])) rfl (rest := []) rfl (hb hbytes d54)
  have c16 : Steps p.tables e below (s₁.setTop (entryFrame m #[.ref a, .ref b, .int (Int32.ofNat o), .int (Int32.ofNat len), .null] 6)) (T15.setTop (mkF m 57 #[.val (.ref a), .val (.ref b), .val (.int (Int32.ofNat o)), .val (.int (Int32.ofNat len)), .val .null, .val (.ref s.heap.size)] [])) := c14.trans (st15 _ (Steps.refl _))
  have ap := apart (Or.inr ⟨_, (wk W (.laysFinal "java/lang/String" "java/lang/String" "value" "[B"))⟩) (Or.inr ⟨_, (wk W (.laysFinal "java/lang/String" "java/lang/String" "coder" "B"))⟩) f1 f2 (t₁ := .array .byte) (t₂ := .byte) (by decide +kernel) (by decide +kernel) (by decide)
  have al := X8.warmed.alike.symm.trans X15.warmed.alike
  have n7 : T11.heap[s.heap.size]? = some N := by rw [q11]; exact n1.1
  exact ⟨T15, none, _, _, _, X15, by simp, rfl, by omega, (fun _ => rfl), ⟨rfl, _, N, bl15, ((Same.refl D _).set _ (by simp)).set _ (by simp), sl15, (Cell.slots_setSlot_ne _ ap).trans sl13, n1.keep al (p15.other hne (p13.other hne n7)), n2, by rw [al.findClass]; exact n3, n4, n5, fun y c h1 h2 => p15.other h1 (p13.other h1 (by rw [q11]; exact n6 y c h2)), by rw [p15.2.2, p13.2.2, q11]; exact z8⟩, fun fs hl => c16.trans (X15.returnOut hexec hret (hb hbytes d57) hl)⟩
end New4
namespace New1
def yN : MethodName := ⟨"java/lang/String", "<init>", "([C)V"⟩
abbrev yB : ByteArray := jdk_42_method_3_code
theorem d0 : decode yB 0 = .ok (.aload_n 0, 1) := by decide +kernel
theorem d1 : decode yB 1 = .ok (.aload_n 1, 1) := by decide +kernel
theorem d2 : decode yB 2 = .ok (.iconst 0, 1) := by decide +kernel
theorem d3 : decode yB 3 = .ok (.aload_n 1, 1) := by decide +kernel
theorem d4 : decode yB 4 = .ok (.arraylength, 1) := by decide +kernel
theorem d5 : decode yB 5 = .ok (.aconst_null, 1) := by decide +kernel
theorem d6 : decode yB 6 = .ok (.invokespecial 27, 3) := by decide +kernel
theorem d9 : decode yB 9 = .ok (.return_, 1) := by decide +kernel
def site : List Cond := [New4.tab] ++ initW "java/lang/String" 27 New4.yN
def tab : Cond := tabOf yN yB 2 none site
def P (a : Addr) (D : Cell) (fV fC : Field) (b : Addr) (A : Cell) (z : Int32) (args : Array Value) (s : State) : Prop := args = #[.ref a, .ref b] ∧ Blank "java/lang/String" a D s ∧ Found "java/lang/String" "value" "[B" fV s ∧ Found "java/lang/String" "coder" "B" fC s ∧ Ch b A s ∧ StaticIs s "java/lang/String" "COMPACT_STRINGS" "Z" (.int z) ∧ ¬ z = 0 ∧ 0 < A.slots.size ∧ A.slots.size ≤ 536870912 ∧ ∀ i, i < A.slots.size → ¬ 255 < cv A i
def E (a : Addr) (D : Cell) (fV fC : Field) (A : Cell) (r : Option Value) (s u : State) : Prop := Got a D fV fC A 0 A.slots.size r s u
/-- new String(chars), not empty, no char above 255: a Latin-1 String of their low bytes -/
theorem law (l : Launch) (a : Addr) (D : Cell) (fV fC : Field) (b : Addr) (A : Cell) (z : Int32) : Law l yN 2 1 3 52 yB 2 none site (P a D fV fC b A z) (E a D fV fC A) [⟨a, fC.slot⟩, ⟨a, fV.slot⟩] 1 A.slots.size := by
  refine Law.of_walk (plainFor_of_name (by decide +kernel)) (by decide +kernel) (by decide +kernel) (by decide) (fun _ _ h => by rw [h.1]; rfl) (fun _ U U' hal hh h => ⟨h.1, h.2.1.mv hal hh, h.2.2.1.al hal, h.2.2.2.1.al hal, h.2.2.2.2.1.mv hal hh, h.2.2.2.2.2.1.there hal hh, h.2.2.2.2.2.2⟩) (fun r U U' V V' h1 hal h2 h => Got.mv r U U' V V' h1 hal h2 h) ?_
  intro p e s m args below meth c s₁ X0 hexec hbytes hml hret hlk hnm hown hh0 W hP
  obtain ⟨rfl, hB, f1, f2, hA, s1, hz, l0, l2, hp⟩ := hP
  have c1 : Steps p.tables e below (s₁.setTop (entryFrame m #[.ref a, .ref b] 2)) (s₁.setTop (mkF m 0 #[.val (.ref a), .val (.ref b)] [])) := entry rfl
  have c2 : Steps p.tables e below (s₁.setTop (entryFrame m #[.ref a, .ref b] 2)) (s₁.setTop (mkF m 6 #[.val (.ref a), .val (.ref b)] [.null, .int (Int32.ofNat A.slots.size), .int 0, .ref b, .ref a])) := c1.trans (by
    refine XS.aloadN X0.here hexec rfl (hb hbytes d0) rfl rfl ?_
    refine XS.aloadN X0.here hexec rfl (hb hbytes d1) rfl rfl ?_
    refine iconstV X0.here hexec rfl 0 (hb hbytes d2) (by decide) ?_
    refine XS.aloadN X0.here hexec rfl (hb hbytes d3) rfl rfl ?_
    refine X0.alen hexec (hA.1.mv X0.warmed.alike hh0) rfl rfl (hb hbytes d4) ?_
    refine XS.aconstNull X0.here hexec rfl (hb hbytes d5) ?_
    exact Steps.refl _)
  obtain ⟨v3, T3, X3, E3, g3⟩ := X0.callN hexec (New4.law l a D fV fC b A z 0 A.slots.size) rfl hown (wks W (initW "java/lang/String" 27 New4.yN)) (W New4.tab (by simp only [site, List.mem_cons, List.mem_append, true_or, or_true])) (W := 0) (Nat.le_of_ble_eq_true rfl) (Nat.le_of_ble_eq_true rfl) (Nat.le_refl _) (by show 0 + A.slots.size ≤ A.slots.size; omega) (g := (mkF m 6 #[.val (.ref a), .val (.ref b)] [.null, .int (Int32.ofNat A.slots.size), .int (Int32.ofNat 0), .ref b, .ref a])) rfl (by rw [hml]; rfl) c2 (argsL := [.ref b, .int (Int32.ofNat 0), .int (Int32.ofNat A.slots.size), .null]) (rest := []) rfl rfl (by show 2 * 0 + 0 ≤ _; decide) (hb hbytes d6) (⟨rfl, hB.mv X0.warmed.alike hh0, f1.al X0.warmed.alike, f2.al X0.warmed.alike, hA.mv X0.warmed.alike hh0, s1.there X0.warmed.alike hh0, hz, l0, by omega, l2, fun i hi => by rw [Nat.zero_add]; exact hp i hi⟩)
  have e0 := Got.mv _ s₁ s _ _ hh0.symm (Vm.Alike.refl _) rfl E3
  obtain rfl := e0.1
  have c4 : Steps p.tables e below (s₁.setTop (entryFrame m #[.ref a, .ref b] 2)) (T3.setTop (mkF m 9 #[.val (.ref a), .val (.ref b)] [])) := g3
  exact ⟨T3, none, _, _, _, X3, by simp, rfl, by omega, (fun _ => rfl), e0, fun fs hl => c4.trans (X3.returnOut hexec hret (hb hbytes d9) hl)⟩
theorem pays {l : Launch} {R : Room} {p : Program} {e : Env} {below : List Frame} {s : State} {sargs : Array Value} {len W : Nat} (a : Addr) (D : Cell) (fV fC : Field) (b : Addr) (A : Cell) (z : Int32) (htab : tab.before sargs s = true) (hfr : 4 ≤ R.frames) (hlo : W + 65 ≤ R.locals) :
    Back l R p e below s sargs yN len W (fun A₁ a₁ => A₁.cells + 1 ≤ R.cells ∧ A₁.slots + A.slots.size ≤ R.slots ∧ P a D fV fC b A z a₁ A₁.U) (fun A₁ _ v₁ B₁ => E a D fV fC A v₁ A₁.U B₁.U ∧ B₁.locs = A₁.locs ++ [⟨a, fC.slot⟩, ⟨a, fV.slot⟩] ∧ B₁.cells = A₁.cells + 1 ∧ B₁.slots = A₁.slots + A.slots.size) :=
  (law l a D fV fC b A z).pays htab hfr (by omega)
end New1
end StrChars
namespace StrChars.Road
open Jvm Sem ClassFile Op Lib Jvm.Stand Jvm.Free Jvm.Free.XT
open Jvm.Lib.Cold (StaticIs)
abbrev ST : String := "java/lang/String"
/-- every table word that New1's law asks, flat -/
abbrev words : List Jvm.Cond := [.code New1.yN New1.yB 2 none, .initialized ST, .methodLink ST 27 New4.yN, .instanceMethod New4.yN,
  .code New4.yN New4.yB 6 none, .fieldLink ST 38 ST "COMPACT_STRINGS" "Z", .laysFinal ST ST "value" "[B", .fieldLink ST 9 ST "value" "[B", .laysFinal ST ST "coder" "B", .fieldLink ST 15 ST "coder" "B",
  .methodLink ST 1 Lib.objectInit, .instanceMethod Lib.objectInit, .code Lib.objectInit ⟨#[0xb1]⟩ 1 none, .methodLink ST 177 Cmp3.yN, .static Cmp3.yN, .methodLink ST 47 CodL.yN, .static CodL.yN,
  .code Cmp3.yN Cmp3.yB 6 (some (.array .byte)), .initialized U16, .arrayClass .byte, .methodLink U16 115 Cmp5.yN, .static Cmp5.yN, .code Cmp5.yN Cmp5.yB 7 (some .int), .code CodL.yN CodL.yB 2 (some .byte)]
theorem tab_of {a : Array Value} {s : State} (h : ∀ w ∈ words, w.before a s = true) : New1.tab.before a s = true := by
  have h5 : Cmp5.tab.before a s = true := unparts (wk h (.code Cmp5.yN Cmp5.yB 7 (some .int))) (wks h (.initialized Cmp5.yN.cls :: Cmp5.site))
  have hc : CodL.tab.before a s = true := unparts (wk h (.code CodL.yN CodL.yB 2 (some .byte))) (wks h (.initialized CodL.yN.cls :: CodL.site))
  have q5 : ∀ w ∈ Cmp5.tab :: words, w.before a s = true := fun w hw => (List.mem_cons.mp hw).elim (fun e => e ▸ h5) (h w)
  have h3 : Cmp3.tab.before a s = true := unparts (wk q5 (.code Cmp3.yN Cmp3.yB 6 (some (.array .byte)))) (wks q5 (.initialized Cmp3.yN.cls :: Cmp3.site))
  have q3 : ∀ w ∈ Cmp3.tab :: CodL.tab :: words, w.before a s = true := fun w hw => (List.mem_cons.mp hw).elim (fun e => e ▸ h3) fun hw => (List.mem_cons.mp hw).elim (fun e => e ▸ hc) (h w)
  have h4 : New4.tab.before a s = true := unparts (wk q3 (.code New4.yN New4.yB 6 none)) (wks q3 (.initialized New4.yN.cls :: New4.site))
  have q4 : ∀ w ∈ New4.tab :: words, w.before a s = true := fun w hw => (List.mem_cons.mp hw).elim (fun e => e ▸ h4) (h w)
  exact unparts (wk q4 (.code New1.yN New1.yB 2 none)) (wks q4 (.initialized New1.yN.cls :: New1.site))
/-- the words ride from the start Z to the walk's own state -/
theorem moved {Z s : State} {a0 args : Array Value} (hZ : Z.Warmed39 s.vm) (hw : ∀ d ∈ words, d.before a0 Z = true) : ∀ d ∈ words, d.before args s = true := fun d hd => by
  have q := hw d hd
  have t : ∀ d ∈ words, d = .arrayClass .byte ∨ (d.onTables && d.keepsFace) = true := by decide +kernel
  rcases t d hd with rfl | t
  · exact RoadKit.mvA hZ q
  · exact RoadKit.mv hZ q t
/-- WHAT COMES BACK, over the tables of the start Z: h the heap at the call, h' behind it -/
def Q (Z : State) (x : Addr) (A : Cell) (h : Heap) (v : Option Value) (h' : Heap) (L : List Loc) : Prop := v = none ∧ (∀ y ∈ L, y.base = x) ∧ RoadKit.Keep h h' [x] ∧ h'.size = h.size + 1 ∧ RoadKit.Exa Z h' x ST ∧ RoadKit.Fld Z h' x ST "value" "[B" (.ref h.size) ∧ RoadKit.Fld Z h' x ST "coder" "B" (.int 0) ∧
  (∃ V : Cell, RoadKit.Arr Z h' h.size V .byte ∧ V.vm = .none ∧ Z.vm.findClass "[B" = some V.cls ∧ V.slots.size = A.slots.size ∧ ∀ j, j < A.slots.size → V.slots[j]? = some (.int (lo8 (cv A j)))) ∧
  ∀ (O n d : String) (w : Value), RoadKit.Fld Z h x O n d w → RoadKit.slotOf Z O n d ≠ RoadKit.slotOf Z ST "value" "[B" → RoadKit.slotOf Z O n d ≠ RoadKit.slotOf Z ST "coder" "B" → RoadKit.Fld Z h' x O n d w
/-- **new String(chars) AT A CALL, IN THE ROAD'S FORM**: for specialBack behind newO: x the fresh String, b the char[] with the cell A -/
theorem back {p : Program} {l : Launch} {e : Env} {R : Room} {s : State} {args : Array Value} {below : List Frame} {len W : Nat} {Z : State} {a0 : Array Value} {h : Heap} (hZ : Z.Warmed39 s.vm) (hw : ∀ d ∈ words, d.before a0 Z = true) {kI : Nat} (wi : (Jvm.Cond.instantiable ST kI).before a0 Z = true)
    {x b : Addr} {A : Cell} {z : Int32} {v0 c0 : Value} (E : RoadKit.Exa Z h x ST) (V : RoadKit.Fld Z h x ST "value" "[B" v0) (C : RoadKit.Fld Z h x ST "coder" "B" c0) (K : RoadKit.Arr Z h b A .char) (hty : Typed .char A) (S : RoadKit.Sta Z h ST "COMPACT_STRINGS" "Z" (.int z)) (hz : ¬ z = 0)
    (l0 : 0 < A.slots.size) (l2 : A.slots.size ≤ 536870912) (hp : ∀ i, i < A.slots.size → ¬ 255 < cv A i) (hfr : 4 ≤ R.frames) (hlo : W + 65 ≤ R.locals) :
    Back l R p e below s args New1.yN len W (fun P a => a = #[.ref x, .ref b] ∧ P.U.heap = h ∧ P.cells + 1 ≤ R.cells ∧ P.slots + A.slots.size ≤ R.slots)
      (fun P _ v B => ∃ L, Q Z x A h v B.U.heap L ∧ B.locs = P.locs ++ L ∧ B.cells = P.cells + 1 ∧ B.slots = P.slots + A.slots.size) := by
  intro m meth c P g ig mk a X hg hsize hdg hW hn hp'
  obtain ⟨rfl, rfl, r1, r2⟩ := hp'
  have al : Z.vm.Alike P.U.vm := hZ.alike.trans X.warmed.alike
  obtain ⟨D, cfV, kV, iV, fV, hD, gV, stV, knV, obV, asV, slV⟩ := id V
  obtain ⟨D', cfC, kC, iC, fC, hD', gC, stC, -, -, asC, slC⟩ := id C
  cases hD.symm.trans hD'
  obtain ⟨D2, kD, e1, e2, e3, e4, e5⟩ := id E
  cases hD.symm.trans e1
  obtain ⟨c2, k2, i1, i2, i3, -⟩ := Cond.instantiable_spec wi
  cases e2.symm.trans i1
  cases e3.symm.trans i2
  obtain ⟨kU, u1, u2⟩ := al.2.2 _ _ e3
  have hB : Blank ST x D P.U := ⟨hD, ⟨knV, fun q hq => by rw [hq] at obV; cases obV⟩, by rw [al.findClass]; exact e2, kU, u1, by rw [u2]; exact i3, by rw [u2]; exact e5 i3⟩
  have F1 : Found ST "value" "[B" fV P.U := ⟨SBG.found_only al ⟨cfV, kV, iV, gV⟩, stV⟩
  have F2 : Found ST "coder" "B" fC P.U := ⟨SBG.found_only al ⟨cfC, kC, iC, gC⟩, stC⟩
  have hA : Ch b A P.U := ⟨⟨K.1, State.isArrayOf_alike al K.2.1, K.2.2, by omega⟩, hty⟩
  have hS : StaticIs P.U ST "COMPACT_STRINGS" "Z" (.int z) := by
    obtain ⟨cfS, iS, kS, fS, st, cS, t1, t2, t3, t4, t5, t6, t7⟩ := S
    exact StaticIs.there (s := { Z with heap := P.U.heap }) ⟨cfS, iS, kS, fS, st, cS, t1, t2, t3, t4, t5, (fun q => by rw [q] at t6; cases t6), t7⟩ al rfl
  obtain ⟨v, B, X', ⟨⟨hv, E', V', q1, q2, q3, q4, q5, q6, q7, q8, q9, q10, q11⟩, hl, hc, hs⟩, st⟩ := New1.pays x D fV fC b A z (tab_of (moved hZ hw)) hfr hlo m meth c P g ig mk _ X hg hsize hdg hW hn ⟨r1, r2, rfl, hB, F1, F2, hA, hS, hz, l0, l2, hp⟩
  have al' : Z.vm.Alike B.U.vm := hZ.alike.trans X'.warmed.alike
  have hsz : E'.slots.size = D.slots.size := by
    obtain ⟨-, -, -, kB, w1, w2, w3⟩ := q1
    obtain ⟨kB', y1, y2⟩ := al'.2.2 _ _ e3
    rw [q2.2.1] at w1
    cases w1.symm.trans y1
    rw [w3, e5 i3, y2]
  refine ⟨v, B, X', ⟨_, ⟨hv, ?_, ⟨by omega, fun y cy hy hn' => q10 y cy (by simpa using hn') hy, fun y cy hy => ?_⟩, q11, ⟨E', _, q1.1, by rw [q2.2.1]; exact e2, by rw [q2.2.1]; exact e3, by rw [q2.1]; exact obV, fun _ => by rw [hsz]; exact e5 i3⟩,
    ⟨E', cfV, kV, iV, fV, q1.1, gV, stV, by rw [q2.1]; exact knV, by rw [q2.1]; exact obV, by rw [q2.2.1]; exact asV, q3⟩, ⟨E', cfC, kC, iC, fC, q1.1, gC, stC, by rw [q2.1]; exact knV, by rw [q2.1]; exact obV, by rw [q2.2.1]; exact asC, q4⟩,
    ⟨V', ⟨q5.1, State.isArrayOf_alike al'.symm q5.2.1, q5.2.2.1⟩, q6, by rw [← al'.findClass]; exact q7, q8, fun j hj => by have := q9 j hj; rwa [Nat.zero_add] at this⟩, fun O n d w F n1 n2 => ?_⟩, hl, hc, hs⟩, st⟩
  · intro y hy
    simp only [List.mem_cons, List.not_mem_nil, or_false] at hy
    rcases hy with rfl | rfl <;> rfl
  · by_cases q : y = x
    · subst q
      cases hD.symm.trans hy
      exact ⟨E', q1.1, q2.2.1, q2.1, hsz⟩
    · exact ⟨cy, q10 y cy q hy, rfl, rfl, rfl⟩
  · obtain ⟨D3, cf, k, i, f, g1, g2, g3, g4, g5, g6, g7⟩ := F
    cases hD.symm.trans g1
    simp only [RoadKit.slotOf, g2, gV, gC, Option.map_some, Option.getD_some] at n1 n2
    exact ⟨E', cf, k, i, f, q1.1, g2, g3, by rw [q2.1]; exact g4, by rw [q2.1]; exact g5, by rw [q2.2.1]; exact g6, by rw [q2.2.2 f.slot (by simp [n1, n2])]; exact g7⟩
end StrChars.Road
namespace StrChars.Road
open Jvm Sem ClassFile Op Lib Jvm.Stand Jvm.Free Jvm.Free.XT
/-- WHAT COMES BACK, the byte[] as a list of values -/
def QA (Z : State) (x : Addr) (zn : Int32) (cs : List Int32) (h : Heap) (v : Option Value) (h' : Heap) (L : List Loc) : Prop := v = none ∧ (∀ y ∈ L, y.base = x) ∧ RoadKit.Keep h h' [x] ∧ h'.size = h.size + 1 ∧ RoadKit.Exa Z h' x ST ∧ RoadKit.Fld Z h' x ST "value" "[B" (.ref h.size) ∧ RoadKit.Fld Z h' x ST "coder" "B" (.int 0) ∧
  (∃ kb, Z.vm.findClass "[B" = some kb ∧ RoadKit.Arv Z h' h.size kb .byte zn (cs.map fun c => .int (lo8 c)) (.int 0)) ∧
  ∀ (O n d : String) (w : Value), RoadKit.Fld Z h x O n d w → RoadKit.slotOf Z O n d ≠ RoadKit.slotOf Z ST "value" "[B" → RoadKit.slotOf Z O n d ≠ RoadKit.slotOf Z ST "coder" "B" → RoadKit.Fld Z h' x O n d w
/-- **new String(chars) AT A CALL, THE ARRAYS AS LISTS**: the char[] at b holds cs, not empty, no char above 255 -/
theorem backArv {p : Program} {l : Launch} {e : Env} {R : Room} {s : State} {args : Array Value} {below : List Frame} {len W : Nat} {Z : State} {a0 : Array Value} {h : Heap} (hZ : Z.Warmed39 s.vm) (hw : ∀ d ∈ words, d.before a0 Z = true) {kI : Nat} (wi : (Jvm.Cond.instantiable ST kI).before a0 Z = true)
    {x b : Addr} {k : ClassId} {zn z : Int32} {cs : List Int32} {dv v0 c0 : Value} (E : RoadKit.Exa Z h x ST) (V : RoadKit.Fld Z h x ST "value" "[B" v0) (C : RoadKit.Fld Z h x ST "coder" "B" c0) (K : RoadKit.Arv Z h b k .char zn (cs.map Value.int) dv) (S : RoadKit.Sta Z h ST "COMPACT_STRINGS" "Z" (.int z)) (hz : ¬ z = 0)
    (hlen : zn.toNatClampNeg = cs.length) (h0 : 0 < cs.length) (hbig : cs.length ≤ 536870912) (hall : ∀ c ∈ cs, ¬ 255 < c) (hfr : 4 ≤ R.frames) (hlo : W + 65 ≤ R.locals) :
    Back l R p e below s args New1.yN len W (fun P a => a = #[.ref x, .ref b] ∧ P.U.heap = h ∧ P.cells + 1 ≤ R.cells ∧ P.slots + cs.length ≤ R.slots)
      (fun P _ v B => ∃ L, QA Z x zn cs h v B.U.heap L ∧ B.locs = P.locs ++ L ∧ B.cells = P.cells + 1 ∧ B.slots = P.slots + cs.length) := by
  obtain ⟨A, K1, K2, K3, K4, K5, K6⟩ := K
  have e : A.slots.size = cs.length := K3.trans hlen
  have hat : ∀ (i : Nat) (hi : i < cs.length), A.slots[i]? = some (.int cs[i]) := fun i hi => by rw [K5 i (by omega)]; simp [List.getD_eq_getElem?_getD, hi]
  have hcv : ∀ (i : Nat) (hi : i < cs.length), cv A i = cs[i] := fun i hi => by unfold cv; rw [hat i hi]
  have hty : Typed .char A := fun i v hv => by
    have hi : i < A.slots.size := (Array.getElem?_eq_some_iff.mp hv).1
    have q := K5 i hi
    rw [hv] at q
    rw [Option.some.inj q]
    exact K6 i hi
  refine Back.mono (back hZ hw wi E V C K1 hty S hz (by omega) (by omega) (fun i hi => by rw [hcv i (by omega)]; exact hall _ (List.getElem_mem _)) hfr hlo) (fun P a hp => ⟨hp.1, hp.2.1, hp.2.2.1, by rw [e]; exact hp.2.2.2⟩) (fun P a v B hp hq => ?_)
  obtain ⟨L, ⟨q1, q2, q3, q4, q5, q6, q7, ⟨V', v1, v2, v3, v4, v5⟩, q9⟩, hl, hc, hs⟩ := hq
  refine ⟨L, ⟨q1, q2, q3, q4, q5, q6, q7, ⟨V'.cls, v3, V', v1, rfl, by rw [v4, e, hlen], K4, fun i hi => ?_, fun i hi => ?_⟩, q9⟩, hl, hc, by rw [hs, e]⟩
  · have hi' : i < cs.length := by omega
    rw [v5 i (by omega), hcv i hi']; simp [List.getD_eq_getElem?_getD, hi']
  · have hi' : i < cs.length := by omega
    simp only [List.getD_eq_getElem?_getD, List.getElem?_map, List.getElem?_eq_getElem hi', Option.map_some, Option.getD_some]
    exact fits_lo8 _
end StrChars.Road
namespace StrChars.Road
open Jvm Sem ClassFile Op Lib Jvm.Stand Jvm.Free Jvm.Free.XT
/-- WHAT COMES BACK, in the writer's own shape -/
def QV (Z : State) (x : Addr) (N : Int32) (bs : List Int32) (h : Heap) (n0 : Nat) (v : Option Value) (h' : Heap) (L : List Loc) : Prop := v = none ∧ RoadKit.Fr n0 L ∧ RoadKit.Keep h h' [x] ∧ RoadKit.Exa Z h' x ST ∧ RoadKit.Fld Z h' x ST "coder" "B" (.int 0) ∧
  ∃ (t : Addr) (kb : ClassId), n0 ≤ t ∧ h.size ≤ t ∧ ¬ t = x ∧ RoadKit.Fld Z h' x ST "value" "[B" (.ref t) ∧ RoadKit.Arv Z h' t kb .byte N (bs.map Value.int) (.int 0)
/-- **new String(chars) AT A CALL, FOR THE WRITER**: a char[] of n known ints, each 0 to 255 -/
theorem backV {p : Program} {l : Launch} {e : Env} {R : Room} {s : State} {args : Array Value} {below : List Frame} {len W : Nat} {Z : State} {a0 : Array Value} {h : Heap} (hZ : Z.Warmed39 s.vm) (hw : ∀ d ∈ words, d.before a0 Z = true) {kI : Nat} (wi : (Jvm.Cond.instantiable ST kI).before a0 Z = true)
    {x b : Addr} {kC : ClassId} {cs bs : List Int32} {d v0 c0 : Value} {z N : Int32} {n n0 : Nat} (hx0 : n0 ≤ x) (hh0 : n0 ≤ h.size) (E : RoadKit.Exa Z h x ST) (V : RoadKit.Fld Z h x ST "value" "[B" v0) (C : RoadKit.Fld Z h x ST "coder" "B" c0) (K : RoadKit.Arv Z h b kC .char N (cs.map Value.int) d) (S : RoadKit.Sta Z h ST "COMPACT_STRINGS" "Z" (.int z)) (hz : ¬ z = 0)
    (hn : cs.length = n) (hN : N = Int32.ofNat n) (l0 : 0 < n) (l2 : n ≤ 4000) (hp : ∀ c ∈ cs, ¬ c < 0 ∧ ¬ (255 : Int32) < c) (hb : bs = cs.map (fun c => c.toInt8.toInt32)) (hfr : 4 ≤ R.frames) (hlo : W + 65 ≤ R.locals) :
    Back l R p e below s args (⟨"java/lang/String", "<init>", "([C)V"⟩ : MethodName) len W (fun P a => a = #[.ref x, .ref b] ∧ P.U.heap = h ∧ P.cells + 1 ≤ R.cells ∧ P.slots + n ≤ R.slots)
      (fun P _ v B => ∃ L, QV Z x N bs h n0 v B.U.heap L ∧ B.locs = P.locs ++ L ∧ B.cells = P.cells + 1 ∧ B.slots = P.slots + n) := by
  subst hn hN hb
  refine Back.mono (backArv hZ hw wi E V C K S hz (n32 (by omega)) l0 (by omega) (fun c hc => (hp c hc).2) hfr hlo) (fun P a hp => hp) (fun P a v B hp hq => ?_)
  obtain ⟨L, ⟨q1, q2, q3, q4, q5, q6, q7, ⟨kb, v1, v2⟩, q9⟩, hl, hc, hs⟩ := hq
  exact ⟨L, ⟨q1, fun y hy => by rw [q2 y hy]; exact hx0, q3, q5, q7, h.size, kb, hh0, Nat.le_refl _, Nat.ne_of_gt E.lt, q6, by rw [List.map_map]; exact v2⟩, hl, hc, hs⟩
end StrChars.Road
end Jvm.Pilot.@@N@@
namespace Jvm.Pilot.@@N@@
open Jvm Jvm.ClassFile Sem Op Lib Jvm.Free Jvm.Stand Jvm.LawKit Jvm.RoadKit Bundle Jvm.Pilot.@@N@@.Jvm.D Jvm.OwnKit
section OwnStr
variable {p : Program} {l : Launch} {e : Env} {R : Room} {s : State} {args : Array Value} {below : List Frame} {Z : State} {a0 : Array Value} {EL : List (String × Nat)} {vm : Vm} {h : Heap} {len W : Nat}
theorem own_up {cs : List Int32} (h : ∀ c ∈ cs, B8 c) : ∀ c ∈ cs, ¬ c < 0 ∧ ¬ (65535 : Int32) < c := fun c hc => ⟨(h c hc).1, fun q => (h c hc).2 (by rw [Int32.lt_iff_toInt_lt] at q ⊢; have e1 : (65535 : Int32).toInt = 65535 := rfl; have e2 : (255 : Int32).toInt = 255 := rfl; omega)⟩
theorem own_payNew {zc : Int32} (hws : ∀ d ∈ StrChars.Road.words, d.before a0 Z = true) (wi : (Jvm.Cond.instantiable "java/lang/String" 4).before a0 Z = true) (Scs : Sta Z Z.heap "java/lang/String" "COMPACT_STRINGS" "Z" (.int zc)) (hzc : ¬ zc = 0) (O : Ext Z.heap h)
    {x b : Addr} {kC : ClassId} {cs : List Int32} {d v0 c0 : Value} {N : Int32} {n : Nat} (gx0 : Z.heap.size ≤ x) (E : Exa Z h x "java/lang/String") (V : Fld Z h x "java/lang/String" "value" "[B" v0) (C : Fld Z h x "java/lang/String" "coder" "B" c0) (K : Arv Z h b kC .char N (cs.map Value.int) d)
    (hn : cs.length = n) (hN : N = Int32.ofNat n) (l0 : 0 < n) (l2 : n ≤ 4000) (hp : ∀ c ∈ cs, B8 c) (Sf : Safe Z EL vm h x) (hfr : 4 ≤ R.frames) (hlo : W + 65 ≤ R.locals) (hZ : Z.Warmed39 vm) (H : CHv Z EL vm h) (hEL : EW Z a0 EL) :
    Pay l R p e below s args Z EL vm h (⟨"java/lang/String", "<init>", "([C)V"⟩ : MethodName) len W #[.ref x, .ref b] 1 n (fun v _ h' => ∃ (t : Addr), v = none ∧ Keep h h' [x] ∧ h.size ≤ t ∧ Str Z h' x t cs) := by
  have hx : x < h.size := E.lt
  refine Pay.of_back (a0 := a0) (Q0 := StrChars.Road.QV Z x N (cs.map fun c => c.toInt8.toInt32) h Z.heap.size) (StrChars.Road.backV (s := s.setVm vm) hZ hws (kI := 4) wi (cs := cs) (bs := cs.map fun c => c.toInt8.toInt32) (n := n) gx0 O.1 E V C K (Scs.ext O) hzc hn hN l0 l2 hp rfl hfr hlo) hZ H hEL ?_
  rintro v h' L ⟨rfl, q1, q2, q3, q4, t, kb, q5, q6, q7, q8, q9⟩
  exact ⟨q1, ⟨[x], q2, allS Sf all0⟩, fun vm' _ => ⟨t, rfl, q2, q6, q3, q4, q8, ⟨kb, by rw [hn, ← hN]; exact q9⟩, hp, by rw [hn]; exact l2⟩⟩
end OwnStr
end Jvm.Pilot.@@N@@
namespace Jvm.Pilot.@@N@@
set_option maxRecDepth 65536
set_option maxHeartbeats 40000000
open Jvm Jvm.ClassFile Sem Op Lib Jvm.Free Jvm.Stand Jvm.LawKit Jvm.RoadKit Bundle Jvm.Pilot.@@N@@.Jvm.D Jvm.OwnKit
abbrev Rm (a b c d : Nat) : Room := { frames := a, cells := b, slots := c, locals := d }
def own_tabI : List Int32 := [(1207963663 : Int32), (1207963663 : Int32), (1207963663 : Int32), (1207963663 : Int32), (1207963663 : Int32), (1207963663 : Int32), (1207963663 : Int32), (1207963663 : Int32), (1207963663 : Int32), (1476411407 : Int32), (1342193679 : Int32), (1476411407 : Int32), (1610629135 : Int32), (1342193679 : Int32), (1207963663 : Int32), (1207963663 : Int32), (1207963663 : Int32), (1207963663 : Int32), (1207963663 : Int32), (1207963663 : Int32), (1207963663 : Int32), (1207963663 : Int32), (1207963663 : Int32), (1207963663 : Int32), (1207963663 : Int32), (1207963663 : Int32), (1207963663 : Int32), (1207963663 : Int32), (1342193679 : Int32), (1342193679 : Int32), (1342193679 : Int32), (1476411407 : Int32), (1610629132 : Int32), (1744830488 : Int32), (1744830488 : Int32), (671088664 : Int32), (671113242 : Int32), (671088664 : Int32), (1744830488 : Int32), (1744830488 : Int32), (-402653163), (-402653162), (1744830488 : Int32), (536870937 : Int32), (939524120 : Int32), (536870932 : Int32), (939524120 : Int32), (939524120 : Int32), (402667017 : Int32), (402667017 : Int32), (402667017 : Int32), (402667017 : Int32), (402667017 : Int32), (402667017 : Int32), (402667017 : Int32), (402667017 : Int32), (402667017 : Int32), (402667017 : Int32), (939524120 : Int32), (1744830488 : Int32), (-402653159), (1744830489 : Int32), (-402653159), (1744830488 : Int32), (1744830488 : Int32), (8552417 : Int32), (8552417 : Int32), (8552417 : Int32), (8552417 : Int32), (8552417 : Int32), (8552417 : Int32), (8552417 : Int32), (8552417 : Int32), (8552417 : Int32), (8552417 : Int32), (8552417 : Int32), (8552417 : Int32), (8552417 : Int32), (8552417 : Int32), (8552417 : Int32), (8552417 : Int32), (8552417 : Int32), (8552417 : Int32), (8552417 : Int32), (8552417 : Int32), (8552417 : Int32), (8552417 : Int32), (8552417 : Int32), (8552417 : Int32), (8552417 : Int32), (8552417 : Int32), (-402653163), (1744830488 : Int32), (-402653162), (1744830491 : Int32), (1744850967 : Int32), (1744830491 : Int32), (8486882 : Int32), (8486882 : Int32), (8486882 : Int32), (8486882 : Int32), (8486882 : Int32), (8486882 : Int32), (8486882 : Int32), (8486882 : Int32), (8486882 : Int32), (8486882 : Int32), (8486882 : Int32), (8486882 : Int32), (8486882 : Int32), (8486882 : Int32), (8486882 : Int32), (8486882 : Int32), (8486882 : Int32), (8486882 : Int32), (8486882 : Int32), (8486882 : Int32), (8486882 : Int32), (8486882 : Int32), (8486882 : Int32), (8486882 : Int32), (8486882 : Int32), (8486882 : Int32), (-402653163), (1744830489 : Int32), (-402653162), (1744830489 : Int32), (1207963663 : Int32), (1207963663 : Int32), (1207963663 : Int32), (1207963663 : Int32), (1207963663 : Int32), (1207963663 : Int32), (1342181391 : Int32), (1207963663 : Int32), (1207963663 : Int32), (1207963663 : Int32), (1207963663 : Int32), (1207963663 : Int32), (1207963663 : Int32), (1207963663 : Int32), (1207963663 : Int32), (1207963663 : Int32), (1207963663 : Int32), (1207963663 : Int32), (1207963663 : Int32), (1207963663 : Int32), (1207963663 : Int32), (1207963663 : Int32), (1207963663 : Int32), (1207963663 : Int32), (1207963663 : Int32), (1207963663 : Int32), (1207963663 : Int32), (1207963663 : Int32), (1207963663 : Int32), (1207963663 : Int32), (1207963663 : Int32), (1207963663 : Int32), (1207963663 : Int32), (939524108 : Int32), (1744830488 : Int32), (671113242 : Int32), (671113242 : Int32), (671113242 : Int32), (671113242 : Int32), (1744830492 : Int32), (1744830488 : Int32), (1744830491 : Int32), (1744830492 : Int32), (28677 : Int32), (-402653155), (1744830489 : Int32), (1207963664 : Int32), (1744830492 : Int32), (1744830491 : Int32), (671088668 : Int32), (671088665 : Int32), (402654731 : Int32), (402654731 : Int32), (1744830491 : Int32), (134049794 : Int32), (1744830488 : Int32), (1744830488 : Int32), (1744830491 : Int32), (402654475 : Int32), (28677 : Int32), (-402653154), (1744832523 : Int32), (1744832523 : Int32), (1744832523 : Int32), (1744830488 : Int32), (8548353 : Int32), (8548353 : Int32), (8548353 : Int32), (8548353 : Int32), (8548353 : Int32), (8548353 : Int32), (8548353 : Int32), (8548353 : Int32), (8548353 : Int32), (8548353 : Int32), (8548353 : Int32), (8548353 : Int32), (8548353 : Int32), (8548353 : Int32), (8548353 : Int32), (8548353 : Int32), (8548353 : Int32), (8548353 : Int32), (8548353 : Int32), (8548353 : Int32), (8548353 : Int32), (8548353 : Int32), (8548353 : Int32), (1744830489 : Int32), (8548353 : Int32), (8548353 : Int32), (8548353 : Int32), (8548353 : Int32), (8548353 : Int32), (8548353 : Int32), (8548353 : Int32), (134049794 : Int32), (8482818 : Int32), (8482818 : Int32), (8482818 : Int32), (8482818 : Int32), (8482818 : Int32), (8482818 : Int32), (8482818 : Int32), (8482818 : Int32), (8482818 : Int32), (8482818 : Int32), (8482818 : Int32), (8482818 : Int32), (8482818 : Int32), (8482818 : Int32), (8482818 : Int32), (8482818 : Int32), (8482818 : Int32), (8482818 : Int32), (8482818 : Int32), (8482818 : Int32), (8482818 : Int32), (8482818 : Int32), (8482818 : Int32), (1744830489 : Int32), (8482818 : Int32), (8482818 : Int32), (8482818 : Int32), (8482818 : Int32), (8482818 : Int32), (8482818 : Int32), (8482818 : Int32), (102592514 : Int32)]
def Ctx (Z : State) (a0 : Array Value) : Prop := (∀ d ∈ tables_1, d.before a0 Z = true) ∧ EW Z a0 consts_1 ∧ (∃ zc : Int32, Sta Z Z.heap "java/lang/String" "COMPACT_STRINGS" "Z" (.int zc) ∧ ¬ zc = 0) ∧ (∃ fm : Value, Sta Z Z.heap "jdk/internal/util/Preconditions" "SIOOBE_FORMATTER" "Ljava/util/function/BiFunction;" fm ∧ fm.isRef = true) ∧ (∃ dz el ee em mr : Addr, ∃ kd ke : ClassId, Sta Z Z.heap "java/util/ArrayList" "DEFAULTCAPACITY_EMPTY_ELEMENTDATA" "[Ljava/lang/Object;" (.ref dz) ∧ Exa Z Z.heap dz "[Ljava/lang/Object;" ∧ Arv Z Z.heap dz kd (.object "java/lang/Object") (0 : Int32) [] .null ∧ Sta Z Z.heap "java/util/ImmutableCollections" "EMPTY_LIST" "Ljava/util/ImmutableCollections$ListN;" (.ref el) ∧ Exa Z Z.heap el "java/util/ImmutableCollections$ListN" ∧ Fld Z Z.heap el "java/util/ImmutableCollections$ListN" "elements" "[Ljava/lang/Object;" (.ref ee) ∧ Arv Z Z.heap ee ke (.object "java/lang/Object") (0 : Int32) [] .null ∧ Fld Z Z.heap el "java/util/ImmutableCollections$ListN" "allowNulls" "Z" (.int (0 : Int32)) ∧ Sta Z Z.heap "java/util/ImmutableCollections" "EMPTY" "Ljava/lang/Object;" (.ref em) ∧ Exa Z Z.heap em "java/lang/Object" ∧ Mir Z "[Ljava/lang/Object;" mr) ∧ (∃ cdi ca : Addr, ∃ kA : ClassId, Sta Z Z.heap "java/lang/CharacterDataLatin1" "instance" "Ljava/lang/CharacterDataLatin1;" (.ref cdi) ∧ Exa Z Z.heap cdi "java/lang/CharacterDataLatin1" ∧ Sta Z Z.heap "java/lang/CharacterDataLatin1" "A" "[I" (.ref ca) ∧ Arv Z Z.heap ca kA .int (256 : Int32) (own_tabI.map Value.int) (.int (0 : Int32)))
theorem own_SA {Z : State} {a0 : Array Value} (hw : ∀ d ∈ tables_1, d.before a0 Z = true) : ∀ a ∈ Bundle.stringAtoms, a.before a0 Z = true := fun d hd => hw d ((by decide +kernel : ∀ d ∈ Bundle.stringAtoms, d ∈ tables_1) d hd)
theorem own_wNew {Z : State} {a0 : Array Value} (hw : ∀ d ∈ tables_1, d.before a0 Z = true) : ∀ d ∈ StrChars.Road.words, d.before a0 Z = true := fun d hd => hw d ((by decide +kernel : ∀ d ∈ StrChars.Road.words, d ∈ tables_1) d hd)
abbrev c0_ : String := "Ljava/lang/Object;"
abbrev c1_ : String := "Ljava/lang/String;"
abbrev c2_ : String := "Ljava/util/ArrayList;"
abbrev c3_ : String := "Ljava/util/List;"
abbrev c4_ : String := "[Ljava/lang/Object;"
abbrev c5_ : String := "allowNulls"
abbrev c6_ : String := "com/example/headings_from_text/headingsfromtext/vocabulary/Concept"
abbrev c7_ : String := "elementData"
abbrev c8_ : String := "expectedModCount"
abbrev c9_ : String := "isListIterator"
abbrev c10_ : String := "java/lang/AbstractStringBuilder"
abbrev c11_ : String := "java/lang/CharacterDataLatin1"
abbrev c12_ : String := "java/lang/Object"
abbrev c13_ : String := "java/lang/String"
abbrev c14_ : String := "java/lang/StringBuilder"
abbrev c15_ : String := "java/util/AbstractCollection"
abbrev c16_ : String := "java/util/AbstractList"
abbrev c17_ : String := "java/util/ArrayList"
abbrev c18_ : String := "java/util/ArrayList$Itr"
abbrev c19_ : String := "java/util/ImmutableCollections"
abbrev c20_ : String := "java/util/ImmutableCollections$List12"
abbrev c21_ : String := "java/util/ImmutableCollections$ListItr"
abbrev c22_ : String := "java/util/ImmutableCollections$ListN"
abbrev c23_ : String := "java/util/Iterator"
abbrev c24_ : String := "java/util/List"
abbrev y0_ : ByteArray := jdk_116_method_1_code
abbrev y1_ : ByteArray := jdk_116_method_26_code
abbrev y2_ : ByteArray := jdk_22_method_16_code
abbrev y3_ : ByteArray := jdk_22_method_1_code
abbrev y4_ : ByteArray := jdk_29_method_65_code
abbrev y5_ : ByteArray := jdk_29_method_69_code
abbrev y6_ : ByteArray := jdk_31_method_10_code
abbrev y7_ : ByteArray := jdk_38_method_16_code
abbrev y8_ : ByteArray := jdk_38_method_24_code
abbrev y9_ : ByteArray := jdk_38_method_25_code
abbrev y10_ : ByteArray := jdk_38_method_2_code
abbrev y11_ : ByteArray := jdk_38_method_55_code
abbrev y12_ : ByteArray := jdk_38_method_6_code
abbrev y13_ : ByteArray := jdk_38_method_7_code
abbrev y14_ : ByteArray := jdk_38_method_9_code
abbrev y15_ : ByteArray := jdk_39_method_1_code
abbrev y16_ : ByteArray := jdk_40_method_47_code
abbrev y17_ : ByteArray := jdk_40_method_48_code
abbrev y18_ : ByteArray := jdk_41_method_11_code
abbrev y19_ : ByteArray := jdk_42_method_117_code
abbrev y20_ : ByteArray := jdk_42_method_120_code
abbrev y21_ : ByteArray := jdk_42_method_133_code
abbrev y22_ : ByteArray := jdk_42_method_147_code
abbrev y23_ : ByteArray := jdk_42_method_150_code
abbrev y24_ : ByteArray := jdk_42_method_152_code
abbrev y25_ : ByteArray := jdk_42_method_154_code
abbrev y26_ : ByteArray := jdk_42_method_155_code
abbrev y27_ : ByteArray := jdk_42_method_53_code
abbrev y28_ : ByteArray := jdk_42_method_54_code
abbrev y29_ : ByteArray := jdk_42_method_56_code
abbrev y30_ : ByteArray := jdk_43_method_2_code
abbrev y31_ : ByteArray := jdk_43_method_37_code
abbrev y32_ : ByteArray := jdk_43_method_3_code
abbrev y33_ : ByteArray := jdk_43_method_44_code
abbrev y34_ : ByteArray := jdk_44_method_1_code
abbrev y35_ : ByteArray := jdk_44_method_2_code
abbrev y36_ : ByteArray := jdk_44_method_3_code
abbrev y37_ : ByteArray := jdk_44_method_5_code
abbrev y38_ : ByteArray := jdk_45_method_1_code
abbrev y39_ : ByteArray := jdk_45_method_3_code
abbrev y40_ : ByteArray := jdk_45_method_4_code
abbrev y41_ : ByteArray := jdk_46_method_10_code
abbrev y42_ : ByteArray := jdk_46_method_1_code
abbrev y43_ : ByteArray := jdk_47_method_1_code
abbrev y44_ : ByteArray := jdk_49_method_1_code
abbrev y45_ : ByteArray := jdk_49_method_2_code
abbrev y46_ : ByteArray := jdk_49_method_3_code
abbrev y47_ : ByteArray := jdk_49_method_6_code
abbrev y48_ : ByteArray := jdk_53_method_1_code
abbrev y49_ : ByteArray := jdk_53_method_3_code
abbrev y50_ : ByteArray := jdk_53_method_4_code
abbrev y51_ : ByteArray := jdk_56_method_3_code
abbrev y52_ : ByteArray := jdk_56_method_4_code
abbrev y53_ : ByteArray := jdk_65_method_119_code
abbrev y54_ : ByteArray := jdk_65_method_120_code
abbrev y55_ : ByteArray := jdk_65_method_131_code
abbrev y56_ : ByteArray := jdk_65_method_132_code
abbrev y57_ : ByteArray := jdk_65_method_133_code
abbrev y58_ : ByteArray := jdk_67_method_14_code
abbrev y59_ : ByteArray := jdk_67_method_1_code
abbrev y60_ : ByteArray := jdk_67_method_42_code
abbrev y61_ : ByteArray := jdk_67_method_6_code
abbrev y62_ : ByteArray := jdk_67_method_7_code
abbrev y63_ : ByteArray := jdk_67_method_93_code
abbrev y64_ : ByteArray := jdk_68_method_22_code
abbrev y65_ : ByteArray := jdk_68_method_2_code
abbrev y66_ : ByteArray := jdk_68_method_31_code
abbrev y67_ : ByteArray := jdk_68_method_64_code
abbrev y68_ : ByteArray := jdk_68_method_68_code
abbrev y69_ : ByteArray := jdk_68_method_6_code
abbrev y70_ : ByteArray := jdk_68_method_71_code
abbrev y71_ : ByteArray := jdk_68_method_73_code
abbrev y72_ : ByteArray := jdk_68_method_9_code
abbrev y73_ : ByteArray := method_2_code
abbrev y74_ : ByteArray := method_3_code
abbrev y75_ : ByteArray := method_4_code
abbrev y76_ : ByteArray := prog_32_method_1_code
abbrev y77_ : ByteArray := prog_32_method_7_code
def OwnL (Z : State) (dz el ee em mr : Addr) (kd ke : ClassId) : Prop := Sta Z Z.heap c17_ "DEFAULTCAPACITY_EMPTY_ELEMENTDATA" c4_ (.ref dz) ∧ Exa Z Z.heap dz c4_ ∧ Arv Z Z.heap dz kd (.object c12_) (0 : Int32) [] .null ∧ Sta Z Z.heap c19_ "EMPTY_LIST" "Ljava/util/ImmutableCollections$ListN;" (.ref el) ∧ Exa Z Z.heap el c22_ ∧ Fld Z Z.heap el c22_ "elements" c4_ (.ref ee) ∧ Arv Z Z.heap ee ke (.object c12_) (0 : Int32) [] .null ∧ Fld Z Z.heap el c22_ c5_ "Z" (.int (0 : Int32)) ∧ Sta Z Z.heap c19_ "EMPTY" c0_ (.ref em) ∧ Exa Z Z.heap em c12_ ∧ Mir Z c4_ mr
theorem bapp {cs ds : List Int32} (h1 : ∀ c ∈ cs, B8 c) (h2 : ∀ c ∈ ds, B8 c) : ∀ c ∈ cs ++ ds, B8 c := fun c hc => (List.mem_append.mp hc).elim (h1 c) (h2 c)
def OwnB (Z : State) (cdi ca : Addr) (kA : ClassId) : Prop := Sta Z Z.heap c11_ "instance" "Ljava/lang/CharacterDataLatin1;" (.ref cdi) ∧ Exa Z Z.heap cdi c11_ ∧ Sta Z Z.heap c11_ "A" "[I" (.ref ca) ∧ Arv Z Z.heap ca kA .int (256 : Int32) (own_tabI.map Value.int) (.int (0 : Int32))
theorem own_has {s : State} {args : Array Value} {cl : Cell} {ca : Addr} (e : (Jvm.Term.static c11_ "A" "[I").eval args s none [] s = some (.ref ca)) (hc : s.heap[ca]? = some cl) (hsets : ∀ w ∈ jdkStatics_1, w.before args s = true) : HasL cl 0 (own_tabI.map Value.int) := by
  have g : ∀ (i : Nat) {w : Jvm.Cond}, jdkStatics_1[i]? = some w → w.value args s none s [] = some true := fun i _ h => Cond.before_iff.mp (hsets _ (List.mem_of_getElem? h))
  exact ⟨elI e hc (g 33 rfl), elI e hc (g 34 rfl), elI e hc (g 35 rfl), elI e hc (g 36 rfl), elI e hc (g 37 rfl), elI e hc (g 38 rfl), elI e hc (g 39 rfl), elI e hc (g 40 rfl), elI e hc (g 41 rfl), elI e hc (g 42 rfl), elI e hc (g 43 rfl), elI e hc (g 44 rfl), elI e hc (g 45 rfl), elI e hc (g 46 rfl), elI e hc (g 47 rfl), elI e hc (g 48 rfl), elI e hc (g 49 rfl), elI e hc (g 50 rfl), elI e hc (g 51 rfl), elI e hc (g 52 rfl), elI e hc (g 53 rfl), elI e hc (g 54 rfl), elI e hc (g 55 rfl), elI e hc (g 56 rfl), elI e hc (g 57 rfl), elI e hc (g 58 rfl), elI e hc (g 59 rfl), elI e hc (g 60 rfl), elI e hc (g 61 rfl), elI e hc (g 62 rfl), elI e hc (g 63 rfl), elI e hc (g 64 rfl), elI e hc (g 65 rfl), elI e hc (g 66 rfl), elI e hc (g 67 rfl), elI e hc (g 68 rfl), elI e hc (g 69 rfl), elI e hc (g 70 rfl), elI e hc (g 71 rfl), elI e hc (g 72 rfl), elI e hc (g 73 rfl), elI e hc (g 74 rfl), elI e hc (g 75 rfl), elI e hc (g 76 rfl), elI e hc (g 77 rfl), elI e hc (g 78 rfl), elI e hc (g 79 rfl), elI e hc (g 80 rfl), elI e hc (g 81 rfl), elI e hc (g 82 rfl), elI e hc (g 83 rfl), elI e hc (g 84 rfl), elI e hc (g 85 rfl), elI e hc (g 86 rfl), elI e hc (g 87 rfl), elI e hc (g 88 rfl), elI e hc (g 89 rfl), elI e hc (g 90 rfl), elI e hc (g 91 rfl), elI e hc (g 92 rfl), elI e hc (g 93 rfl), elI e hc (g 94 rfl), elI e hc (g 95 rfl), elI e hc (g 96 rfl), elI e hc (g 97 rfl), elI e hc (g 98 rfl), elI e hc (g 99 rfl), elI e hc (g 100 rfl), elI e hc (g 101 rfl), elI e hc (g 102 rfl), elI e hc (g 103 rfl), elI e hc (g 104 rfl), elI e hc (g 105 rfl), elI e hc (g 106 rfl), elI e hc (g 107 rfl), elI e hc (g 108 rfl), elI e hc (g 109 rfl), elI e hc (g 110 rfl), elI e hc (g 111 rfl), elI e hc (g 112 rfl), elI e hc (g 113 rfl), elI e hc (g 114 rfl), elI e hc (g 115 rfl), elI e hc (g 116 rfl), elI e hc (g 117 rfl), elI e hc (g 118 rfl), elI e hc (g 119 rfl), elI e hc (g 120 rfl), elI e hc (g 121 rfl), elI e hc (g 122 rfl), elI e hc (g 123 rfl), elI e hc (g 124 rfl), elI e hc (g 125 rfl), elI e hc (g 126 rfl), elI e hc (g 127 rfl), elI e hc (g 128 rfl), elI e hc (g 129 rfl), elI e hc (g 130 rfl), elI e hc (g 131 rfl), elI e hc (g 132 rfl), elI e hc (g 133 rfl), elI e hc (g 134 rfl), elI e hc (g 135 rfl), elI e hc (g 136 rfl), elI e hc (g 137 rfl), elI e hc (g 138 rfl), elI e hc (g 139 rfl), elI e hc (g 140 rfl), elI e hc (g 141 rfl), elI e hc (g 142 rfl), elI e hc (g 143 rfl), elI e hc (g 144 rfl), elI e hc (g 145 rfl), elI e hc (g 146 rfl), elI e hc (g 147 rfl), elI e hc (g 148 rfl), elI e hc (g 149 rfl), elI e hc (g 150 rfl), elI e hc (g 151 rfl), elI e hc (g 152 rfl), elI e hc (g 153 rfl), elI e hc (g 154 rfl), elI e hc (g 155 rfl), elI e hc (g 156 rfl), elI e hc (g 157 rfl), elI e hc (g 158 rfl), elI e hc (g 159 rfl), elI e hc (g 160 rfl), elI e hc (g 161 rfl), elI e hc (g 162 rfl), elI e hc (g 163 rfl), elI e hc (g 164 rfl), elI e hc (g 165 rfl), elI e hc (g 166 rfl), elI e hc (g 167 rfl), elI e hc (g 168 rfl), elI e hc (g 169 rfl), elI e hc (g 170 rfl), elI e hc (g 171 rfl), elI e hc (g 172 rfl), elI e hc (g 173 rfl), elI e hc (g 174 rfl), elI e hc (g 175 rfl), elI e hc (g 176 rfl), elI e hc (g 177 rfl), elI e hc (g 178 rfl), elI e hc (g 179 rfl), elI e hc (g 180 rfl), elI e hc (g 181 rfl), elI e hc (g 182 rfl), elI e hc (g 183 rfl), elI e hc (g 184 rfl), elI e hc (g 185 rfl), elI e hc (g 186 rfl), elI e hc (g 187 rfl), elI e hc (g 188 rfl), elI e hc (g 189 rfl), elI e hc (g 190 rfl), elI e hc (g 191 rfl), elI e hc (g 192 rfl), elI e hc (g 193 rfl), elI e hc (g 194 rfl), elI e hc (g 195 rfl), elI e hc (g 196 rfl), elI e hc (g 197 rfl), elI e hc (g 198 rfl), elI e hc (g 199 rfl), elI e hc (g 200 rfl), elI e hc (g 201 rfl), elI e hc (g 202 rfl), elI e hc (g 203 rfl), elI e hc (g 204 rfl), elI e hc (g 205 rfl), elI e hc (g 206 rfl), elI e hc (g 207 rfl), elI e hc (g 208 rfl), elI e hc (g 209 rfl), elI e hc (g 210 rfl), elI e hc (g 211 rfl), elI e hc (g 212 rfl), elI e hc (g 213 rfl), elI e hc (g 214 rfl), elI e hc (g 215 rfl), elI e hc (g 216 rfl), elI e hc (g 217 rfl), elI e hc (g 218 rfl), elI e hc (g 219 rfl), elI e hc (g 220 rfl), elI e hc (g 221 rfl), elI e hc (g 222 rfl), elI e hc (g 223 rfl), elI e hc (g 224 rfl), elI e hc (g 225 rfl), elI e hc (g 226 rfl), elI e hc (g 227 rfl), elI e hc (g 228 rfl), elI e hc (g 229 rfl), elI e hc (g 230 rfl), elI e hc (g 231 rfl), elI e hc (g 232 rfl), elI e hc (g 233 rfl), elI e hc (g 234 rfl), elI e hc (g 235 rfl), elI e hc (g 236 rfl), elI e hc (g 237 rfl), elI e hc (g 238 rfl), elI e hc (g 239 rfl), elI e hc (g 240 rfl), elI e hc (g 241 rfl), elI e hc (g 242 rfl), elI e hc (g 243 rfl), elI e hc (g 244 rfl), elI e hc (g 245 rfl), elI e hc (g 246 rfl), elI e hc (g 247 rfl), elI e hc (g 248 rfl), elI e hc (g 249 rfl), elI e hc (g 250 rfl), elI e hc (g 251 rfl), elI e hc (g 252 rfl), elI e hc (g 253 rfl), elI e hc (g 254 rfl), elI e hc (g 255 rfl), elI e hc (g 256 rfl), elI e hc (g 257 rfl), elI e hc (g 258 rfl), elI e hc (g 259 rfl), elI e hc (g 260 rfl), elI e hc (g 261 rfl), elI e hc (g 262 rfl), elI e hc (g 263 rfl), elI e hc (g 264 rfl), elI e hc (g 265 rfl), elI e hc (g 266 rfl), elI e hc (g 267 rfl), elI e hc (g 268 rfl), elI e hc (g 269 rfl), elI e hc (g 270 rfl), elI e hc (g 271 rfl), elI e hc (g 272 rfl), elI e hc (g 273 rfl), elI e hc (g 274 rfl), elI e hc (g 275 rfl), elI e hc (g 276 rfl), elI e hc (g 277 rfl), elI e hc (g 278 rfl), elI e hc (g 279 rfl), elI e hc (g 280 rfl), elI e hc (g 281 rfl), elI e hc (g 282 rfl), elI e hc (g 283 rfl), elI e hc (g 284 rfl), elI e hc (g 285 rfl), elI e hc (g 286 rfl), elI e hc (g 287 rfl), elI e hc (g 288 rfl), trivial⟩
theorem own_b8n {c : Int32} (h : B8 c) : c.toNatClampNeg < 256 ∧ Int32.ofNat c.toNatClampNeg = c ∧ (¬ c < 0 ∧ c < (256 : Int32)) := by
  have e0 : (0 : Int32).toInt = 0 := rfl
  have e1 : (255 : Int32).toInt = 255 := rfl
  have e2 : (256 : Int32).toInt = 256 := rfl
  have h1 := h.1
  have h2 := h.2
  rw [Int32.lt_iff_toInt_lt, e0] at h1
  rw [Int32.lt_iff_toInt_lt, e1] at h2
  refine ⟨by rw [Int32.toNatClampNeg]; omega, ?_, by rw [Int32.lt_iff_toInt_lt, e0]; omega, by rw [Int32.lt_iff_toInt_lt, e2]; omega⟩
  apply Int32.toInt_inj.mp
  rw [Int32.toNatClampNeg, Int32.toInt_ofNat_of_lt (by omega)]
  omega
theorem own_nw {c : Int32} (h : B8 c) (h33 : ¬ c < (33 : Int32)) : ¬ (own_tabI.getD c.toNatClampNeg 0 &&& (28672 : Int32)) = (16384 : Int32) := by
  have h1 := (own_b8n h).1
  have h2 : 33 ≤ c.toNatClampNeg := by
    have e1 : (33 : Int32).toInt = 33 := rfl
    rw [Int32.lt_iff_toInt_lt, e1] at h33
    rw [Int32.toNatClampNeg]; omega
  exact (by decide +kernel : ∀ n : Fin 256, 33 ≤ n.val → ¬ (own_tabI.getD n.val 0 &&& (28672 : Int32)) = (16384 : Int32)) ⟨_, h1⟩ h2
theorem own_tabg {c : Int32} (h : B8 c) : (own_tabI.map Value.int).getD c.toNatClampNeg (.int (0 : Int32)) = Value.int (own_tabI.getD c.toNatClampNeg 0) := by
  have h1 : c.toNatClampNeg < own_tabI.length := (own_b8n h).1
  simp [List.getD_eq_getElem?_getD, List.getElem?_map, List.getElem?_eq_getElem h1]
theorem own_b8up {c : Int32} (h : B8 c) : (c.toInt8.toInt32 &&& (255 : Int32)) = c := by
  apply Int32.toInt_inj.mp
  have q := c_mask c.toInt8.toInt32 255 8 (by decide) (by decide)
  have r := own_b8n h
  have e0 : (0 : Int32).toInt = 0 := rfl
  have e2 : (256 : Int32).toInt = 256 := rfl
  obtain ⟨-, -, r1, r2⟩ := r
  rw [Int32.lt_iff_toInt_lt, e0] at r1
  rw [Int32.lt_iff_toInt_lt, e2] at r2
  rw [q, Int8.toInt_toInt32, Int32.toInt_toInt8]
  have w := Int.bmod_emod (x := c.toInt) (m := 2 ^ 8)
  simp only [Nat.reducePow] at w ⊢
  rw [w]
  omega
theorem own_b8c {c : Int32} (h : B8 c) : c.toUInt32.toUInt16.toUInt32.toInt32 = c := by
  have q := c_i2c c
  have r := own_b8n h
  have e0 : (0 : Int32).toInt = 0 := rfl
  have e2 : (256 : Int32).toInt = 256 := rfl
  obtain ⟨-, -, r1, r2⟩ := r
  rw [Int32.lt_iff_toInt_lt, e0] at r1
  rw [Int32.lt_iff_toInt_lt, e2] at r2
  apply Int32.toInt_inj.mp
  omega
theorem own_b8up2 {c : Int32} (h : B8 c) : (c.toInt8.toInt32 &&& (255 : Int32)) = c := own_b8up h
theorem own_lo8g {cs : List Int32} {i : Nat} (h : i < cs.length) : ((cs.map fun c => c.toInt8.toInt32).map Value.int).getD i (.int (0 : Int32)) = .int ((cs.getD i 0).toInt8.toInt32) := by
  rw [List.getD_eq_getElem?_getD, List.getElem?_map, List.getElem?_map, List.getD_eq_getElem?_getD, List.getElem?_eq_getElem h]; rfl
theorem own_mem {cs : List Int32} {i : Nat} (h : i < cs.length) : cs.getD i 0 ∈ cs := by
  rw [List.getD_eq_getElem?_getD, List.getElem?_eq_getElem h]; exact List.getElem_mem h
theorem d0 : Dc y18_ 0 (.iload_n 0) 1 := by decide +kernel
theorem d1 : Dc y18_ 1 (.ifCond .lt 8) 3 := by decide +kernel
theorem d2 : Dc y18_ 4 (.iload_n 0) 1 := by decide +kernel
theorem d3 : Dc y18_ 5 (.iload_n 1) 1 := by decide +kernel
theorem d4 : Dc y18_ 6 (.if_icmp .lt 10) 3 := by decide +kernel
theorem d5 : Dc y18_ 16 (.iload_n 0) 1 := by decide +kernel
theorem d6 : Dc y18_ 17 (.ireturn) 1 := by decide +kernel
abbrev mn7 : MethodName := ⟨"jdk/internal/util/Preconditions", "checkIndex", "(IILjava/util/function/BiFunction;)I"⟩
theorem own_pn8 : plainName "jdk/internal/util/Preconditions" = true := by first | (simp [plainName, overriddenIn]; done) | decide +kernel
theorem own_pci {l : Launch} {Z : State} {a0 : Array Value} (cx : Ctx Z a0) (i n : Nat) (fv : Value) (vm0 : Vm) (h0 : Heap) (X00 : Ext Z.heap h0) (hi : (i < n)) (hn : (n ≤ 4000)) (isRef_fv : (fv.isRef = true)) :
    Met l mn7 y18_ 3 (some .int) [] (Rm 0 0 0 0) Z consts_1 vm0 h0 #[(.int (Int32.ofNat i)), (.int (Int32.ofNat n)), fv] (fun rv vm h => rv = some (.int (Int32.ofNat i)) ∧ h0 = h) := by
  have hw := cx.1
  refine Met.of_walk (a0 := a0) #[vi (Int32.ofNat i), vi (Int32.ofNat n), .val fv] (plainFor_of_name own_pn8) X00 cx.2.1 (fun m => by rcases ref_cases isRef_fv with q | ⟨_, q⟩ <;> subst q <;> first | (simp [entryFrame, mkF, argsToLocals, Value.category]; done) | rfl) ?_
  intro p e s m below meth c vm hx hby hml hret hnm hC0 hW0
  refine vIN 1 d0 ?_
  refine vN 4 d1 ((if0 _ _).trans (flt (nn0 (by omega))).1) ?_
  refine vIN 5 d2 ?_
  refine vIN 6 d3 ?_
  refine vYc 16 d4 (tlt ((ltOf (by omega) (by omega)).mpr hi)).1 ?_
  refine vIN 17 d5 ?_
  exact gretI hx hret (hb hby d6) (by decide) (by decide) (fun vq Cq => ⟨rfl, rfl⟩)
theorem d9 : Dc y26_ 0 (.iload_n 0) 1 := by decide +kernel
theorem d10 : Dc y26_ 1 (.iload_n 1) 1 := by decide +kernel
theorem d11 : Dc y26_ 2 (.getstatic 1053) 3 := by decide +kernel
theorem d12 : Dc y26_ 5 (.invokestatic 1059) 3 := by decide +kernel
theorem own_pd13 : parseMethodDescriptor "(IILjava/util/function/BiFunction;)I" = some ⟨[.int, .int, (.object "java/util/function/BiFunction")], some .int⟩ := by decide +kernel
theorem d14 : Dc y26_ 8 (.pop) 1 := by decide +kernel
theorem d15 : Dc y26_ 9 (.return_) 1 := by decide +kernel
abbrev mn16 : MethodName := ⟨"java/lang/String", "checkIndex", "(II)V"⟩
theorem own_pn17 : plainName "java/lang/String" = true := by first | (simp [plainName, overriddenIn]; done) | decide +kernel
theorem own_cki {l : Launch} {Z : State} {a0 : Array Value} (cx : Ctx Z a0) (i n : Nat) (vm0 : Vm) (h0 : Heap) (X00 : Ext Z.heap h0) (hi : (i < n)) (hn : (n ≤ 4000)) :
    Met l mn16 y26_ 2 none [] (Rm 1 0 0 14) Z consts_1 vm0 h0 #[(.int (Int32.ofNat i)), (.int (Int32.ofNat n))] (fun rv vm h => rv = none ∧ h0 = h) := by
  obtain ⟨hw, hEL, ⟨zc, Scs, hzc⟩, ⟨fm, Sfm, hfm⟩, hL0, hB0⟩ := id cx
  refine Met.of_walk (a0 := a0) #[vi (Int32.ofNat i), vi (Int32.ofNat n)] (plainFor_of_name own_pn17) X00 hEL (fun _ => rfl) ?_
  intro p e s m below meth c vm hx hby hml hret hnm hC0 hW0
  have isRef_fm := hfm
  refine vIN 1 d9 ?_
  refine vIN 2 d10 ?_
  refine ggetS (host := "") hx (Or.inl (oz hw 330)) Via.refl Sfm 5 (hb hby d11) rfl ?_
  refine gmS (y := mn7) (oz hw 332) (oz hw 333) (oz hw 334) (oz hw 331) (fun O => own_pci cx i n fm vm h0 O (by first | assumption | decide | omega) (by first | assumption | decide | omega) isRef_fm) 8 (argsL := [(.int (Int32.ofNat i)), (.int (Int32.ofNat n)), fm]) (rest := []) own_pd13 d12 ?_
  rintro _ vm1 h1 C1 z1 ⟨rfl, rfl⟩
  refine gat1 ?_
  refine vP 9 d14 ?_
  exact gretV hx hret (hb hby d15) (by decide) (by decide) (fun vq Cq => ⟨rfl, rfl⟩)
theorem d18 : Dc y30_ 0 (.iload_n 1) 1 := by decide +kernel
theorem d19 : Dc y30_ 1 (.aload_n 0) 1 := by decide +kernel
theorem d20 : Dc y30_ 2 (.arraylength) 1 := by decide +kernel
theorem d21 : Dc y30_ 3 (.invokestatic 9) 3 := by decide +kernel
theorem own_pd22 : parseMethodDescriptor "(II)V" = some ⟨[.int, .int], none⟩ := by decide +kernel
theorem d23 : Dc y30_ 6 (.aload_n 0) 1 := by decide +kernel
theorem d24 : Dc y30_ 7 (.iload_n 1) 1 := by decide +kernel
theorem d25 : Dc y30_ 8 (.baload) 1 := by decide +kernel
theorem d26 : Dc y30_ 9 (.sipush 255) 3 := by decide +kernel
theorem d27 : Dc y30_ 12 (.iand) 1 := by decide +kernel
theorem d28 : Dc y30_ 13 (.i2c) 1 := by decide +kernel
theorem d29 : Dc y30_ 14 (.ireturn) 1 := by decide +kernel
abbrev mn30 : MethodName := ⟨"java/lang/StringLatin1", "charAt", "([BI)C"⟩
theorem own_pn31 : plainName "java/lang/StringLatin1" = true := by first | (simp [plainName, overriddenIn]; done) | decide +kernel
theorem own_l1ch {l : Launch} {Z : State} {a0 : Array Value} (cx : Ctx Z a0) (b : Addr) (kb : ClassId) (cs : List Int32) (i : Nat) (vm0 : Vm) (h0 : Heap) (X00 : Ext Z.heap h0) (P0 : Arv Z h0 b kb .byte (Int32.ofNat cs.length) ((cs.map fun c => c.toInt8.toInt32).map Value.int) (.int (0 : Int32))) (hi : (i < cs.length)) (hn : (cs.length ≤ 4000)) (hbb : (∀ c ∈ cs, B8 c)) :
    Met l mn30 y30_ 2 (some .char) [] (Rm 2 0 0 27) Z consts_1 vm0 h0 #[(.ref b), (.int (Int32.ofNat i))] (fun rv vm h => rv = some (.int (cs.getD i 0)) ∧ h0 = h) := by
  have hw := cx.1
  refine Met.of_walk (a0 := a0) #[vr b, vi (Int32.ofNat i)] (plainFor_of_name own_pn31) X00 cx.2.1 (fun _ => rfl) ?_
  intro p e s m below meth c vm hx hby hml hret hnm hC0 hW0
  have lt_b : h0.size > b := P0.lt
  refine vIN 1 d18 ?_
  refine vAN 2 d19 ?_
  refine glen hx P0 3 (hb hby d20) rfl ?_
  refine gmS (y := mn16) (oz hw 327) (oz hw 328) (oz hw 329) (oz hw 6) (fun O => own_cki cx i (cs.length) vm h0 O (by first | assumption | decide | omega) (by first | assumption | decide | omega)) 6 (argsL := [(.int (Int32.ofNat i)), (.int (Int32.ofNat cs.length))]) (rest := []) own_pd22 d21 ?_
  rintro _ vm1 h1 C1 z1 ⟨rfl, rfl⟩
  refine gat0 ?_
  refine vAN 7 d23 ?_
  refine vIN 8 d24 ?_
  refine gldB hx P0 ⟨nn0 (by omega), (ltOf (by omega) (by omega)).mpr hi⟩ (i := i) (tn (by omega)) (v := (.int ((cs.getD i 0).toInt8.toInt32))) (own_lo8g hi) 9 (hb hby d25) rfl ?_
  refine vKs 12 (255 : Int32) d26 ?_
  refine viand 13 (((cs.getD i 0).toInt8.toInt32) &&& (255 : Int32)) d27 ?_
  refine gi2c hx (i2c_mask _) 14 (hb hby d28) rfl ?_
  exact gretN (t := .char) hx hret (by simp) (hb hby d29) (by decide) (by decide) (fun vq Cq => ⟨(congrArg (fun z => some (Value.int z)) ((narC _).trans (own_b8up (hbb _ (own_mem hi))))), rfl⟩)
theorem d32 : Dc y25_ 0 (.getstatic 38) 3 := by decide +kernel
theorem d33 : Dc y25_ 3 (.ifCond .eq 14) 3 := by decide +kernel
theorem d34 : Dc y25_ 6 (.aload_n 0) 1 := by decide +kernel
theorem d35 : Dc y25_ 7 (.getfield 15) 3 := by decide +kernel
theorem d36 : Dc y25_ 10 (.ifCond .ne 7) 3 := by decide +kernel
theorem d37 : Dc y25_ 13 (.iconst 1) 1 := by decide +kernel
theorem d38 : Dc y25_ 14 (.goto 4) 3 := by decide +kernel
theorem d39 : Dc y25_ 18 (.ireturn) 1 := by decide +kernel
abbrev mn40 : MethodName := ⟨"java/lang/String", "isLatin1", "()Z"⟩
theorem own_slat0 {l : Launch} {Z : State} {a0 : Array Value} (cx : Ctx Z a0) (x t : Addr) (cs : List Int32) (vm0 : Vm) (h0 : Heap) (X00 : Ext Z.heap h0) (P0 : Str Z h0 x t cs) :
    Met l mn40 y25_ 1 (some .boolean) [] (Rm 0 0 0 0) Z consts_1 vm0 h0 #[(.ref x)] (fun rv vm h => rv = some (.int (1 : Int32)) ∧ h0 = h) := by
  obtain ⟨hw, hEL, ⟨zc, Scs, hzc⟩, ⟨fm, Sfm, hfm⟩, hL0, hB0⟩ := id cx
  refine Met.of_walk (a0 := a0) #[vr x] (plainFor_of_name own_pn17) X00 hEL (fun _ => rfl) ?_
  intro p e s m below meth c vm hx hby hml hret hnm hC0 hW0
  have lt_x : h0.size > x := P0.1.lt
  have lt_t : h0.size > t := P0.tlt
  refine ggetS (host := "") hx (Or.inl (oz hw 18)) Via.refl Scs 3 (hb hby d32) rfl ?_
  refine vN 6 d33 ((if0 _ _).trans (feq hzc).1) ?_
  refine vAN 7 d34 ?_
  refine gF (oz hw 30) P0.2.1 10 d35 ?_
  refine vN 13 d36 ((if0 _ _).trans (teq (by decide)).2) ?_
  refine vKc 14 (1 : Int32) d37 ?_
  refine vG 18 d38 ?_
  exact gretN (t := .boolean) hx hret (by simp) (hb hby d39) (by decide) (by decide) (fun vq Cq => ⟨rfl, rfl⟩)
theorem d41 : Dc y29_ 0 (.aload_n 0) 1 := by decide +kernel
theorem d42 : Dc y29_ 1 (.invokevirtual 492) 3 := by decide +kernel
theorem own_pd43 : parseMethodDescriptor "()Z" = some ⟨[], some .boolean⟩ := by decide +kernel
theorem d44 : Dc y29_ 4 (.ifCond .eq 12) 3 := by decide +kernel
theorem d45 : Dc y29_ 7 (.aload_n 0) 1 := by decide +kernel
theorem d46 : Dc y29_ 8 (.getfield 9) 3 := by decide +kernel
theorem d47 : Dc y29_ 11 (.iload_n 1) 1 := by decide +kernel
theorem d48 : Dc y29_ 12 (.invokestatic 495) 3 := by decide +kernel
theorem own_pd49 : parseMethodDescriptor "([BI)C" = some ⟨[(.array .byte), .int], some .char⟩ := by decide +kernel
theorem d50 : Dc y29_ 15 (.ireturn) 1 := by decide +kernel
abbrev mn51 : MethodName := ⟨"java/lang/String", "charAt", "(I)C"⟩
theorem own_chAt {l : Launch} {Z : State} {a0 : Array Value} (cx : Ctx Z a0) (x t : Addr) (cs : List Int32) (i : Nat) (vm0 : Vm) (h0 : Heap) (X00 : Ext Z.heap h0) (P0 : Str Z h0 x t cs) (hi : (i < cs.length)) :
    Met l mn51 y29_ 2 (some .char) [] (Rm 3 0 0 40) Z consts_1 vm0 h0 #[(.ref x), (.int (Int32.ofNat i))] (fun rv vm h => rv = some (.int (cs.getD i 0)) ∧ h0 = h) := by
  have hw := cx.1
  refine Met.of_walk (a0 := a0) #[vr x, vi (Int32.ofNat i)] (plainFor_of_name own_pn17) X00 cx.2.1 (fun _ => rfl) ?_
  intro p e s m below meth c vm hx hby hml hret hnm hC0 hW0
  have lt_x : h0.size > x := P0.1.lt
  have lt_t : h0.size > t := P0.tlt
  obtain ⟨ks, eS⟩ := P0.2.2.2.1
  have hle := P0.2.2.2.2.2
  refine vAN 1 d41 ?_
  refine gmV (y := mn40) (z := mn40) (oz hw 318) (oz hw 319) (nfSel (oz hw 321)) (oz hw 321) (oz hw 320) (oz hw 322) (oz hw 6) (fun O => own_slat0 cx x t cs vm h0 O P0) 4 (argsL := []) (rest := []) P0.1 own_pd43 d42 ?_
  rintro _ vm1 h1 C1 z1 ⟨rfl, rfl⟩
  refine gat1 ?_
  refine vN 7 d44 ((if0 _ _).trans (feq (by decide)).1) ?_
  refine vAN 8 d45 ?_
  refine gF (oz hw 32) P0.2.2.1 11 d46 ?_
  refine vIN 12 d47 ?_
  refine gmS (y := mn30) (oz hw 323) (oz hw 324) (oz hw 326) (oz hw 325) (fun O => own_l1ch cx t ks cs i vm1 h0 O eS hi hle P0.2.2.2.2.1) 15 (argsL := [(.ref t), (.int (Int32.ofNat i))]) (rest := []) own_pd49 d48 ?_
  rintro _ vm2 h2 C2 z2 ⟨rfl, rfl⟩
  refine gat1 ?_
  exact gretN (t := .char) hx hret (by simp) (hb hby d50) (by decide) (by decide) (fun vq Cq => ⟨(congrArg (fun z => some (Value.int z)) (own_b8c (P0.2.2.2.2.1 _ (own_mem hi)))), rfl⟩)
theorem d52 : Dc y24_ 0 (.getstatic 38) 3 := by decide +kernel
theorem d53 : Dc y24_ 3 (.ifCond .eq 10) 3 := by decide +kernel
theorem d54 : Dc y24_ 6 (.aload_n 0) 1 := by decide +kernel
theorem d55 : Dc y24_ 7 (.getfield 15) 3 := by decide +kernel
theorem d56 : Dc y24_ 10 (.goto 4) 3 := by decide +kernel
theorem d57 : Dc y24_ 14 (.ireturn) 1 := by decide +kernel
abbrev mn58 : MethodName := ⟨"java/lang/String", "coder", "()B"⟩
theorem own_scoder0 {l : Launch} {Z : State} {a0 : Array Value} (cx : Ctx Z a0) (x t : Addr) (cs : List Int32) (vm0 : Vm) (h0 : Heap) (X00 : Ext Z.heap h0) (P0 : Str Z h0 x t cs) :
    Met l mn58 y24_ 1 (some .byte) [] (Rm 0 0 0 0) Z consts_1 vm0 h0 #[(.ref x)] (fun rv vm h => rv = some (.int (0 : Int32)) ∧ h0 = h) := by
  obtain ⟨hw, hEL, ⟨zc, Scs, hzc⟩, ⟨fm, Sfm, hfm⟩, hL0, hB0⟩ := id cx
  refine Met.of_walk (a0 := a0) #[vr x] (plainFor_of_name own_pn17) X00 hEL (fun _ => rfl) ?_
  intro p e s m below meth c vm hx hby hml hret hnm hC0 hW0
  have lt_x : h0.size > x := P0.1.lt
  have lt_t : h0.size > t := P0.tlt
  refine ggetS (host := "") hx (Or.inl (oz hw 18)) Via.refl Scs 3 (hb hby d52) rfl ?_
  refine vN 6 d53 ((if0 _ _).trans (feq hzc).1) ?_
  refine vAN 7 d54 ?_
  refine gF (oz hw 30) P0.2.1 10 d55 ?_
  refine vG 14 d56 ?_
  exact gretN (t := .byte) hx hret (by simp) (hb hby d57) (by decide) (by decide) (fun vq Cq => ⟨rfl, rfl⟩)
theorem d59 : Dc y28_ 0 (.aload_n 0) 1 := by decide +kernel
theorem d60 : Dc y28_ 1 (.getfield 9) 3 := by decide +kernel
theorem d61 : Dc y28_ 4 (.arraylength) 1 := by decide +kernel
theorem d62 : Dc y28_ 5 (.aload_n 0) 1 := by decide +kernel
theorem d63 : Dc y28_ 6 (.invokevirtual 335) 3 := by decide +kernel
theorem own_pd64 : parseMethodDescriptor "()B" = some ⟨[], some .byte⟩ := by decide +kernel
theorem d65 : Dc y28_ 9 (.ishr) 1 := by decide +kernel
theorem d66 : Dc y28_ 10 (.ireturn) 1 := by decide +kernel
abbrev mn67 : MethodName := ⟨"java/lang/String", "length", "()I"⟩
theorem own_slen {l : Launch} {Z : State} {a0 : Array Value} (cx : Ctx Z a0) (x t : Addr) (cs : List Int32) (vm0 : Vm) (h0 : Heap) (X00 : Ext Z.heap h0) (P0 : Str Z h0 x t cs) :
    Met l mn67 y28_ 1 (some .int) [] (Rm 1 0 0 13) Z consts_1 vm0 h0 #[(.ref x)] (fun rv vm h => rv = some (.int (Int32.ofNat cs.length)) ∧ h0 = h) := by
  have hw := cx.1
  refine Met.of_walk (a0 := a0) #[vr x] (plainFor_of_name own_pn17) X00 cx.2.1 (fun _ => rfl) ?_
  intro p e s m below meth c vm hx hby hml hret hnm hC0 hW0
  have lt_x : h0.size > x := P0.1.lt
  have lt_t : h0.size > t := P0.tlt
  obtain ⟨ks, eS⟩ := P0.2.2.2.1
  have hle := P0.2.2.2.2.2
  refine vAN 1 d59 ?_
  refine gF (oz hw 32) P0.2.2.1 4 d60 ?_
  refine glen hx eS 5 (hb hby d61) rfl ?_
  refine vAN 6 d62 ?_
  refine gmV (y := mn58) (z := mn58) (oz hw 178) (oz hw 179) (nfSel (oz hw 181)) (oz hw 181) (oz hw 180) (oz hw 182) (oz hw 6) (fun O => own_scoder0 cx x t cs vm h0 O P0) 9 (argsL := []) (rest := [(.int (Int32.ofNat cs.length))]) P0.1 own_pd64 d63 ?_
  rintro _ vm1 h1 C1 z1 ⟨rfl, rfl⟩
  refine gat1 ?_
  refine gs (mkF m 10 #[vr x] [(.int ((Int32.ofNat cs.length) >>> ((0 : Int32) &&& 31)))]) (fun _ _ A kq => XS.ishr A hx rfl (hb hby d65) rfl kq) ?_
  refine gat (mkF m 10 #[vr x] [(.int (Int32.ofNat cs.length))]) (by rw [shr0 hle]) ?_
  exact gretI hx hret (hb hby d66) (by decide) (by decide) (fun vq Cq => ⟨rfl, rfl⟩)
theorem d68 : Dc y0_ 0 (.iload_n 1) 1 := by decide +kernel
theorem d69 : Dc y0_ 1 (.i2c) 1 := by decide +kernel
theorem d70 : Dc y0_ 2 (.istore_n 2) 1 := by decide +kernel
theorem d71 : Dc y0_ 3 (.getstatic 1) 3 := by decide +kernel
theorem d72 : Dc y0_ 6 (.iload_n 2) 1 := by decide +kernel
theorem d73 : Dc y0_ 7 (.iaload) 1 := by decide +kernel
theorem d74 : Dc y0_ 8 (.istore_n 3) 1 := by decide +kernel
theorem d75 : Dc y0_ 9 (.iload_n 3) 1 := by decide +kernel
theorem d76 : Dc y0_ 10 (.ireturn) 1 := by decide +kernel
abbrev mn77 : MethodName := ⟨"java/lang/CharacterDataLatin1", "getProperties", "(I)I"⟩
theorem own_pn78 : plainName "java/lang/CharacterDataLatin1" = true := by first | (simp [plainName, overriddenIn]; done) | decide +kernel
theorem own_props {l : Launch} {Z : State} {a0 : Array Value} (cx : Ctx Z a0) (x : Addr) (ch : Int32) {cdi ca : Addr} {kA : ClassId} (vm0 : Vm) (h0 : Heap) (X00 : Ext Z.heap h0) (hb8 : (B8 ch)) (h33 : (¬ ch < (33 : Int32))) (hB : (OwnB Z cdi ca kA)) :
    Met l mn77 y0_ 4 (some .int) [] (Rm 0 0 0 0) Z consts_1 vm0 h0 #[(.ref x), (.int ch)] (fun rv vm h => rv = some (.int (own_tabI.getD ch.toNatClampNeg 0)) ∧ h0 = h) := by
  have hw := cx.1
  refine Met.of_walk (a0 := a0) #[vr x, vi ch, un, un] (plainFor_of_name own_pn78) X00 cx.2.1 (fun _ => rfl) ?_
  intro p e s m below meth c vm hx hby hml hret hnm hC0 hW0
  obtain ⟨Sci, Eci, Sca, Vca⟩ := id hB
  refine ginfo fun _ _ OB1 => ?_
  have Eci_1 := Eci.ext OB1
  have Vca_1 := Vca.ext OB1
  have lt_cdi : h0.size > cdi := Eci_1.lt
  have lt_ca : h0.size > ca := Vca_1.lt
  refine vIN 1 d68 ?_
  refine gi2c hx (own_b8c hb8) 2 (hb hby d69) rfl ?_
  refine vSIN 3 #[vr x, vi ch, vi ch, un] d70 ?_
  refine ggetS (host := "") hx (Or.inl (oz hw 363)) Via.refl Sca 6 (hb hby d71) rfl ?_
  refine vIN 7 d72 ?_
  refine gldI hx Vca_1 (own_b8n hb8).2.2 (i := ch.toNatClampNeg) rfl (v := (.int (own_tabI.getD ch.toNatClampNeg 0))) (own_tabg hb8) 8 (hb hby d73) rfl ?_
  refine vSIN 9 #[vr x, vi ch, vi ch, vi (own_tabI.getD ch.toNatClampNeg 0)] d74 ?_
  refine vIN 10 d75 ?_
  exact gretI hx hret (hb hby d76) (by decide) (by decide) (fun vq Cq => ⟨rfl, rfl⟩)
theorem d79 : Dc y1_ 0 (.aload_n 0) 1 := by decide +kernel
theorem d80 : Dc y1_ 1 (.iload_n 1) 1 := by decide +kernel
theorem d81 : Dc y1_ 2 (.invokevirtual 15) 3 := by decide +kernel
theorem own_pd82 : parseMethodDescriptor "(I)I" = some ⟨[.int], some .int⟩ := by decide +kernel
theorem d83 : Dc y1_ 5 (.istore_n 2) 1 := by decide +kernel
theorem d84 : Dc y1_ 6 (.iload_n 2) 1 := by decide +kernel
theorem d85 : Dc y1_ 7 (.sipush 28672) 3 := by decide +kernel
theorem d86 : Dc y1_ 10 (.iand) 1 := by decide +kernel
theorem d87 : Dc y1_ 11 (.sipush 16384) 3 := by decide +kernel
theorem d88 : Dc y1_ 14 (.if_icmp .ne 7) 3 := by decide +kernel
theorem d89 : Dc y1_ 21 (.iconst 0) 1 := by decide +kernel
theorem d90 : Dc y1_ 22 (.ireturn) 1 := by decide +kernel
abbrev mn91 : MethodName := ⟨"java/lang/CharacterDataLatin1", "isWhitespace", "(I)Z"⟩
theorem own_isws {l : Launch} {Z : State} {a0 : Array Value} (cx : Ctx Z a0) (x : Addr) (ch : Int32) {cdi ca : Addr} {kA : ClassId} (vm0 : Vm) (h0 : Heap) (X00 : Ext Z.heap h0) (P0 : Exa Z h0 x c11_) (hb8 : (B8 ch)) (h33 : (¬ ch < (33 : Int32))) (hB : (OwnB Z cdi ca kA)) :
    Met l mn91 y1_ 3 (some .boolean) [] (Rm 1 0 0 15) Z consts_1 vm0 h0 #[(.ref x), (.int ch)] (fun rv vm h => rv = some (.int (0 : Int32)) ∧ h0 = h) := by
  have hw := cx.1
  refine Met.of_walk (a0 := a0) #[vr x, vi ch, un] (plainFor_of_name own_pn78) X00 cx.2.1 (fun _ => rfl) ?_
  intro p e s m below meth c vm hx hby hml hret hnm hC0 hW0
  have lt_x : h0.size > x := P0.lt
  refine vAN 1 d79 ?_
  refine vIN 2 d80 ?_
  refine gmV (y := mn77) (z := mn77) (oz hw 358) (oz hw 359) (nfSel (oz hw 361)) (oz hw 361) (oz hw 360) (oz hw 362) (oz hw 352) (fun O => own_props cx x ch vm h0 O (by first | assumption | decide | omega) (by first | assumption | decide | omega) (by first | assumption | decide | omega)) 5 (argsL := [(.int ch)]) (rest := []) P0 own_pd82 d81 ?_
  rintro _ vm1 h1 C1 z1 ⟨rfl, rfl⟩
  refine gat1 ?_
  refine vSIN 6 #[vr x, vi ch, vi (own_tabI.getD ch.toNatClampNeg 0)] d83 ?_
  refine vIN 7 d84 ?_
  refine vKs 10 (28672 : Int32) d85 ?_
  refine viand 11 ((own_tabI.getD ch.toNatClampNeg 0) &&& (28672 : Int32)) d86 ?_
  refine vKs 14 (16384 : Int32) d87 ?_
  refine vYc 21 d88 (feq (own_nw hb8 h33)).2 ?_
  refine vKc 22 (0 : Int32) d89 ?_
  exact gretN (t := .boolean) hx hret (by simp) (hb hby d90) (by decide) (by decide) (fun vq Cq => ⟨rfl, rfl⟩)
theorem d92 : Dc y33_ 0 (.aload_n 0) 1 := by decide +kernel
theorem d93 : Dc y33_ 1 (.iload_n 1) 1 := by decide +kernel
theorem d94 : Dc y33_ 2 (.baload) 1 := by decide +kernel
theorem d95 : Dc y33_ 3 (.sipush 255) 3 := by decide +kernel
theorem d96 : Dc y33_ 6 (.iand) 1 := by decide +kernel
theorem d97 : Dc y33_ 7 (.i2c) 1 := by decide +kernel
theorem d98 : Dc y33_ 8 (.ireturn) 1 := by decide +kernel
abbrev mn99 : MethodName := ⟨"java/lang/StringLatin1", "getChar", "([BI)C"⟩
theorem own_gch {l : Launch} {Z : State} {a0 : Array Value} (cx : Ctx Z a0) (b : Addr) (kb : ClassId) (ch : Int32) (cr : List Int32) (vm0 : Vm) (h0 : Heap) (X00 : Ext Z.heap h0) (P0 : Arv Z h0 b kb .byte (Int32.ofNat (ch :: cr).length) (((ch :: cr).map fun c => c.toInt8.toInt32).map Value.int) (.int (0 : Int32))) (hb8 : (B8 ch)) (hpos : ((0 : Int32) < Int32.ofNat (ch :: cr).length)) :
    Met l mn99 y33_ 2 (some .char) [] (Rm 0 0 0 0) Z consts_1 vm0 h0 #[(.ref b), (.int (0 : Int32))] (fun rv vm h => rv = some (.int ch) ∧ h0 = h) := by
  have hw := cx.1
  refine Met.of_walk (a0 := a0) #[vr b, vi (0 : Int32)] (plainFor_of_name own_pn31) X00 cx.2.1 (fun _ => rfl) ?_
  intro p e s m below meth c vm hx hby hml hret hnm hC0 hW0
  have lt_b : h0.size > b := P0.lt
  refine vAN 1 d92 ?_
  refine vIN 2 d93 ?_
  refine gldB hx P0 ⟨by decide, hpos⟩ (i := 0) rfl (v := (.int (ch.toInt8.toInt32))) rfl 3 (hb hby d94) rfl ?_
  refine vKs 6 (255 : Int32) d95 ?_
  refine viand 7 ((ch.toInt8.toInt32) &&& (255 : Int32)) d96 ?_
  refine gi2c hx (i2c_mask _) 8 (hb hby d97) rfl ?_
  exact gretN (t := .char) hx hret (by simp) (hb hby d98) (by decide) (by decide) (fun vq Cq => ⟨(congrArg (fun z => some (Value.int z)) ((narC _).trans (own_b8up hb8))), rfl⟩)
theorem own_lt33 {c y : Int32} (h : ¬ c < (33 : Int32)) (hy : y < (33 : Int32)) : ¬ c = y := fun e => h (e ▸ hy)
theorem d100 : Dc y31_ 0 (.aload_n 0) 1 := by decide +kernel
theorem d101 : Dc y31_ 1 (.arraylength) 1 := by decide +kernel
theorem d102 : Dc y31_ 2 (.istore_n 1) 1 := by decide +kernel
theorem d103 : Dc y31_ 3 (.iconst 0) 1 := by decide +kernel
theorem d104 : Dc y31_ 4 (.istore_n 2) 1 := by decide +kernel
theorem d105 : Dc y31_ 5 (.iload_n 2) 1 := by decide +kernel
theorem d106 : Dc y31_ 6 (.iload_n 1) 1 := by decide +kernel
theorem d107 : Dc y31_ 7 (.if_icmp .ge 40) 3 := by decide +kernel
theorem d108 : Dc y31_ 10 (.aload_n 0) 1 := by decide +kernel
theorem d109 : Dc y31_ 11 (.iload_n 2) 1 := by decide +kernel
theorem d110 : Dc y31_ 12 (.invokestatic 50) 3 := by decide +kernel
theorem d111 : Dc y31_ 15 (.istore_n 3) 1 := by decide +kernel
theorem d112 : Dc y31_ 16 (.iload_n 3) 1 := by decide +kernel
theorem d113 : Dc y31_ 17 (.bipush 32) 2 := by decide +kernel
theorem d114 : Dc y31_ 19 (.if_icmp .eq 22) 3 := by decide +kernel
theorem d115 : Dc y31_ 22 (.iload_n 3) 1 := by decide +kernel
theorem d116 : Dc y31_ 23 (.bipush 9) 2 := by decide +kernel
theorem d117 : Dc y31_ 25 (.if_icmp .eq 16) 3 := by decide +kernel
theorem d118 : Dc y31_ 28 (.getstatic 66) 3 := by decide +kernel
theorem d119 : Dc y31_ 31 (.iload_n 3) 1 := by decide +kernel
theorem d120 : Dc y31_ 32 (.invokevirtual 211) 3 := by decide +kernel
theorem own_pd121 : parseMethodDescriptor "(I)Z" = some ⟨[.int], some .boolean⟩ := by decide +kernel
theorem d122 : Dc y31_ 35 (.ifCond .ne 6) 3 := by decide +kernel
theorem d123 : Dc y31_ 38 (.goto 9) 3 := by decide +kernel
theorem d124 : Dc y31_ 47 (.iload_n 2) 1 := by decide +kernel
theorem d125 : Dc y31_ 48 (.ireturn) 1 := by decide +kernel
abbrev mn126 : MethodName := ⟨"java/lang/StringLatin1", "indexOfNonWhitespace", "([B)I"⟩
theorem own_inw {l : Launch} {Z : State} {a0 : Array Value} (cx : Ctx Z a0) (b : Addr) (kb : ClassId) (ch : Int32) (cr : List Int32) {cdi ca : Addr} {kA : ClassId} (vm0 : Vm) (h0 : Heap) (X00 : Ext Z.heap h0) (P0 : Arv Z h0 b kb .byte (Int32.ofNat (ch :: cr).length) (((ch :: cr).map fun c => c.toInt8.toInt32).map Value.int) (.int (0 : Int32))) (hb8 : (B8 ch)) (h33 : (¬ ch < (33 : Int32))) (hpos : ((0 : Int32) < Int32.ofNat (ch :: cr).length)) (hB : (OwnB Z cdi ca kA)) :
    Met l mn126 y31_ 4 (some .int) [] (Rm 2 0 0 29) Z consts_1 vm0 h0 #[(.ref b)] (fun rv vm h => rv = some (.int (0 : Int32)) ∧ h0 = h) := by
  have hw := cx.1
  refine Met.of_walk (a0 := a0) #[vr b, un, un, un] (plainFor_of_name own_pn31) X00 cx.2.1 (fun _ => rfl) ?_
  intro p e s m below meth c vm hx hby hml hret hnm hC0 hW0
  have lt_b : h0.size > b := P0.lt
  obtain ⟨Sci, Eci, Sca, Vca⟩ := id hB
  refine ginfo fun _ _ OB1 => ?_
  have Eci_1 := Eci.ext OB1
  have Vca_1 := Vca.ext OB1
  have lt_cdi : h0.size > cdi := Eci_1.lt
  have lt_ca : h0.size > ca := Vca_1.lt
  refine vAN 1 d100 ?_
  refine glen hx P0 2 (hb hby d101) rfl ?_
  refine vSIN 3 #[vr b, vi (Int32.ofNat (ch :: cr).length), un, un] d102 ?_
  refine vKc 4 (0 : Int32) d103 ?_
  refine vSIN 5 #[vr b, vi (Int32.ofNat (ch :: cr).length), vi (0 : Int32), un] d104 ?_
  refine vIN 6 d105 ?_
  refine vIN 7 d106 ?_
  refine vNc 10 d107 (tlt hpos).2.1 ?_
  refine vAN 11 d108 ?_
  refine vIN 12 d109 ?_
  refine gmS (y := mn99) (oz hw 348) (oz hw 349) (oz hw 350) (oz hw 325) (fun O => own_gch cx b kb ch cr vm h0 O P0 (by first | assumption | decide | omega) (by first | assumption | decide | omega)) 15 (argsL := [(.ref b), (.int (0 : Int32))]) (rest := []) own_pd49 d110 ?_
  rintro _ vm2 h2 C2 z2 ⟨rfl, rfl⟩
  refine gat1 ?_
  refine vSIN 16 #[vr b, vi (Int32.ofNat (ch :: cr).length), vi (0 : Int32), vi ch] d111 ?_
  refine vIN 17 d112 ?_
  refine vKb 19 (32 : Int32) d113 ?_
  refine vNc 22 d114 (feq (own_lt33 h33 (by decide))).1 ?_
  refine vIN 23 d115 ?_
  refine vKb 25 (9 : Int32) d116 ?_
  refine vNc 28 d117 (feq (own_lt33 h33 (by decide))).1 ?_
  refine ggetS (host := "") hx (Or.inl (oz hw 351)) Via.refl Sci 31 (hb hby d118) rfl ?_
  refine vIN 32 d119 ?_
  refine gmV (y := mn91) (z := mn91) (oz hw 353) (oz hw 354) (nfSel (oz hw 356)) (oz hw 356) (oz hw 355) (oz hw 357) (oz hw 352) (fun O => own_isws cx cdi ch vm2 h0 O Eci_1 (by first | assumption | decide | omega) (by first | assumption | decide | omega) (by first | assumption | decide | omega)) 35 (argsL := [(.int ch)]) (rest := []) Eci_1 own_pd121 d120 ?_
  rintro _ vm3 h3 C3 z3 ⟨rfl, rfl⟩
  refine gat1 ?_
  refine vN 38 d122 ((if0 _ _).trans (teq (by decide)).2) ?_
  refine vG 47 d123 ?_
  refine vIN 48 d124 ?_
  exact gretI hx hret (hb hby d125) (by decide) (by decide) (fun vq Cq => ⟨rfl, rfl⟩)
theorem own_slat {l : Launch} {Z : State} {a0 : Array Value} (cx : Ctx Z a0) (x t : Addr) (cs : List Int32) (vm0 : Vm) (h0 : Heap) (X00 : Ext Z.heap h0) (P0 : Str Z h0 x t cs) :
    Met l mn40 y25_ 1 (some .boolean) [] (Rm 0 0 0 0) Z consts_1 vm0 h0 #[(.ref x)] (fun rv vm h => rv = some (.int (1 : Int32)) ∧ h0 = h) := by
  obtain ⟨hw, hEL, ⟨zc, Scs, hzc⟩, ⟨fm, Sfm, hfm⟩, hL0, hB0⟩ := id cx
  refine Met.of_walk (a0 := a0) #[vr x] (plainFor_of_name own_pn17) X00 hEL (fun _ => rfl) ?_
  intro p e s m below meth c vm hx hby hml hret hnm hC0 hW0
  have lt_x : h0.size > x := P0.1.lt
  have lt_t : h0.size > t := P0.tlt
  refine ggetS (host := "") hx (Or.inl (oz hw 18)) Via.refl Scs 3 (hb hby d32) rfl ?_
  refine vN 6 d33 ((if0 _ _).trans (feq hzc).1) ?_
  refine vAN 7 d34 ?_
  refine gF (oz hw 30) P0.2.1 10 d35 ?_
  refine vN 13 d36 ((if0 _ _).trans (teq (by decide)).2) ?_
  refine vKc 14 (1 : Int32) d37 ?_
  refine vG 18 d38 ?_
  exact gretN (t := .boolean) hx hret (by simp) (hb hby d39) (by decide) (by decide) (fun vq Cq => ⟨rfl, rfl⟩)
theorem d127 : Dc y20_ 0 (.aload_n 0) 1 := by decide +kernel
theorem d128 : Dc y20_ 1 (.invokevirtual 492) 3 := by decide +kernel
theorem d129 : Dc y20_ 4 (.ifCond .eq 13) 3 := by decide +kernel
theorem d130 : Dc y20_ 7 (.aload_n 0) 1 := by decide +kernel
theorem d131 : Dc y20_ 8 (.getfield 9) 3 := by decide +kernel
theorem d132 : Dc y20_ 11 (.invokestatic 924) 3 := by decide +kernel
theorem own_pd133 : parseMethodDescriptor "([B)I" = some ⟨[(.array .byte)], some .int⟩ := by decide +kernel
theorem d134 : Dc y20_ 14 (.goto 10) 3 := by decide +kernel
theorem d135 : Dc y20_ 24 (.ireturn) 1 := by decide +kernel
abbrev mn136 : MethodName := ⟨"java/lang/String", "indexOfNonWhitespace", "()I"⟩
theorem own_sinw {l : Launch} {Z : State} {a0 : Array Value} (cx : Ctx Z a0) (x t : Addr) (ch : Int32) (cr : List Int32) {cdi ca : Addr} {kA : ClassId} (vm0 : Vm) (h0 : Heap) (X00 : Ext Z.heap h0) (P0 : Str Z h0 x t (ch :: cr)) (hb8 : (B8 ch)) (h33 : (¬ ch < (33 : Int32))) (hpos : ((0 : Int32) < Int32.ofNat (ch :: cr).length)) (hB : (OwnB Z cdi ca kA)) :
    Met l mn136 y20_ 1 (some .int) [] (Rm 3 0 0 44) Z consts_1 vm0 h0 #[(.ref x)] (fun rv vm h => rv = some (.int (0 : Int32)) ∧ h0 = h) := by
  have hw := cx.1
  refine Met.of_walk (a0 := a0) #[vr x] (plainFor_of_name own_pn17) X00 cx.2.1 (fun _ => rfl) ?_
  intro p e s m below meth c vm hx hby hml hret hnm hC0 hW0
  have lt_x : h0.size > x := P0.1.lt
  have lt_t : h0.size > t := P0.tlt
  obtain ⟨ks, eS⟩ := P0.2.2.2.1
  refine vAN 1 d127 ?_
  refine gmV (y := mn40) (z := mn40) (oz hw 318) (oz hw 319) (nfSel (oz hw 321)) (oz hw 321) (oz hw 320) (oz hw 322) (oz hw 6) (fun O => own_slat cx x t ((ch :: cr)) vm h0 O P0) 4 (argsL := []) (rest := []) P0.1 own_pd43 d128 ?_
  rintro _ vm1 h1 C1 z1 ⟨rfl, rfl⟩
  refine gat1 ?_
  refine vN 7 d129 ((if0 _ _).trans (feq (by decide)).1) ?_
  refine vAN 8 d130 ?_
  refine gF (oz hw 32) P0.2.2.1 11 d131 ?_
  refine gmS (y := mn126) (oz hw 345) (oz hw 346) (oz hw 347) (oz hw 325) (fun O => own_inw cx t ks ch cr vm1 h0 O eS (by first | assumption | decide | omega) (by first | assumption | decide | omega) (by first | assumption | decide | omega) (by first | assumption | decide | omega)) 14 (argsL := [(.ref t)]) (rest := []) own_pd133 d132 ?_
  rintro _ vm2 h2 C2 z2 ⟨rfl, rfl⟩
  refine gat1 ?_
  refine vG 24 d134 ?_
  exact gretI hx hret (hb hby d135) (by decide) (by decide) (fun vq Cq => ⟨rfl, rfl⟩)
theorem d137 : Dc y19_ 0 (.aload_n 0) 1 := by decide +kernel
theorem d138 : Dc y19_ 1 (.invokevirtual 876) 3 := by decide +kernel
theorem own_pd139 : parseMethodDescriptor "()I" = some ⟨[], some .int⟩ := by decide +kernel
theorem d140 : Dc y19_ 4 (.aload_n 0) 1 := by decide +kernel
theorem d141 : Dc y19_ 5 (.invokevirtual 505) 3 := by decide +kernel
theorem d142 : Dc y19_ 8 (.if_icmp .ne 7) 3 := by decide +kernel
theorem d143 : Dc y19_ 15 (.iconst 0) 1 := by decide +kernel
theorem d144 : Dc y19_ 16 (.ireturn) 1 := by decide +kernel
abbrev mn145 : MethodName := ⟨"java/lang/String", "isBlank", "()Z"⟩
theorem own_isblank {l : Launch} {Z : State} {a0 : Array Value} (cx : Ctx Z a0) (x t : Addr) (ch : Int32) (cr : List Int32) {cdi ca : Addr} {kA : ClassId} (vm0 : Vm) (h0 : Heap) (X00 : Ext Z.heap h0) (P0 : Str Z h0 x t (ch :: cr)) (hb8 : (B8 ch)) (h33 : (¬ ch < (33 : Int32))) (hpos : ((0 : Int32) < Int32.ofNat (ch :: cr).length)) (hB : (OwnB Z cdi ca kA)) :
    Met l mn145 y19_ 1 (some .boolean) [] (Rm 4 0 0 56) Z consts_1 vm0 h0 #[(.ref x)] (fun rv vm h => rv = some (.int (0 : Int32)) ∧ h0 = h) := by
  have hw := cx.1
  refine Met.of_walk (a0 := a0) #[vr x] (plainFor_of_name own_pn17) X00 cx.2.1 (fun _ => rfl) ?_
  intro p e s m below meth c vm hx hby hml hret hnm hC0 hW0
  have lt_x : h0.size > x := P0.1.lt
  have lt_t : h0.size > t := P0.tlt
  refine vAN 1 d137 ?_
  refine ginfo fun _ _ O1 => ?_
  refine gcallP (y := mn136) hx (oz hw 340) (oz hw 341) (oz hw 343) (oz hw 342) (oz hw 344) (by decide) (fun hZ H hEL => Pay.of_met (W := 0) (own_sinw cx x t ch cr vm h0 O1 P0 (by first | assumption | decide | omega) (by first | assumption | decide | omega) (by first | assumption | decide | omega) (by first | assumption | decide | omega)) (oz hw 344) (oz hw 6) (by decide) (by decide) hZ H hEL) 4 (argsL := []) (rest := []) P0.1 (lenOf own_pd139 rfl) rfl rfl (Nat.le_of_eq rfl) (by rw [hml]; rfl) (hb hby d138) rfl (by decide) (by decide) ?_
  rintro _ vm1 h1 C1 ⟨rfl, rfl⟩
  have z1 := C1.2.1
  refine gat1 ?_
  refine vAN 5 d140 ?_
  refine gmV (y := mn67) (z := mn67) (oz hw 364) (oz hw 174) (nfSel (oz hw 176)) (oz hw 176) (oz hw 175) (oz hw 177) (oz hw 6) (fun O => own_slen cx x t ((ch :: cr)) vm1 h0 O P0) 8 (argsL := []) (rest := [(.int (0 : Int32))]) P0.1 own_pd139 d141 ?_
  rintro _ vm2 h2 C2 z2 ⟨rfl, rfl⟩
  refine gat1 ?_
  refine vYc 15 d142 (feq (fun q => by rw [← q] at hpos; exact absurd hpos (by decide))).2 ?_
  refine vKc 16 (0 : Int32) d143 ?_
  exact gretN (t := .boolean) hx hret (by simp) (hb hby d144) (by decide) (by decide) (fun vq Cq => ⟨rfl, rfl⟩)
theorem d146 : Dc y3_ 0 (.aload_n 0) 1 := by decide +kernel
theorem d147 : Dc y3_ 1 (.invokespecial 1) 3 := by decide +kernel
theorem d148 : Dc y3_ 4 (.return_) 1 := by decide +kernel
abbrev mn149 : MethodName := ⟨"java/util/AbstractCollection", "<init>", "()V"⟩
theorem own_pn150 : plainName "java/util/AbstractCollection" = true := by first | (simp [plainName, overriddenIn]; done) | decide +kernel
theorem own_abcinit {l : Launch} {Z : State} {a0 : Array Value} (cx : Ctx Z a0) (x : Addr) (vm0 : Vm) (h0 : Heap) (X00 : Ext Z.heap h0)  :
    Met l mn149 y3_ 1 none [] (Rm 1 0 0 12) Z consts_1 vm0 h0 #[(.ref x)] (fun rv vm h => rv = none ∧ h0 = h) := by
  have hw := cx.1
  refine Met.of_walk (a0 := a0) #[vr x] (plainFor_of_name own_pn150) X00 cx.2.1 (fun _ => rfl) ?_
  intro p e s m below meth c vm hx hby hml hret hnm hC0 hW0
  refine vAN 1 d146 ?_
  refine ginitO hx (oz hw 52) (oz hw 16) (oz hw 17) 4 (W := 0) (Nat.le_of_eq rfl) (by rw [hml]; rfl) (hb hby d147) rfl (by decide) (by decide) ?_
  exact gretV hx hret (hb hby d148) (by decide) (by decide) (fun vq Cq => ⟨rfl, rfl⟩)
theorem d151 : Dc y15_ 0 (.aload_n 0) 1 := by decide +kernel
theorem d152 : Dc y15_ 1 (.invokespecial 1) 3 := by decide +kernel
theorem own_pd153 : parseMethodDescriptor "()V" = some ⟨[], none⟩ := by decide +kernel
theorem d154 : Dc y15_ 4 (.aload_n 0) 1 := by decide +kernel
theorem d155 : Dc y15_ 5 (.iconst 0) 1 := by decide +kernel
theorem d156 : Dc y15_ 6 (.putfield 7) 3 := by decide +kernel
theorem d157 : Dc y15_ 9 (.return_) 1 := by decide +kernel
abbrev mn158 : MethodName := ⟨"java/util/AbstractList", "<init>", "()V"⟩
theorem own_pn159 : plainName "java/util/AbstractList" = true := by first | (simp [plainName, overriddenIn]; done) | decide +kernel
theorem own_ablinit {l : Launch} {Z : State} {a0 : Array Value} (cx : Ctx Z a0) (x : Addr) (mc : Int32) (u : Value) (vm0 : Vm) (h0 : Heap) (X00 : Ext Z.heap h0) (P0 : Exa Z h0 x c17_) (P1 : Fld Z h0 x c16_ "modCount" "I" (.int mc)) (P2 : Z.heap.size ≤ x) (P3 : Fld Z h0 x c17_ c7_ c4_ u) (P4 : Fld Z h0 x c17_ "size" "I" (.int (0 : Int32))) :
    Met l mn158 y15_ 1 none [] (Rm 2 0 0 24) Z consts_1 vm0 h0 #[(.ref x)] (fun rv vm h => rv = none ∧ Keep h0 h [x] ∧ Fld Z h x c16_ "modCount" "I" (.int (0 : Int32)) ∧ Fld Z h x c17_ c7_ c4_ u ∧ Fld Z h x c17_ "size" "I" (.int (0 : Int32))) := by
  have hw := cx.1
  refine Met.of_walk (a0 := a0) #[vr x] (plainFor_of_name own_pn159) X00 cx.2.1 (fun _ => rfl) ?_
  intro p e s m below meth c vm hx hby hml hret hnm hC0 hW0
  have lt_x : h0.size > x := P0.lt
  refine vAN 1 d151 ?_
  refine gmI (y := mn149) rfl (oz hw 46) (oz hw 47) (oz hw 51) (oz hw 50) (fun O => own_abcinit cx x vm h0 O ) 4 (argsL := []) (rest := []) (a := x) own_pd153 d152 ?_
  rintro _ vm1 h1 C1 z1 ⟨rfl, rfl⟩
  refine gat0 ?_
  refine vAN 5 d154 ?_
  refine vKc 6 (0 : Int32) d155 ?_
  refine gputF (host := "") hx (Or.inl (oz hw 53)) Via.refl P1 P0 (Or.inl (oz hw 54)) (oz hw 35) (ty := .int) (by decide) rfl rfl P2 (fun al => Safe.exa al P0 (by decide) (by decide)) 9 (hb hby d156) rfl ?_
  intro h2 W2 C2
  have z2 := C2.2.1
  have F2 := P1.same W2
  have f4 := (P3.other W2 (Or.inr (slot_ne (Or.inl (oz hw 57)) (Or.inl (oz hw 54)) (by decide) (t := (.array (.object c12_))) (t' := .int) (by decide) (by decide))))
  have f5 := (P4.other W2 (Or.inr (slot_ne (Or.inl (oz hw 102)) (Or.inl (oz hw 54)) (by decide) (t := .int) (t' := .int) (by decide) (by decide))))
  exact gretV hx hret (hb hby d157) (by decide) (by decide) (fun vq Cq => ⟨rfl, ((Keep.refl h0 [x]).wr W2 (Or.inl (List.mem_of_getElem? (i := 0) rfl))), F2, f4, f5⟩)
theorem d160 : Dc y10_ 0 (.aload_n 0) 1 := by decide +kernel
theorem d161 : Dc y10_ 1 (.invokespecial 1) 3 := by decide +kernel
theorem d162 : Dc y10_ 4 (.aload_n 0) 1 := by decide +kernel
theorem d163 : Dc y10_ 5 (.getstatic 39) 3 := by decide +kernel
theorem d164 : Dc y10_ 8 (.putfield 9) 3 := by decide +kernel
theorem d165 : Dc y10_ 11 (.return_) 1 := by decide +kernel
abbrev mn166 : MethodName := ⟨"java/util/ArrayList", "<init>", "()V"⟩
theorem own_pn167 : plainName "java/util/ArrayList" = true := by first | (simp [plainName, overriddenIn]; done) | decide +kernel
theorem own_alinit {l : Launch} {Z : State} {a0 : Array Value} (cx : Ctx Z a0) (x : Addr) (u : Value) {dz el ee em mr : Addr} {kd ke : ClassId} (vm0 : Vm) (h0 : Heap) (X00 : Ext Z.heap h0) (P0 : Exa Z h0 x c17_) (P1 : Fld Z h0 x c16_ "modCount" "I" (.int (0 : Int32))) (P2 : Fld Z h0 x c17_ c7_ c4_ u) (P3 : Fld Z h0 x c17_ "size" "I" (.int (0 : Int32))) (P4 : Z.heap.size ≤ x) (hL : (OwnL Z dz el ee em mr kd ke)) :
    Met l mn166 y10_ 1 none [] (Rm 3 0 0 36) Z consts_1 vm0 h0 #[(.ref x)] (fun rv vm h => rv = none ∧ Keep h0 h [x] ∧ Fld Z h x c17_ c7_ c4_ (.ref dz) ∧ Fld Z h x c17_ "size" "I" (.int (0 : Int32)) ∧ Fld Z h x c16_ "modCount" "I" (.int (0 : Int32))) := by
  have hw := cx.1
  refine Met.of_walk (a0 := a0) #[vr x] (plainFor_of_name own_pn167) X00 cx.2.1 (fun _ => rfl) ?_
  intro p e s m below meth c vm hx hby hml hret hnm hC0 hW0
  have lt_x : h0.size > x := P0.lt
  obtain ⟨Sdz, Edz, Vdz, Sel, Eel, Fee, Vee, Fan, Sem, Eem, Mmr⟩ := id hL
  refine vAN 1 d160 ?_
  refine gmI (y := mn158) rfl (oz hw 40) (oz hw 41) (oz hw 45) (oz hw 44) (fun O => own_ablinit cx x ((0 : Int32)) u vm h0 O P0 P1 P4 P2 P3) 4 (argsL := []) (rest := []) (a := x) own_pd153 d161 ?_
  rintro _ vm1 h1 C1 z1 ⟨rfl, K1, q1_0, q1_1, q1_2⟩
  refine gat0 ?_
  refine vAN 5 d162 ?_
  refine ggetS (host := "") hx (Or.inl (oz hw 55)) Via.refl Sdz 8 (hb hby d163) rfl ?_
  have f2 := (P0.keep K1)
  refine gputF (host := "") hx (Or.inl (oz hw 56)) Via.refl q1_1 f2 (Or.inl (oz hw 57)) (oz hw 35) (ty := (.array (.object c12_))) (by decide) rfl rfl P4 (fun al => Safe.exa al f2 (by decide) (by decide)) 11 (hb hby d164) rfl ?_
  intro h3 W3 C3
  have z3 := C3.2.1
  have F3 := q1_1.same W3
  have f5 := (q1_2.other W3 (Or.inr (slot_ne (Or.inl (oz hw 102)) (Or.inl (oz hw 57)) (by decide) (t := .int) (t' := (.array (.object c12_))) (by decide) (by decide))))
  have f6 := (q1_0.other W3 (Or.inr (slot_ne (Or.inl (oz hw 54)) (Or.inl (oz hw 57)) (by decide) (t := .int) (t' := (.array (.object c12_))) (by decide) (by decide))))
  exact gretV hx hret (hb hby d165) (by decide) (by decide) (fun vq Cq => ⟨rfl, (((Keep.refl h0 [x]).trans K1 (allS (Or.inl (List.mem_of_getElem? (i := 0) rfl)) all0)).wr W3 (Or.inl (List.mem_of_getElem? (i := 0) rfl))), F3, f5, f6⟩)
theorem d168 : Dc y4_ 0 (.iload_n 0) 1 := by decide +kernel
theorem d169 : Dc y4_ 1 (.iload_n 1) 1 := by decide +kernel
theorem d170 : Dc y4_ 2 (.if_icmp .lt 7) 3 := by decide +kernel
theorem d171 : Dc y4_ 5 (.iload_n 0) 1 := by decide +kernel
theorem d172 : Dc y4_ 6 (.goto 4) 3 := by decide +kernel
theorem d173 : Dc y4_ 10 (.ireturn) 1 := by decide +kernel
abbrev mn174 : MethodName := ⟨"java/lang/Math", "max", "(II)I"⟩
theorem own_pn175 : plainFor mn174 = true := by first | decide +kernel | (simp [plainFor, plainName, overriddenIn]; done)
theorem own_max10 {l : Launch} {Z : State} {a0 : Array Value} (cx : Ctx Z a0)  (vm0 : Vm) (h0 : Heap) (X00 : Ext Z.heap h0)  :
    Met l mn174 y4_ 2 (some .int) [] (Rm 0 0 0 0) Z consts_1 vm0 h0 #[(.int (10 : Int32)), (.int (1 : Int32))] (fun rv vm h => rv = some (.int (10 : Int32)) ∧ h0 = h) := by
  have hw := cx.1
  refine Met.of_walk (a0 := a0) #[vi (10 : Int32), vi (1 : Int32)] own_pn175 X00 cx.2.1 (fun _ => rfl) ?_
  intro p e s m below meth c vm hx hby hml hret hnm hC0 hW0
  refine vIN 1 d168 ?_
  refine vIN 2 d169 ?_
  refine vNc 5 d170 (flt (by decide)).1 ?_
  refine vIN 6 d171 ?_
  refine vG 10 d172 ?_
  exact gretI hx hret (hb hby d173) (by decide) (by decide) (fun vq Cq => ⟨rfl, rfl⟩)
theorem d176 : Dc y12_ 0 (.aload_n 0) 1 := by decide +kernel
theorem d177 : Dc y12_ 1 (.getfield 9) 3 := by decide +kernel
theorem d178 : Dc y12_ 4 (.arraylength) 1 := by decide +kernel
theorem d179 : Dc y12_ 5 (.istore_n 2) 1 := by decide +kernel
theorem d180 : Dc y12_ 6 (.iload_n 2) 1 := by decide +kernel
theorem d181 : Dc y12_ 7 (.ifCond .gt 13) 3 := by decide +kernel
theorem d182 : Dc y12_ 10 (.aload_n 0) 1 := by decide +kernel
theorem d183 : Dc y12_ 11 (.getfield 9) 3 := by decide +kernel
theorem d184 : Dc y12_ 14 (.getstatic 39) 3 := by decide +kernel
theorem d185 : Dc y12_ 17 (.if_acmp .eq 28) 3 := by decide +kernel
theorem d186 : Dc y12_ 45 (.aload_n 0) 1 := by decide +kernel
theorem d187 : Dc y12_ 46 (.bipush 10) 2 := by decide +kernel
theorem d188 : Dc y12_ 48 (.iload_n 1) 1 := by decide +kernel
theorem d189 : Dc y12_ 49 (.invokestatic 79) 3 := by decide +kernel
theorem own_pd190 : parseMethodDescriptor "(II)I" = some ⟨[.int, .int], some .int⟩ := by decide +kernel
theorem d191 : Dc y12_ 52 (.anewarray 7) 3 := by decide +kernel
theorem d192 : Dc y12_ 55 (.dup_x1) 1 := by decide +kernel
theorem d193 : Dc y12_ 56 (.putfield 9) 3 := by decide +kernel
theorem d194 : Dc y12_ 59 (.areturn) 1 := by decide +kernel
abbrev mn195 : MethodName := ⟨"java/util/ArrayList", "grow", "(I)[Ljava/lang/Object;"⟩
theorem own_growI {l : Launch} {Z : State} {a0 : Array Value} (cx : Ctx Z a0) (x : Addr) (mc : Int32) {dz el ee em mr : Addr} {kd ke : ClassId} (vm0 : Vm) (h0 : Heap) (X00 : Ext Z.heap h0) (P0 : Fld Z h0 x c16_ "modCount" "I" (.int mc)) (P1 : Exa Z h0 x c17_) (P2 : Fld Z h0 x c17_ c7_ c4_ (.ref dz)) (P3 : Fld Z h0 x c17_ "size" "I" (.int (0 : Int32))) (P4 : Z.heap.size ≤ x) (hL : (OwnL Z dz el ee em mr kd ke)) :
    Met l mn195 y12_ 4 (some (.array (.object c12_))) [] (Rm 1 1 10 14) Z consts_1 vm0 h0 #[(.ref x), (.int (1 : Int32))] (fun rv vm h => ∃ (d : Addr), ∃ (kc : ClassId), rv = some (.ref d) ∧ Keep h0 h [x] ∧ Fld Z h x c17_ c7_ c4_ (.ref d) ∧ Fld Z h x c17_ "size" "I" (.int (0 : Int32)) ∧ h0.size ≤ d ∧ Z.heap.size ≤ d ∧ Arv Z h d kc (.object c12_) (10 : Int32) [.null, .null, .null, .null, .null, .null, .null, .null, .null, .null] .null ∧ Exa Z h d c4_ ∧ (Ovr Z kc c12_) ∧ Fld Z h x c16_ "modCount" "I" (.int mc)) := by
  have hw := cx.1
  refine Met.of_walk (a0 := a0) #[vr x, vi (1 : Int32), un, un] (plainFor_of_name own_pn167) X00 cx.2.1 (fun _ => rfl) ?_
  intro p e s m below meth c vm hx hby hml hret hnm hC0 hW0
  have lt_x : h0.size > x := P0.lt
  obtain ⟨Sdz, Edz, Vdz, Sel, Eel, Fee, Vee, Fan, Sem, Eem, Mmr⟩ := id hL
  refine ginfo fun _ _ OL1 => ?_
  have Vdz_1 := Vdz.ext OL1
  have lt_dz : h0.size > dz := Vdz_1.lt
  refine vAN 1 d176 ?_
  refine gF (oz hw 56) P2 4 d177 ?_
  refine glen hx Vdz_1 5 (hb hby d178) rfl ?_
  refine vSIN 6 #[vr x, vi (1 : Int32), vi (0 : Int32), un] d179 ?_
  refine vIN 7 d180 ?_
  refine vN 10 d181 ((if0 _ _).trans (flt (by decide)).2.2.1) ?_
  refine vAN 11 d182 ?_
  refine gF (oz hw 56) P2 14 d183 ?_
  refine ggetS (host := "") hx (Or.inl (oz hw 55)) Via.refl Sdz 17 (hb hby d184) rfl ?_
  refine gx (mkF m 45 #[vr x, vi (1 : Int32), vi (0 : Int32), un] []) (fun T locs X _ _ _ _ kq => Jvm.RoadKit.acmp (g := (mkF m 17 #[vr x, vi (1 : Int32), vi (0 : Int32), un] [(.ref dz), (.ref dz)])) X hx rfl rfl rfl (pc0 := 17) (pc' := 45) (same := true) rfl (hb hby d185) rfl (decide_eq_true rfl) (by decide) (by decide) kq) ?_
  refine vAN 46 d186 ?_
  refine vKb 48 (10 : Int32) d187 ?_
  refine vIN 49 d188 ?_
  refine gmS (y := mn174) (oz hw 390) (oz hw 391) (oz hw 392) (oz hw 306) (fun O => own_max10 cx  vm h0 O ) 52 (argsL := [(.int (10 : Int32)), (.int (1 : Int32))]) (rest := [(.ref x)]) own_pd190 d189 ?_
  rintro _ vm2 h2 C2 z2 ⟨rfl, rfl⟩
  refine gat1 ?_
  refine gnewR hx (oz hw 393) (oz hw 394) (n := (10 : Int32)) (by decide) (cap := 10) (by decide) (by decide) (ad := c4_) (by decide) 55 (hb hby d191) rfl (by decide) (by decide) ?_
  intro b3 h3 k3 g3 E3 C3 V3 A3 O3 n3 L3
  have z3 := C3.2.1
  have V3 : Arv Z h3 b3 k3 (.object c12_) (10 : Int32) [.null, .null, .null, .null, .null, .null, .null, .null, .null, .null] .null := V3.pad (pad_rep [] .null 10)
  have lt_b3 : h3.size > b3 := V3.lt
  refine gs (mkF m 56 #[vr x, vi (1 : Int32), vi (0 : Int32), un] [(.ref b3), (.ref x), (.ref b3)]) (fun _ _ A kq => XS.dupX1 A hx rfl (hb hby d192) rfl rfl rfl kq) ?_
  have f4 := (P2.ext E3)
  have f5 := (P1.ext E3)
  refine gputF (host := "") hx (Or.inl (oz hw 56)) Via.refl f4 f5 (Or.inl (oz hw 57)) (oz hw 35) (ty := (.array (.object c12_))) (by decide) rfl rfl P4 (fun al => Safe.exa al f5 (by decide) (by decide)) 59 (hb hby d193) rfl ?_
  intro h6 W6 C6
  have z6 := C6.2.1
  have F6 := f4.same W6
  have f8 := ((P3.ext E3).other W6 (Or.inr (slot_ne (Or.inl (oz hw 102)) (Or.inl (oz hw 57)) (by decide) (t := .int) (t' := (.array (.object c12_))) (by decide) (by decide))))
  have f9 := (V3.other W6 (Nat.ne_of_gt (by omega)))
  have f10 := (A3.wr W6)
  have f11 := ((P0.ext E3).other W6 (Or.inr (slot_ne (Or.inl (oz hw 54)) (Or.inl (oz hw 57)) (by decide) (t := .int) (t' := (.array (.object c12_))) (by decide) (by decide))))
  exact gretA hx hret rfl rfl (hb hby d194) (by decide) (by decide) (fun vq Cq => ⟨b3, k3, rfl, (((Keep.refl h0 [x]).ext E3).wr W6 (Or.inl (List.mem_of_getElem? (i := 0) rfl))), F6, f8, (by omega), n3, f9, f10, (by first | rfl | assumption | decide | omega), f11⟩)
theorem d196 : Dc y13_ 0 (.aload_n 0) 1 := by decide +kernel
theorem d197 : Dc y13_ 1 (.aload_n 0) 1 := by decide +kernel
theorem d198 : Dc y13_ 2 (.getfield 48) 3 := by decide +kernel
theorem d199 : Dc y13_ 5 (.iconst 1) 1 := by decide +kernel
theorem d200 : Dc y13_ 6 (.iadd) 1 := by decide +kernel
theorem d201 : Dc y13_ 7 (.invokevirtual 69) 3 := by decide +kernel
theorem own_pd202 : parseMethodDescriptor "(I)[Ljava/lang/Object;" = some ⟨[.int], some (.array (.object "java/lang/Object"))⟩ := by decide +kernel
theorem d203 : Dc y13_ 10 (.areturn) 1 := by decide +kernel
abbrev mn204 : MethodName := ⟨"java/util/ArrayList", "grow", "()[Ljava/lang/Object;"⟩
theorem own_grow {l : Launch} {Z : State} {a0 : Array Value} (cx : Ctx Z a0) (x : Addr) (mc : Int32) {dz el ee em mr : Addr} {kd ke : ClassId} (vm0 : Vm) (h0 : Heap) (X00 : Ext Z.heap h0) (P0 : Fld Z h0 x c16_ "modCount" "I" (.int mc)) (P1 : Exa Z h0 x c17_) (P2 : Fld Z h0 x c17_ c7_ c4_ (.ref dz)) (P3 : Fld Z h0 x c17_ "size" "I" (.int (0 : Int32))) (P4 : Z.heap.size ≤ x) (hL : (OwnL Z dz el ee em mr kd ke)) :
    Met l mn204 y13_ 1 (some (.array (.object c12_))) [] (Rm 2 1 10 29) Z consts_1 vm0 h0 #[(.ref x)] (fun rv vm h => ∃ (d : Addr), ∃ (kc : ClassId), rv = some (.ref d) ∧ Keep h0 h [x] ∧ Fld Z h x c17_ c7_ c4_ (.ref d) ∧ Fld Z h x c17_ "size" "I" (.int (0 : Int32)) ∧ h0.size ≤ d ∧ Z.heap.size ≤ d ∧ Arv Z h d kc (.object c12_) (10 : Int32) [.null, .null, .null, .null, .null, .null, .null, .null, .null, .null] .null ∧ Exa Z h d c4_ ∧ (Ovr Z kc c12_) ∧ Fld Z h x c16_ "modCount" "I" (.int mc)) := by
  have hw := cx.1
  refine Met.of_walk (a0 := a0) #[vr x] (plainFor_of_name own_pn167) X00 cx.2.1 (fun _ => rfl) ?_
  intro p e s m below meth c vm hx hby hml hret hnm hC0 hW0
  have lt_x : h0.size > x := P0.lt
  refine vAN 1 d196 ?_
  refine vAN 2 d197 ?_
  refine gF (oz hw 130) P3 5 d198 ?_
  refine vKc 6 (1 : Int32) d199 ?_
  refine viadd 7 (1 : Int32) d200 ?_
  refine ginfo fun _ _ O1 => ?_
  refine gcallP (y := mn195) hx (oz hw 385) (oz hw 386) (oz hw 388) (oz hw 387) (oz hw 389) (by decide) (fun hZ H hEL => Pay.of_met (W := 0) (own_growI cx x mc vm h0 O1 P0 P1 P2 P3 P4 (by first | assumption | decide | omega)) (oz hw 389) (oz hw 36) (by decide) (by decide) hZ H hEL) 10 (argsL := [(.int (1 : Int32))]) (rest := []) P1 (lenOf own_pd202 rfl) rfl rfl (Nat.le_of_eq rfl) (by rw [hml]; rfl) (hb hby d201) rfl (by decide) (by decide) ?_
  rintro _ vm1 h1 C1 ⟨d1, kc1, rfl, K1, q1_0, q1_1, q1_2, q1_3, q1_4, q1_5, q1_6, q1_7⟩
  have z1 := C1.2.1
  have lt_d1 : h1.size > d1 := q1_4.lt
  refine gat1 ?_
  exact gretA hx hret rfl rfl (hb hby d203) (by decide) (by decide) (fun vq Cq => ⟨d1, kc1, rfl, ((Keep.refl h0 [x]).trans K1 (allS (Or.inl (List.mem_of_getElem? (i := 0) rfl)) all0)), q1_0, q1_1, (by omega), q1_3, q1_4, q1_5, (by first | rfl | assumption | decide | omega), q1_7⟩)
theorem d205 : Dc y8_ 0 (.iload_n 3) 1 := by decide +kernel
theorem d206 : Dc y8_ 1 (.aload_n 2) 1 := by decide +kernel
theorem d207 : Dc y8_ 2 (.arraylength) 1 := by decide +kernel
theorem d208 : Dc y8_ 3 (.if_icmp .ne 8) 3 := by decide +kernel
theorem d209 : Dc y8_ 6 (.aload_n 0) 1 := by decide +kernel
theorem d210 : Dc y8_ 7 (.invokevirtual 129) 3 := by decide +kernel
theorem own_pd211 : parseMethodDescriptor "()[Ljava/lang/Object;" = some ⟨[], some (.array (.object "java/lang/Object"))⟩ := by decide +kernel
theorem d212 : Dc y8_ 10 (.astore_n 2) 1 := by decide +kernel
theorem d213 : Dc y8_ 11 (.aload_n 2) 1 := by decide +kernel
theorem d214 : Dc y8_ 12 (.iload_n 3) 1 := by decide +kernel
theorem d215 : Dc y8_ 13 (.aload_n 1) 1 := by decide +kernel
theorem d216 : Dc y8_ 14 (.aastore) 1 := by decide +kernel
theorem d217 : Dc y8_ 15 (.aload_n 0) 1 := by decide +kernel
theorem d218 : Dc y8_ 16 (.iload_n 3) 1 := by decide +kernel
theorem d219 : Dc y8_ 17 (.iconst 1) 1 := by decide +kernel
theorem d220 : Dc y8_ 18 (.iadd) 1 := by decide +kernel
theorem d221 : Dc y8_ 19 (.putfield 48) 3 := by decide +kernel
theorem d222 : Dc y8_ 22 (.return_) 1 := by decide +kernel
abbrev mn223 : MethodName := ⟨"java/util/ArrayList", "add", "(Ljava/lang/Object;[Ljava/lang/Object;I)V"⟩
theorem own_addh0 {l : Launch} {Z : State} {a0 : Array Value} (cx : Ctx Z a0) (x y : Addr) (mc : Int32) {dz el ee em mr : Addr} {kd ke : ClassId} (vm0 : Vm) (h0 : Heap) (X00 : Ext Z.heap h0) (P0 : Exa Z h0 x c17_) (P1 : Fld Z h0 x c17_ c7_ c4_ (.ref dz)) (P2 : Fld Z h0 x c17_ "size" "I" (.int (0 : Int32))) (P3 : Z.heap.size ≤ x) (P4 : Exa Z h0 y c13_) (P5 : Fld Z h0 x c16_ "modCount" "I" (.int mc)) (hL : (OwnL Z dz el ee em mr kd ke)) :
    Met l mn223 y8_ 4 none [] (Rm 3 1 10 41) Z consts_1 vm0 h0 #[(.ref x), (.ref y), (.ref dz), (.int (0 : Int32))] (fun rv vm h => ∃ (d : Addr), ∃ (kc : ClassId), rv = none ∧ Keep h0 h [x] ∧ Fld Z h x c17_ c7_ c4_ (.ref d) ∧ Fld Z h x c17_ "size" "I" (.int (1 : Int32)) ∧ Arv Z h d kc (.object c12_) (10 : Int32) [(.ref y), .null, .null, .null, .null, .null, .null, .null, .null, .null] .null ∧ h0.size ≤ d ∧ Z.heap.size ≤ d ∧ Exa Z h d c4_ ∧ (Ovr Z kc c12_) ∧ Fld Z h x c16_ "modCount" "I" (.int mc)) := by
  have hw := cx.1
  refine Met.of_walk (a0 := a0) #[vr x, vr y, vr dz, vi (0 : Int32)] (plainFor_of_name own_pn167) X00 cx.2.1 (fun _ => rfl) ?_
  intro p e s m below meth c vm hx hby hml hret hnm hC0 hW0
  have lt_x : h0.size > x := P0.lt
  have lt_y : h0.size > y := P4.lt
  obtain ⟨Sdz, Edz, Vdz, Sel, Eel, Fee, Vee, Fan, Sem, Eem, Mmr⟩ := id hL
  refine ginfo fun _ _ OL1 => ?_
  have Vdz_1 := Vdz.ext OL1
  have lt_dz : h0.size > dz := Vdz_1.lt
  refine vIN 1 d205 ?_
  refine vAN 2 d206 ?_
  refine glen hx Vdz_1 3 (hb hby d207) rfl ?_
  refine vNc 6 d208 (teq (by decide)).2 ?_
  refine vAN 7 d209 ?_
  refine ginfo fun _ _ O2 => ?_
  refine gcallP (y := mn204) hx (oz hw 380) (oz hw 381) (oz hw 383) (oz hw 382) (oz hw 384) (by decide) (fun hZ H hEL => Pay.of_met (W := 0) (own_grow cx x mc vm h0 O2 P5 P0 P1 P2 P3 (by first | assumption | decide | omega)) (oz hw 384) (oz hw 36) (by decide) (by decide) hZ H hEL) 10 (argsL := []) (rest := []) P0 (lenOf own_pd211 rfl) rfl rfl (Nat.le_of_eq rfl) (by rw [hml]; rfl) (hb hby d210) rfl (by decide) (by decide) ?_
  rintro _ vm2 h2 C2 ⟨d2, kc2, rfl, K2, q2_0, q2_1, q2_2, q2_3, q2_4, q2_5, q2_6, q2_7⟩
  have z2 := C2.2.1
  have lt_d2 : h2.size > d2 := q2_4.lt
  refine gat1 ?_
  refine vSAN 11 #[vr x, vr y, vr d2, vi (0 : Int32)] d212 ?_
  refine vAN 12 d213 ?_
  refine vIN 13 d214 ?_
  refine vAN 14 d215 ?_
  have f4 := (P4.keep K2)
  refine gstR hx q2_4 ⟨by decide, by decide⟩ (i := 0) rfl (Nat.le_of_ble_eq_true rfl) (Arv.sto q2_4 (by assumption) (Ins.of_exa f4 (oz hw 395))) rfl q2_3 15 (hb hby d216) rfl ?_
  intro h3 W3 C3 V3
  have z3 := C3.2.1
  replace V3 : Arv Z h3 d2 kc2 (.object c12_) (10 : Int32) [(.ref y), .null, .null, .null, .null, .null, .null, .null, .null, .null] .null := V3
  refine vAN 16 d217 ?_
  refine vIN 17 d218 ?_
  refine vKc 18 (1 : Int32) d219 ?_
  refine viadd 19 (1 : Int32) d220 ?_
  have f5 := (q2_1.other W3 (Or.inl (Nat.ne_of_lt (by omega))))
  have f6 := ((P0.keep K2).wr W3)
  refine gputF (host := "") hx (Or.inl (oz hw 130)) Via.refl f5 f6 (Or.inl (oz hw 102)) (oz hw 35) (ty := .int) (by decide) rfl rfl P3 (fun al => Safe.exa al f6 (by decide) (by decide)) 22 (hb hby d221) rfl ?_
  intro h7 W7 C7
  have z7 := C7.2.1
  have F7 := f5.same W7
  have f9 := ((q2_0.other W3 (Or.inl (Nat.ne_of_lt (by omega)))).other W7 (Or.inr (slot_ne (Or.inl (oz hw 57)) (Or.inl (oz hw 102)) (by decide) (t := (.array (.object c12_))) (t' := .int) (by decide) (by decide))))
  have f10 := (V3.other W7 (Nat.ne_of_gt (by omega)))
  have f11 := ((q2_5.wr W3).wr W7)
  have f12 := ((q2_7.other W3 (Or.inl (Nat.ne_of_lt (by omega)))).other W7 (Or.inr (slot_ne (Or.inl (oz hw 54)) (Or.inl (oz hw 102)) (by decide) (t := .int) (t' := .int) (by decide) (by decide))))
  exact gretV hx hret (hb hby d222) (by decide) (by decide) (fun vq Cq => ⟨d2, kc2, rfl, ((((Keep.refl h0 [x]).trans K2 (allS (Or.inl (List.mem_of_getElem? (i := 0) rfl)) all0)).wr W3 (Or.inr (by omega))).wr W7 (Or.inl (List.mem_of_getElem? (i := 0) rfl))), f9, F7, f10, (by omega), q2_3, f11, (by first | rfl | assumption | decide | omega), f12⟩)
theorem d224 : Dc y9_ 0 (.aload_n 0) 1 := by decide +kernel
theorem d225 : Dc y9_ 1 (.dup) 1 := by decide +kernel
theorem d226 : Dc y9_ 2 (.getfield 63) 3 := by decide +kernel
theorem d227 : Dc y9_ 5 (.iconst 1) 1 := by decide +kernel
theorem d228 : Dc y9_ 6 (.iadd) 1 := by decide +kernel
theorem d229 : Dc y9_ 7 (.putfield 63) 3 := by decide +kernel
theorem d230 : Dc y9_ 10 (.aload_n 0) 1 := by decide +kernel
theorem d231 : Dc y9_ 11 (.aload_n 1) 1 := by decide +kernel
theorem d232 : Dc y9_ 12 (.aload_n 0) 1 := by decide +kernel
theorem d233 : Dc y9_ 13 (.getfield 9) 3 := by decide +kernel
theorem d234 : Dc y9_ 16 (.aload_n 0) 1 := by decide +kernel
theorem d235 : Dc y9_ 17 (.getfield 48) 3 := by decide +kernel
theorem d236 : Dc y9_ 20 (.invokevirtual 131) 3 := by decide +kernel
theorem own_pd237 : parseMethodDescriptor "(Ljava/lang/Object;[Ljava/lang/Object;I)V" = some ⟨[(.object "java/lang/Object"), (.array (.object "java/lang/Object")), .int], none⟩ := by decide +kernel
theorem d238 : Dc y9_ 23 (.iconst 1) 1 := by decide +kernel
theorem d239 : Dc y9_ 24 (.ireturn) 1 := by decide +kernel
abbrev mn240 : MethodName := ⟨"java/util/ArrayList", "add", "(Ljava/lang/Object;)Z"⟩
theorem own_add0 {l : Launch} {Z : State} {a0 : Array Value} (cx : Ctx Z a0) (x y : Addr) (mc : Int32) {dz el ee em mr : Addr} {kd ke : ClassId} (vm0 : Vm) (h0 : Heap) (X00 : Ext Z.heap h0) (P0 : Exa Z h0 x c17_) (P1 : Fld Z h0 x c17_ c7_ c4_ (.ref dz)) (P2 : Fld Z h0 x c17_ "size" "I" (.int (0 : Int32))) (P3 : Z.heap.size ≤ x) (P4 : Exa Z h0 y c13_) (P5 : Fld Z h0 x c16_ "modCount" "I" (.int mc)) (hL : (OwnL Z dz el ee em mr kd ke)) :
    Met l mn240 y9_ 2 (some .boolean) [] (Rm 4 1 10 56) Z consts_1 vm0 h0 #[(.ref x), (.ref y)] (fun rv vm h => ∃ (d : Addr), ∃ (kc : ClassId), rv = some (.int (1 : Int32)) ∧ Keep h0 h [x] ∧ Fld Z h x c17_ c7_ c4_ (.ref d) ∧ Fld Z h x c17_ "size" "I" (.int (1 : Int32)) ∧ Arv Z h d kc (.object c12_) (10 : Int32) [(.ref y), .null, .null, .null, .null, .null, .null, .null, .null, .null] .null ∧ h0.size ≤ d ∧ Z.heap.size ≤ d ∧ Exa Z h d c4_ ∧ (Ovr Z kc c12_) ∧ Fld Z h x c16_ "modCount" "I" (.int (mc + (1 : Int32)))) := by
  have hw := cx.1
  refine Met.of_walk (a0 := a0) #[vr x, vr y] (plainFor_of_name own_pn167) X00 cx.2.1 (fun _ => rfl) ?_
  intro p e s m below meth c vm hx hby hml hret hnm hC0 hW0
  have lt_x : h0.size > x := P0.lt
  have lt_y : h0.size > y := P4.lt
  refine vAN 1 d224 ?_
  refine vD 2 d225 ?_
  refine ggetF (host := "") hx (Or.inl (oz hw 374)) (Via.of (oz hw 87)) P5 5 (hb hby d226) rfl ?_
  refine vKc 6 (1 : Int32) d227 ?_
  refine viadd 7 (mc + (1 : Int32)) d228 ?_
  refine gputF (host := "") hx (Or.inl (oz hw 374)) (Via.of (oz hw 87)) P5 P0 (Or.inl (oz hw 54)) (oz hw 35) (ty := .int) (by decide) rfl rfl P3 (fun al => Safe.exa al P0 (by decide) (by decide)) 10 (hb hby d229) rfl ?_
  intro h1 W1 C1
  have z1 := C1.2.1
  have F1 := P5.same W1
  refine vAN 11 d230 ?_
  refine vAN 12 d231 ?_
  refine vAN 13 d232 ?_
  have f2 := (P1.other W1 (Or.inr (slot_ne (Or.inl (oz hw 57)) (Or.inl (oz hw 54)) (by decide) (t := (.array (.object c12_))) (t' := .int) (by decide) (by decide))))
  refine gF (oz hw 56) f2 16 d233 ?_
  refine vAN 17 d234 ?_
  have f3 := (P2.other W1 (Or.inr (slot_ne (Or.inl (oz hw 102)) (Or.inl (oz hw 54)) (by decide) (t := .int) (t' := .int) (by decide) (by decide))))
  refine gF (oz hw 130) f3 20 d235 ?_
  have f5 := (P0.wr W1)
  have f6 := (P4.wr W1)
  refine ginfo fun _ _ O4 => ?_
  refine gcallP (y := mn223) hx (oz hw 375) (oz hw 376) (oz hw 378) (oz hw 377) (oz hw 379) (by decide) (fun hZ H hEL => Pay.of_met (W := 0) (own_addh0 cx x y ((mc + (1 : Int32))) vm h1 O4 f5 f2 f3 P3 f6 F1 (by first | assumption | decide | omega)) (oz hw 379) (oz hw 36) (by decide) (by decide) hZ H hEL) 23 (argsL := [(.ref y), (.ref dz), (.int (0 : Int32))]) (rest := []) f5 (lenOf own_pd237 rfl) rfl rfl (Nat.le_of_eq rfl) (by rw [hml]; rfl) (hb hby d236) rfl (by decide) (by decide) ?_
  rintro _ vm4 h4 C4 ⟨d4, kc4, rfl, K4, q4_0, q4_1, q4_2, q4_3, q4_4, q4_5, q4_6, q4_7⟩
  have z4 := C4.2.1
  have lt_d4 : h4.size > d4 := q4_2.lt
  refine gat0 ?_
  refine vKc 24 (1 : Int32) d238 ?_
  exact gretN (t := .boolean) hx hret (by simp) (hb hby d239) (by decide) (by decide) (fun vq Cq => ⟨d4, kc4, rfl, (((Keep.refl h0 [x]).wr W1 (Or.inl (List.mem_of_getElem? (i := 0) rfl))).trans K4 (allS (Or.inl (List.mem_of_getElem? (i := 0) rfl)) all0)), q4_0, q4_1, q4_2, (by omega), q4_4, q4_5, (by first | rfl | assumption | decide | omega), q4_7⟩)
theorem own_addh1 {l : Launch} {Z : State} {a0 : Array Value} (cx : Ctx Z a0) (x y d : Addr) (kc : ClassId) (s0_ : Addr) (mc : Int32) {dz el ee em mr : Addr} {kd ke : ClassId} (vm0 : Vm) (h0 : Heap) (X00 : Ext Z.heap h0) (P0 : Exa Z h0 x c17_) (P1 : Fld Z h0 x c17_ c7_ c4_ (.ref d)) (P2 : Fld Z h0 x c17_ "size" "I" (.int (1 : Int32))) (P3 : Arv Z h0 d kc (.object c12_) (10 : Int32) [(.ref s0_), .null, .null, .null, .null, .null, .null, .null, .null, .null] .null) (P4 : Exa Z h0 d c4_) (hov : (Ovr Z kc c12_)) (P6 : Z.heap.size ≤ x) (P7 : Exa Z h0 y c13_) (P8 : Z.heap.size ≤ d) (P9 : Fld Z h0 x c16_ "modCount" "I" (.int mc)) (hL : (OwnL Z dz el ee em mr kd ke)) :
    Met l mn223 y8_ 4 none [] (Rm 0 0 0 0) Z consts_1 vm0 h0 #[(.ref x), (.ref y), (.ref d), (.int (1 : Int32))] (fun rv vm h => rv = none ∧ Keep h0 h [x, d] ∧ Fld Z h x c17_ c7_ c4_ (.ref d) ∧ Fld Z h x c17_ "size" "I" (.int (2 : Int32)) ∧ Arv Z h d kc (.object c12_) (10 : Int32) [(.ref s0_), (.ref y), .null, .null, .null, .null, .null, .null, .null, .null] .null ∧ Fld Z h x c16_ "modCount" "I" (.int mc)) := by
  have hw := cx.1
  refine Met.of_walk (a0 := a0) #[vr x, vr y, vr d, vi (1 : Int32)] (plainFor_of_name own_pn167) X00 cx.2.1 (fun _ => rfl) ?_
  intro p e s m below meth c vm hx hby hml hret hnm hC0 hW0
  have lt_x : h0.size > x := P0.lt
  have lt_d : h0.size > d := P3.lt
  have lt_y : h0.size > y := P7.lt
  refine vIN 1 d205 ?_
  refine vAN 2 d206 ?_
  refine glen hx P3 3 (hb hby d207) rfl ?_
  refine vYc 11 d208 (feq (by decide)).2 ?_
  refine vAN 12 d213 ?_
  refine vIN 13 d214 ?_
  refine vAN 14 d215 ?_
  refine gstR hx P3 ⟨by decide, by decide⟩ (i := 1) rfl (Nat.le_of_ble_eq_true rfl) (Arv.sto P3 hov (Ins.of_exa P7 (oz hw 395))) rfl P8 15 (hb hby d216) rfl ?_
  intro h1 W1 C1 V1
  have z1 := C1.2.1
  replace V1 : Arv Z h1 d kc (.object c12_) (10 : Int32) [(.ref s0_), (.ref y), .null, .null, .null, .null, .null, .null, .null, .null] .null := V1
  refine vAN 16 d217 ?_
  refine vIN 17 d218 ?_
  refine vKc 18 (1 : Int32) d219 ?_
  refine viadd 19 (2 : Int32) d220 ?_
  have f2 := (P0.wr W1)
  have f3 := (P4.wr W1)
  have f4 := (P2.other W1 (Or.inl (ne_exa f2 f3 (by decide))))
  refine gputF (host := "") hx (Or.inl (oz hw 130)) Via.refl f4 f2 (Or.inl (oz hw 102)) (oz hw 35) (ty := .int) (by decide) rfl rfl P6 (fun al => Safe.exa al f2 (by decide) (by decide)) 22 (hb hby d221) rfl ?_
  intro h5 W5 C5
  have z5 := C5.2.1
  have F5 := f4.same W5
  have f7 := (f2.wr W5)
  have f8 := (f3.wr W5)
  have f9 := ((P1.other W1 (Or.inl (ne_exa f7 f8 (by decide)))).other W5 (Or.inr (slot_ne (Or.inl (oz hw 57)) (Or.inl (oz hw 102)) (by decide) (t := (.array (.object c12_))) (t' := .int) (by decide) (by decide))))
  have f10 := (V1.other W5 (ne_exa f8 f7 (by decide)))
  have f11 := ((P9.other W1 (Or.inl (ne_exa f7 f8 (by decide)))).other W5 (Or.inr (slot_ne (Or.inl (oz hw 54)) (Or.inl (oz hw 102)) (by decide) (t := .int) (t' := .int) (by decide) (by decide))))
  exact gretV hx hret (hb hby d222) (by decide) (by decide) (fun vq Cq => ⟨rfl, (((Keep.refl h0 [x, d]).wr W1 (Or.inl (List.mem_of_getElem? (i := 1) rfl))).wr W5 (Or.inl (List.mem_of_getElem? (i := 0) rfl))), f9, F5, f10, f11⟩)
theorem own_add1 {l : Launch} {Z : State} {a0 : Array Value} (cx : Ctx Z a0) (x y d : Addr) (kc : ClassId) (s0_ : Addr) (mc : Int32) {dz el ee em mr : Addr} {kd ke : ClassId} (vm0 : Vm) (h0 : Heap) (X00 : Ext Z.heap h0) (P0 : Exa Z h0 x c17_) (P1 : Fld Z h0 x c17_ c7_ c4_ (.ref d)) (P2 : Fld Z h0 x c17_ "size" "I" (.int (1 : Int32))) (P3 : Arv Z h0 d kc (.object c12_) (10 : Int32) [(.ref s0_), .null, .null, .null, .null, .null, .null, .null, .null, .null] .null) (P4 : Exa Z h0 d c4_) (hov : (Ovr Z kc c12_)) (P6 : Z.heap.size ≤ x) (P7 : Exa Z h0 y c13_) (P8 : Z.heap.size ≤ d) (P9 : Fld Z h0 x c16_ "modCount" "I" (.int mc)) (hL : (OwnL Z dz el ee em mr kd ke)) :
    Met l mn240 y9_ 2 (some .boolean) [] (Rm 1 0 0 15) Z consts_1 vm0 h0 #[(.ref x), (.ref y)] (fun rv vm h => rv = some (.int (1 : Int32)) ∧ Keep h0 h [x, d] ∧ Fld Z h x c17_ c7_ c4_ (.ref d) ∧ Fld Z h x c17_ "size" "I" (.int (2 : Int32)) ∧ Arv Z h d kc (.object c12_) (10 : Int32) [(.ref s0_), (.ref y), .null, .null, .null, .null, .null, .null, .null, .null] .null ∧ Fld Z h x c16_ "modCount" "I" (.int (mc + (1 : Int32)))) := by
  have hw := cx.1
  refine Met.of_walk (a0 := a0) #[vr x, vr y] (plainFor_of_name own_pn167) X00 cx.2.1 (fun _ => rfl) ?_
  intro p e s m below meth c vm hx hby hml hret hnm hC0 hW0
  have lt_x : h0.size > x := P0.lt
  have lt_d : h0.size > d := P3.lt
  have lt_y : h0.size > y := P7.lt
  refine vAN 1 d224 ?_
  refine vD 2 d225 ?_
  refine ggetF (host := "") hx (Or.inl (oz hw 374)) (Via.of (oz hw 87)) P9 5 (hb hby d226) rfl ?_
  refine vKc 6 (1 : Int32) d227 ?_
  refine viadd 7 (mc + (1 : Int32)) d228 ?_
  refine gputF (host := "") hx (Or.inl (oz hw 374)) (Via.of (oz hw 87)) P9 P0 (Or.inl (oz hw 54)) (oz hw 35) (ty := .int) (by decide) rfl rfl P6 (fun al => Safe.exa al P0 (by decide) (by decide)) 10 (hb hby d229) rfl ?_
  intro h1 W1 C1
  have z1 := C1.2.1
  have F1 := P9.same W1
  refine vAN 11 d230 ?_
  refine vAN 12 d231 ?_
  refine vAN 13 d232 ?_
  have f2 := (P1.other W1 (Or.inr (slot_ne (Or.inl (oz hw 57)) (Or.inl (oz hw 54)) (by decide) (t := (.array (.object c12_))) (t' := .int) (by decide) (by decide))))
  refine gF (oz hw 56) f2 16 d233 ?_
  refine vAN 17 d234 ?_
  have f3 := (P2.other W1 (Or.inr (slot_ne (Or.inl (oz hw 102)) (Or.inl (oz hw 54)) (by decide) (t := .int) (t' := .int) (by decide) (by decide))))
  refine gF (oz hw 130) f3 20 d235 ?_
  have f5 := (P0.wr W1)
  have f6 := (P4.wr W1)
  have f7 := (P3.other W1 (ne_exa f6 f5 (by decide)))
  have f8 := (P7.wr W1)
  refine ginfo fun _ _ O4 => ?_
  refine gcallP (y := mn223) hx (oz hw 375) (oz hw 376) (oz hw 378) (oz hw 377) (oz hw 379) (by decide) (fun hZ H hEL => Pay.of_met (W := 0) (own_addh1 cx x y d kc s0_ ((mc + (1 : Int32))) vm h1 O4 f5 f2 f3 f7 f6 (by first | assumption | decide | omega) P6 f8 P8 F1 (by first | assumption | decide | omega)) (oz hw 379) (oz hw 36) (by decide) (by decide) hZ H hEL) 23 (argsL := [(.ref y), (.ref d), (.int (1 : Int32))]) (rest := []) f5 (lenOf own_pd237 rfl) rfl rfl (Nat.le_of_eq rfl) (by rw [hml]; rfl) (hb hby d236) rfl (by decide) (by decide) ?_
  rintro _ vm4 h4 C4 ⟨rfl, K4, q4_0, q4_1, q4_2, q4_3⟩
  have z4 := C4.2.1
  refine gat0 ?_
  refine vKc 24 (1 : Int32) d238 ?_
  exact gretN (t := .boolean) hx hret (by simp) (hb hby d239) (by decide) (by decide) (fun vq Cq => ⟨rfl, (((Keep.refl h0 [x, d]).wr W1 (Or.inl (List.mem_of_getElem? (i := 0) rfl))).trans K4 (allS (Or.inl (List.mem_of_getElem? (i := 0) rfl)) (allS (Or.inl (List.mem_of_getElem? (i := 1) rfl)) all0))), q4_0, q4_1, q4_2, q4_3⟩)
theorem own_addh2 {l : Launch} {Z : State} {a0 : Array Value} (cx : Ctx Z a0) (x y d : Addr) (kc : ClassId) (s0_ s1_ : Addr) (mc : Int32) {dz el ee em mr : Addr} {kd ke : ClassId} (vm0 : Vm) (h0 : Heap) (X00 : Ext Z.heap h0) (P0 : Exa Z h0 x c17_) (P1 : Fld Z h0 x c17_ c7_ c4_ (.ref d)) (P2 : Fld Z h0 x c17_ "size" "I" (.int (2 : Int32))) (P3 : Arv Z h0 d kc (.object c12_) (10 : Int32) [(.ref s0_), (.ref s1_), .null, .null, .null, .null, .null, .null, .null, .null] .null) (P4 : Exa Z h0 d c4_) (hov : (Ovr Z kc c12_)) (P6 : Z.heap.size ≤ x) (P7 : Exa Z h0 y c13_) (P8 : Z.heap.size ≤ d) (P9 : Fld Z h0 x c16_ "modCount" "I" (.int mc)) (hL : (OwnL Z dz el ee em mr kd ke)) :
    Met l mn223 y8_ 4 none [] (Rm 0 0 0 0) Z consts_1 vm0 h0 #[(.ref x), (.ref y), (.ref d), (.int (2 : Int32))] (fun rv vm h => rv = none ∧ Keep h0 h [x, d] ∧ Fld Z h x c17_ c7_ c4_ (.ref d) ∧ Fld Z h x c17_ "size" "I" (.int (3 : Int32)) ∧ Arv Z h d kc (.object c12_) (10 : Int32) [(.ref s0_), (.ref s1_), (.ref y), .null, .null, .null, .null, .null, .null, .null] .null ∧ Fld Z h x c16_ "modCount" "I" (.int mc)) := by
  have hw := cx.1
  refine Met.of_walk (a0 := a0) #[vr x, vr y, vr d, vi (2 : Int32)] (plainFor_of_name own_pn167) X00 cx.2.1 (fun _ => rfl) ?_
  intro p e s m below meth c vm hx hby hml hret hnm hC0 hW0
  have lt_x : h0.size > x := P0.lt
  have lt_d : h0.size > d := P3.lt
  have lt_y : h0.size > y := P7.lt
  refine vIN 1 d205 ?_
  refine vAN 2 d206 ?_
  refine glen hx P3 3 (hb hby d207) rfl ?_
  refine vYc 11 d208 (feq (by decide)).2 ?_
  refine vAN 12 d213 ?_
  refine vIN 13 d214 ?_
  refine vAN 14 d215 ?_
  refine gstR hx P3 ⟨by decide, by decide⟩ (i := 2) rfl (Nat.le_of_ble_eq_true rfl) (Arv.sto P3 hov (Ins.of_exa P7 (oz hw 395))) rfl P8 15 (hb hby d216) rfl ?_
  intro h1 W1 C1 V1
  have z1 := C1.2.1
  replace V1 : Arv Z h1 d kc (.object c12_) (10 : Int32) [(.ref s0_), (.ref s1_), (.ref y), .null, .null, .null, .null, .null, .null, .null] .null := V1
  refine vAN 16 d217 ?_
  refine vIN 17 d218 ?_
  refine vKc 18 (1 : Int32) d219 ?_
  refine viadd 19 (3 : Int32) d220 ?_
  have f2 := (P0.wr W1)
  have f3 := (P4.wr W1)
  have f4 := (P2.other W1 (Or.inl (ne_exa f2 f3 (by decide))))
  refine gputF (host := "") hx (Or.inl (oz hw 130)) Via.refl f4 f2 (Or.inl (oz hw 102)) (oz hw 35) (ty := .int) (by decide) rfl rfl P6 (fun al => Safe.exa al f2 (by decide) (by decide)) 22 (hb hby d221) rfl ?_
  intro h5 W5 C5
  have z5 := C5.2.1
  have F5 := f4.same W5
  have f7 := (f2.wr W5)
  have f8 := (f3.wr W5)
  have f9 := ((P1.other W1 (Or.inl (ne_exa f7 f8 (by decide)))).other W5 (Or.inr (slot_ne (Or.inl (oz hw 57)) (Or.inl (oz hw 102)) (by decide) (t := (.array (.object c12_))) (t' := .int) (by decide) (by decide))))
  have f10 := (V1.other W5 (ne_exa f8 f7 (by decide)))
  have f11 := ((P9.other W1 (Or.inl (ne_exa f7 f8 (by decide)))).other W5 (Or.inr (slot_ne (Or.inl (oz hw 54)) (Or.inl (oz hw 102)) (by decide) (t := .int) (t' := .int) (by decide) (by decide))))
  exact gretV hx hret (hb hby d222) (by decide) (by decide) (fun vq Cq => ⟨rfl, (((Keep.refl h0 [x, d]).wr W1 (Or.inl (List.mem_of_getElem? (i := 1) rfl))).wr W5 (Or.inl (List.mem_of_getElem? (i := 0) rfl))), f9, F5, f10, f11⟩)
theorem own_add2 {l : Launch} {Z : State} {a0 : Array Value} (cx : Ctx Z a0) (x y d : Addr) (kc : ClassId) (s0_ s1_ : Addr) (mc : Int32) {dz el ee em mr : Addr} {kd ke : ClassId} (vm0 : Vm) (h0 : Heap) (X00 : Ext Z.heap h0) (P0 : Exa Z h0 x c17_) (P1 : Fld Z h0 x c17_ c7_ c4_ (.ref d)) (P2 : Fld Z h0 x c17_ "size" "I" (.int (2 : Int32))) (P3 : Arv Z h0 d kc (.object c12_) (10 : Int32) [(.ref s0_), (.ref s1_), .null, .null, .null, .null, .null, .null, .null, .null] .null) (P4 : Exa Z h0 d c4_) (hov : (Ovr Z kc c12_)) (P6 : Z.heap.size ≤ x) (P7 : Exa Z h0 y c13_) (P8 : Z.heap.size ≤ d) (P9 : Fld Z h0 x c16_ "modCount" "I" (.int mc)) (hL : (OwnL Z dz el ee em mr kd ke)) :
    Met l mn240 y9_ 2 (some .boolean) [] (Rm 1 0 0 15) Z consts_1 vm0 h0 #[(.ref x), (.ref y)] (fun rv vm h => rv = some (.int (1 : Int32)) ∧ Keep h0 h [x, d] ∧ Fld Z h x c17_ c7_ c4_ (.ref d) ∧ Fld Z h x c17_ "size" "I" (.int (3 : Int32)) ∧ Arv Z h d kc (.object c12_) (10 : Int32) [(.ref s0_), (.ref s1_), (.ref y), .null, .null, .null, .null, .null, .null, .null] .null ∧ Fld Z h x c16_ "modCount" "I" (.int (mc + (1 : Int32)))) := by
  have hw := cx.1
  refine Met.of_walk (a0 := a0) #[vr x, vr y] (plainFor_of_name own_pn167) X00 cx.2.1 (fun _ => rfl) ?_
  intro p e s m below meth c vm hx hby hml hret hnm hC0 hW0
  have lt_x : h0.size > x := P0.lt
  have lt_d : h0.size > d := P3.lt
  have lt_y : h0.size > y := P7.lt
  refine vAN 1 d224 ?_
  refine vD 2 d225 ?_
  refine ggetF (host := "") hx (Or.inl (oz hw 374)) (Via.of (oz hw 87)) P9 5 (hb hby d226) rfl ?_
  refine vKc 6 (1 : Int32) d227 ?_
  refine viadd 7 (mc + (1 : Int32)) d228 ?_
  refine gputF (host := "") hx (Or.inl (oz hw 374)) (Via.of (oz hw 87)) P9 P0 (Or.inl (oz hw 54)) (oz hw 35) (ty := .int) (by decide) rfl rfl P6 (fun al => Safe.exa al P0 (by decide) (by decide)) 10 (hb hby d229) rfl ?_
  intro h1 W1 C1
  have z1 := C1.2.1
  have F1 := P9.same W1
  refine vAN 11 d230 ?_
  refine vAN 12 d231 ?_
  refine vAN 13 d232 ?_
  have f2 := (P1.other W1 (Or.inr (slot_ne (Or.inl (oz hw 57)) (Or.inl (oz hw 54)) (by decide) (t := (.array (.object c12_))) (t' := .int) (by decide) (by decide))))
  refine gF (oz hw 56) f2 16 d233 ?_
  refine vAN 17 d234 ?_
  have f3 := (P2.other W1 (Or.inr (slot_ne (Or.inl (oz hw 102)) (Or.inl (oz hw 54)) (by decide) (t := .int) (t' := .int) (by decide) (by decide))))
  refine gF (oz hw 130) f3 20 d235 ?_
  have f5 := (P0.wr W1)
  have f6 := (P4.wr W1)
  have f7 := (P3.other W1 (ne_exa f6 f5 (by decide)))
  have f8 := (P7.wr W1)
  refine ginfo fun _ _ O4 => ?_
  refine gcallP (y := mn223) hx (oz hw 375) (oz hw 376) (oz hw 378) (oz hw 377) (oz hw 379) (by decide) (fun hZ H hEL => Pay.of_met (W := 0) (own_addh2 cx x y d kc s0_ s1_ ((mc + (1 : Int32))) vm h1 O4 f5 f2 f3 f7 f6 (by first | assumption | decide | omega) P6 f8 P8 F1 (by first | assumption | decide | omega)) (oz hw 379) (oz hw 36) (by decide) (by decide) hZ H hEL) 23 (argsL := [(.ref y), (.ref d), (.int (2 : Int32))]) (rest := []) f5 (lenOf own_pd237 rfl) rfl rfl (Nat.le_of_eq rfl) (by rw [hml]; rfl) (hb hby d236) rfl (by decide) (by decide) ?_
  rintro _ vm4 h4 C4 ⟨rfl, K4, q4_0, q4_1, q4_2, q4_3⟩
  have z4 := C4.2.1
  refine gat0 ?_
  refine vKc 24 (1 : Int32) d238 ?_
  exact gretN (t := .boolean) hx hret (by simp) (hb hby d239) (by decide) (by decide) (fun vq Cq => ⟨rfl, (((Keep.refl h0 [x, d]).wr W1 (Or.inl (List.mem_of_getElem? (i := 0) rfl))).trans K4 (allS (Or.inl (List.mem_of_getElem? (i := 0) rfl)) (allS (Or.inl (List.mem_of_getElem? (i := 1) rfl)) all0))), q4_0, q4_1, q4_2, q4_3⟩)
theorem d241 : Dc y14_ 0 (.aload_n 0) 1 := by decide +kernel
theorem d242 : Dc y14_ 1 (.getfield 48) 3 := by decide +kernel
theorem d243 : Dc y14_ 4 (.ifCond .ne 7) 3 := by decide +kernel
theorem d244 : Dc y14_ 7 (.iconst 1) 1 := by decide +kernel
theorem d245 : Dc y14_ 8 (.goto 4) 3 := by decide +kernel
theorem d246 : Dc y14_ 12 (.ireturn) 1 := by decide +kernel
abbrev mn247 : MethodName := ⟨"java/util/ArrayList", "isEmpty", "()Z"⟩
theorem own_alempty0 {l : Launch} {Z : State} {a0 : Array Value} (cx : Ctx Z a0) (x : Addr) (vm0 : Vm) (h0 : Heap) (X00 : Ext Z.heap h0) (P0 : Fld Z h0 x c17_ "size" "I" (.int (0 : Int32))) :
    Met l mn247 y14_ 1 (some .boolean) [] (Rm 0 0 0 0) Z consts_1 vm0 h0 #[(.ref x)] (fun rv vm h => rv = some (.int (1 : Int32)) ∧ h0 = h) := by
  have hw := cx.1
  refine Met.of_walk (a0 := a0) #[vr x] (plainFor_of_name own_pn167) X00 cx.2.1 (fun _ => rfl) ?_
  intro p e s m below meth c vm hx hby hml hret hnm hC0 hW0
  have lt_x : h0.size > x := P0.lt
  refine vAN 1 d241 ?_
  refine gF (oz hw 130) P0 4 d242 ?_
  refine vN 7 d243 ((if0 _ _).trans (teq (by decide)).2) ?_
  refine vKc 8 (1 : Int32) d244 ?_
  refine vG 12 d245 ?_
  exact gretN (t := .boolean) hx hret (by simp) (hb hby d246) (by decide) (by decide) (fun vq Cq => ⟨rfl, rfl⟩)
theorem d248 : Dc y14_ 11 (.iconst 0) 1 := by decide +kernel
theorem own_alempty1 {l : Launch} {Z : State} {a0 : Array Value} (cx : Ctx Z a0) (x : Addr) (vm0 : Vm) (h0 : Heap) (X00 : Ext Z.heap h0) (P0 : Fld Z h0 x c17_ "size" "I" (.int (1 : Int32))) :
    Met l mn247 y14_ 1 (some .boolean) [] (Rm 0 0 0 0) Z consts_1 vm0 h0 #[(.ref x)] (fun rv vm h => rv = some (.int (0 : Int32)) ∧ h0 = h) := by
  have hw := cx.1
  refine Met.of_walk (a0 := a0) #[vr x] (plainFor_of_name own_pn167) X00 cx.2.1 (fun _ => rfl) ?_
  intro p e s m below meth c vm hx hby hml hret hnm hC0 hW0
  have lt_x : h0.size > x := P0.lt
  refine vAN 1 d241 ?_
  refine gF (oz hw 130) P0 4 d242 ?_
  refine vY 11 d243 ((if0 _ _).trans (feq (by decide)).2) ?_
  refine vKc 12 (0 : Int32) d248 ?_
  exact gretN (t := .boolean) hx hret (by simp) (hb hby d246) (by decide) (by decide) (fun vq Cq => ⟨rfl, rfl⟩)
theorem own_alempty2 {l : Launch} {Z : State} {a0 : Array Value} (cx : Ctx Z a0) (x : Addr) (vm0 : Vm) (h0 : Heap) (X00 : Ext Z.heap h0) (P0 : Fld Z h0 x c17_ "size" "I" (.int (2 : Int32))) :
    Met l mn247 y14_ 1 (some .boolean) [] (Rm 0 0 0 0) Z consts_1 vm0 h0 #[(.ref x)] (fun rv vm h => rv = some (.int (0 : Int32)) ∧ h0 = h) := by
  have hw := cx.1
  refine Met.of_walk (a0 := a0) #[vr x] (plainFor_of_name own_pn167) X00 cx.2.1 (fun _ => rfl) ?_
  intro p e s m below meth c vm hx hby hml hret hnm hC0 hW0
  have lt_x : h0.size > x := P0.lt
  refine vAN 1 d241 ?_
  refine gF (oz hw 130) P0 4 d242 ?_
  refine vY 11 d243 ((if0 _ _).trans (feq (by decide)).2) ?_
  refine vKc 12 (0 : Int32) d248 ?_
  exact gretN (t := .boolean) hx hret (by simp) (hb hby d246) (by decide) (by decide) (fun vq Cq => ⟨rfl, rfl⟩)
theorem own_alempty3 {l : Launch} {Z : State} {a0 : Array Value} (cx : Ctx Z a0) (x : Addr) (vm0 : Vm) (h0 : Heap) (X00 : Ext Z.heap h0) (P0 : Fld Z h0 x c17_ "size" "I" (.int (3 : Int32))) :
    Met l mn247 y14_ 1 (some .boolean) [] (Rm 0 0 0 0) Z consts_1 vm0 h0 #[(.ref x)] (fun rv vm h => rv = some (.int (0 : Int32)) ∧ h0 = h) := by
  have hw := cx.1
  refine Met.of_walk (a0 := a0) #[vr x] (plainFor_of_name own_pn167) X00 cx.2.1 (fun _ => rfl) ?_
  intro p e s m below meth c vm hx hby hml hret hnm hC0 hW0
  have lt_x : h0.size > x := P0.lt
  refine vAN 1 d241 ?_
  refine gF (oz hw 130) P0 4 d242 ?_
  refine vY 11 d243 ((if0 _ _).trans (feq (by decide)).2) ?_
  refine vKc 12 (0 : Int32) d248 ?_
  exact gretN (t := .boolean) hx hret (by simp) (hb hby d246) (by decide) (by decide) (fun vq Cq => ⟨rfl, rfl⟩)
theorem d249 : Dc jdk_40_method_36_code 0 (.getstatic 90) 3 := by decide +kernel
theorem d250 : Dc jdk_40_method_36_code 3 (.areturn) 1 := by decide +kernel
abbrev mn251 : MethodName := ⟨"java/util/List", "of", "()Ljava/util/List;"⟩
theorem own_pn252 : plainName "java/util/List" = true := by first | (simp [plainName, overriddenIn]; done) | decide +kernel
theorem own_of0 {l : Launch} {Z : State} {a0 : Array Value} (cx : Ctx Z a0) {dz el ee em mr : Addr} {kd ke : ClassId} (vm0 : Vm) (h0 : Heap) (X00 : Ext Z.heap h0) (hL : (OwnL Z dz el ee em mr kd ke)) :
    Met l mn251 jdk_40_method_36_code 0 (some (.object c24_)) [] (Rm 0 0 0 0) Z consts_1 vm0 h0 #[] (fun rv vm h => rv = some (.ref el) ∧ h0 = h) := by
  have hw := cx.1
  refine Met.of_walk (a0 := a0) #[] (plainFor_of_name own_pn252) X00 cx.2.1 (fun _ => rfl) ?_
  intro p e s m below meth c vm hx hby hml hret hnm hC0 hW0
  obtain ⟨Sdz, Edz, Vdz, Sel, Eel, Fee, Vee, Fan, Sem, Eem, Mmr⟩ := id hL
  refine ggetS (host := "") hx (Or.inl (oz hw 134)) Via.refl Sel 3 (hb hby d249) rfl ?_
  exact gretA hx hret rfl rfl (hb hby d250) (by decide) (by decide) (fun vq Cq => ⟨rfl, rfl⟩)
theorem d253 : Dc y6_ 0 (.aload_n 0) 1 := by decide +kernel
theorem d254 : Dc y6_ 1 (.ifnonnull 11) 3 := by decide +kernel
theorem d255 : Dc y6_ 12 (.aload_n 0) 1 := by decide +kernel
theorem d256 : Dc y6_ 13 (.areturn) 1 := by decide +kernel
abbrev mn257 : MethodName := ⟨"java/util/Objects", "requireNonNull", "(Ljava/lang/Object;)Ljava/lang/Object;"⟩
theorem own_pn258 : plainName "java/util/Objects" = true := by first | (simp [plainName, overriddenIn]; done) | decide +kernel
theorem own_rnn {l : Launch} {Z : State} {a0 : Array Value} (cx : Ctx Z a0) (x : Addr) (vm0 : Vm) (h0 : Heap) (X00 : Ext Z.heap h0)  :
    Met l mn257 y6_ 1 (some (.object c12_)) [] (Rm 0 0 0 0) Z consts_1 vm0 h0 #[(.ref x)] (fun rv vm h => rv = some (.ref x) ∧ h0 = h) := by
  have hw := cx.1
  refine Met.of_walk (a0 := a0) #[vr x] (plainFor_of_name own_pn258) X00 cx.2.1 (fun _ => rfl) ?_
  intro p e s m below meth c vm hx hby hml hret hnm hC0 hW0
  refine vAN 1 d253 ?_
  refine vY1 12 d254 ?_
  refine vAN 13 d255 ?_
  exact gretA hx hret rfl rfl (hb hby d256) (by decide) (by decide) (fun vq Cq => ⟨rfl, rfl⟩)
theorem d259 : Dc y43_ 0 (.aload_n 0) 1 := by decide +kernel
theorem d260 : Dc y43_ 1 (.invokespecial 1) 3 := by decide +kernel
theorem d261 : Dc y43_ 4 (.return_) 1 := by decide +kernel
abbrev mn262 : MethodName := ⟨"java/util/ImmutableCollections$AbstractImmutableCollection", "<init>", "()V"⟩
theorem own_pn263 : plainName "java/util/ImmutableCollections$AbstractImmutableCollection" = true := by first | (simp [plainName, overriddenIn]; done) | decide +kernel
theorem own_aicinit {l : Launch} {Z : State} {a0 : Array Value} (cx : Ctx Z a0) (x : Addr) (vm0 : Vm) (h0 : Heap) (X00 : Ext Z.heap h0)  :
    Met l mn262 y43_ 1 none [] (Rm 2 0 0 24) Z consts_1 vm0 h0 #[(.ref x)] (fun rv vm h => rv = none ∧ h0 = h) := by
  have hw := cx.1
  refine Met.of_walk (a0 := a0) #[vr x] (plainFor_of_name own_pn263) X00 cx.2.1 (fun _ => rfl) ?_
  intro p e s m below meth c vm hx hby hml hret hnm hC0 hW0
  refine vAN 1 d259 ?_
  refine gmI (y := mn149) rfl (oz hw 454) (oz hw 47) (oz hw 51) (oz hw 50) (fun O => own_abcinit cx x vm h0 O ) 4 (argsL := []) (rest := []) (a := x) own_pd153 d260 ?_
  rintro _ vm1 h1 C1 z1 ⟨rfl, rfl⟩
  refine gat0 ?_
  exact gretV hx hret (hb hby d261) (by decide) (by decide) (fun vq Cq => ⟨rfl, rfl⟩)
theorem d264 : Dc y42_ 0 (.aload_n 0) 1 := by decide +kernel
theorem d265 : Dc y42_ 1 (.invokespecial 1) 3 := by decide +kernel
theorem d266 : Dc y42_ 4 (.return_) 1 := by decide +kernel
abbrev mn267 : MethodName := ⟨"java/util/ImmutableCollections$AbstractImmutableList", "<init>", "()V"⟩
theorem own_pn268 : plainName "java/util/ImmutableCollections$AbstractImmutableList" = true := by first | (simp [plainName, overriddenIn]; done) | decide +kernel
theorem own_ailinit {l : Launch} {Z : State} {a0 : Array Value} (cx : Ctx Z a0) (x : Addr) (vm0 : Vm) (h0 : Heap) (X00 : Ext Z.heap h0)  :
    Met l mn267 y42_ 1 none [] (Rm 3 0 0 36) Z consts_1 vm0 h0 #[(.ref x)] (fun rv vm h => rv = none ∧ h0 = h) := by
  have hw := cx.1
  refine Met.of_walk (a0 := a0) #[vr x] (plainFor_of_name own_pn268) X00 cx.2.1 (fun _ => rfl) ?_
  intro p e s m below meth c vm hx hby hml hret hnm hC0 hW0
  refine vAN 1 d264 ?_
  refine gmI (y := mn262) rfl (oz hw 448) (oz hw 449) (oz hw 453) (oz hw 452) (fun O => own_aicinit cx x vm h0 O ) 4 (argsL := []) (rest := []) (a := x) own_pd153 d265 ?_
  rintro _ vm1 h1 C1 z1 ⟨rfl, rfl⟩
  refine gat0 ?_
  exact gretV hx hret (hb hby d266) (by decide) (by decide) (fun vq Cq => ⟨rfl, rfl⟩)
theorem d269 : Dc y34_ 0 (.aload_n 0) 1 := by decide +kernel
theorem d270 : Dc y34_ 1 (.invokespecial 1) 3 := by decide +kernel
theorem d271 : Dc y34_ 4 (.aload_n 0) 1 := by decide +kernel
theorem d272 : Dc y34_ 5 (.aload_n 1) 1 := by decide +kernel
theorem d273 : Dc y34_ 6 (.invokestatic 7) 3 := by decide +kernel
theorem own_pd274 : parseMethodDescriptor "(Ljava/lang/Object;)Ljava/lang/Object;" = some ⟨[(.object "java/lang/Object")], some (.object "java/lang/Object")⟩ := by decide +kernel
theorem d275 : Dc y34_ 9 (.putfield 13) 3 := by decide +kernel
theorem d276 : Dc y34_ 12 (.aload_n 0) 1 := by decide +kernel
theorem d277 : Dc y34_ 13 (.getstatic 19) 3 := by decide +kernel
theorem d278 : Dc y34_ 16 (.putfield 24) 3 := by decide +kernel
theorem d279 : Dc y34_ 19 (.return_) 1 := by decide +kernel
abbrev mn280 : MethodName := ⟨"java/util/ImmutableCollections$List12", "<init>", "(Ljava/lang/Object;)V"⟩
theorem own_pn281 : plainName "java/util/ImmutableCollections$List12" = true := by first | (simp [plainName, overriddenIn]; done) | decide +kernel
theorem own_l12a {l : Launch} {Z : State} {a0 : Array Value} (cx : Ctx Z a0) (x a : Addr) (u0 u1 : Value) {dz el ee em mr : Addr} {kd ke : ClassId} (vm0 : Vm) (h0 : Heap) (X00 : Ext Z.heap h0) (P0 : Exa Z h0 x c20_) (P1 : Fld Z h0 x c20_ "e0" c0_ u0) (P2 : Fld Z h0 x c20_ "e1" c0_ u1) (P3 : Z.heap.size ≤ x) (hL : (OwnL Z dz el ee em mr kd ke)) :
    Met l mn280 y34_ 2 none [] (Rm 4 0 0 48) Z consts_1 vm0 h0 #[(.ref x), (.ref a)] (fun rv vm h => rv = none ∧ Keep h0 h [x] ∧ Fld Z h x c20_ "e0" c0_ (.ref a) ∧ Fld Z h x c20_ "e1" c0_ (.ref em)) := by
  have hw := cx.1
  refine Met.of_walk (a0 := a0) #[vr x, vr a] (plainFor_of_name own_pn281) X00 cx.2.1 (fun _ => rfl) ?_
  intro p e s m below meth c vm hx hby hml hret hnm hC0 hW0
  have lt_x : h0.size > x := P0.lt
  obtain ⟨Sdz, Edz, Vdz, Sel, Eel, Fee, Vee, Fan, Sem, Eem, Mmr⟩ := id hL
  refine vAN 1 d269 ?_
  refine gmI (y := mn267) rfl (oz hw 443) (oz hw 444) (oz hw 447) (oz hw 228) (fun O => own_ailinit cx x vm h0 O ) 4 (argsL := []) (rest := []) (a := x) own_pd153 d270 ?_
  rintro _ vm1 h1 C1 z1 ⟨rfl, rfl⟩
  refine gat0 ?_
  refine vAN 5 d271 ?_
  refine vAN 6 d272 ?_
  refine gmS (y := mn257) (oz hw 456) (oz hw 457) (oz hw 459) (oz hw 458) (fun O => own_rnn cx a vm1 h0 O ) 9 (argsL := [(.ref a)]) (rest := [(.ref x)]) own_pd274 d273 ?_
  rintro _ vm2 h2 C2 z2 ⟨rfl, rfl⟩
  refine gat1 ?_
  refine gputF (host := "") hx (Or.inl (oz hw 460)) Via.refl P1 P0 (Or.inr ⟨(oz hw 461), rfl, hnm⟩) (oz hw 437) (ty := (.object c12_)) (by decide) rfl rfl P3 (fun al => Safe.exa al P0 (by decide) (by decide)) 12 (hb hby d275) rfl ?_
  intro h3 W3 C3
  have z3 := C3.2.1
  have F3 := P1.same W3
  refine vAN 13 d276 ?_
  refine ggetS (host := c19_) hx (Or.inr (oz hw 469)) Via.refl Sem 16 (hb hby d277) rfl ?_
  have f4 := (P2.other W3 (Or.inr (slot_ne (Or.inr (oz hw 463)) (Or.inr (oz hw 461)) (by decide) (t := (.object c12_)) (t' := (.object c12_)) (by decide) (by decide))))
  have f5 := (P0.wr W3)
  refine gputF (host := "") hx (Or.inl (oz hw 462)) Via.refl f4 f5 (Or.inr ⟨(oz hw 463), rfl, hnm⟩) (oz hw 437) (ty := (.object c12_)) (by decide) rfl rfl P3 (fun al => Safe.exa al f5 (by decide) (by decide)) 19 (hb hby d278) rfl ?_
  intro h6 W6 C6
  have z6 := C6.2.1
  have F6 := f4.same W6
  have f8 := (F3.other W6 (Or.inr (slot_ne (Or.inr (oz hw 461)) (Or.inr (oz hw 463)) (by decide) (t := (.object c12_)) (t' := (.object c12_)) (by decide) (by decide))))
  exact gretV hx hret (hb hby d279) (by decide) (by decide) (fun vq Cq => ⟨rfl, (((Keep.refl h0 [x]).wr W3 (Or.inl (List.mem_of_getElem? (i := 0) rfl))).wr W6 (Or.inl (List.mem_of_getElem? (i := 0) rfl))), f8, F6⟩)
theorem d282 : Dc y35_ 0 (.aload_n 0) 1 := by decide +kernel
theorem d283 : Dc y35_ 1 (.invokespecial 1) 3 := by decide +kernel
theorem d284 : Dc y35_ 4 (.aload_n 0) 1 := by decide +kernel
theorem d285 : Dc y35_ 5 (.aload_n 1) 1 := by decide +kernel
theorem d286 : Dc y35_ 6 (.invokestatic 7) 3 := by decide +kernel
theorem d287 : Dc y35_ 9 (.putfield 13) 3 := by decide +kernel
theorem d288 : Dc y35_ 12 (.aload_n 0) 1 := by decide +kernel
theorem d289 : Dc y35_ 13 (.aload_n 2) 1 := by decide +kernel
theorem d290 : Dc y35_ 14 (.invokestatic 7) 3 := by decide +kernel
theorem d291 : Dc y35_ 17 (.putfield 24) 3 := by decide +kernel
theorem d292 : Dc y35_ 20 (.return_) 1 := by decide +kernel
abbrev mn293 : MethodName := ⟨"java/util/ImmutableCollections$List12", "<init>", "(Ljava/lang/Object;Ljava/lang/Object;)V"⟩
theorem own_l12b {l : Launch} {Z : State} {a0 : Array Value} (cx : Ctx Z a0) (x a b : Addr) (u0 u1 : Value) (vm0 : Vm) (h0 : Heap) (X00 : Ext Z.heap h0) (P0 : Exa Z h0 x c20_) (P1 : Fld Z h0 x c20_ "e0" c0_ u0) (P2 : Fld Z h0 x c20_ "e1" c0_ u1) (P3 : Z.heap.size ≤ x) :
    Met l mn293 y35_ 3 none [] (Rm 4 0 0 48) Z consts_1 vm0 h0 #[(.ref x), (.ref a), (.ref b)] (fun rv vm h => rv = none ∧ Keep h0 h [x] ∧ Fld Z h x c20_ "e0" c0_ (.ref a) ∧ Fld Z h x c20_ "e1" c0_ (.ref b)) := by
  have hw := cx.1
  refine Met.of_walk (a0 := a0) #[vr x, vr a, vr b] (plainFor_of_name own_pn281) X00 cx.2.1 (fun _ => rfl) ?_
  intro p e s m below meth c vm hx hby hml hret hnm hC0 hW0
  have lt_x : h0.size > x := P0.lt
  refine vAN 1 d282 ?_
  refine gmI (y := mn267) rfl (oz hw 443) (oz hw 444) (oz hw 447) (oz hw 228) (fun O => own_ailinit cx x vm h0 O ) 4 (argsL := []) (rest := []) (a := x) own_pd153 d283 ?_
  rintro _ vm1 h1 C1 z1 ⟨rfl, rfl⟩
  refine gat0 ?_
  refine vAN 5 d284 ?_
  refine vAN 6 d285 ?_
  refine gmS (y := mn257) (oz hw 456) (oz hw 457) (oz hw 459) (oz hw 458) (fun O => own_rnn cx a vm1 h0 O ) 9 (argsL := [(.ref a)]) (rest := [(.ref x)]) own_pd274 d286 ?_
  rintro _ vm2 h2 C2 z2 ⟨rfl, rfl⟩
  refine gat1 ?_
  refine gputF (host := "") hx (Or.inl (oz hw 460)) Via.refl P1 P0 (Or.inr ⟨(oz hw 461), rfl, hnm⟩) (oz hw 437) (ty := (.object c12_)) (by decide) rfl rfl P3 (fun al => Safe.exa al P0 (by decide) (by decide)) 12 (hb hby d287) rfl ?_
  intro h3 W3 C3
  have z3 := C3.2.1
  have F3 := P1.same W3
  refine vAN 13 d288 ?_
  refine vAN 14 d289 ?_
  refine gmS (y := mn257) (oz hw 456) (oz hw 457) (oz hw 459) (oz hw 458) (fun O => own_rnn cx b vm2 h3 O ) 17 (argsL := [(.ref b)]) (rest := [(.ref x)]) own_pd274 d290 ?_
  rintro _ vm4 h4 C4 z4 ⟨rfl, rfl⟩
  refine gat1 ?_
  have f5 := (P2.other W3 (Or.inr (slot_ne (Or.inr (oz hw 463)) (Or.inr (oz hw 461)) (by decide) (t := (.object c12_)) (t' := (.object c12_)) (by decide) (by decide))))
  have f6 := (P0.wr W3)
  refine gputF (host := "") hx (Or.inl (oz hw 462)) Via.refl f5 f6 (Or.inr ⟨(oz hw 463), rfl, hnm⟩) (oz hw 437) (ty := (.object c12_)) (by decide) rfl rfl P3 (fun al => Safe.exa al f6 (by decide) (by decide)) 20 (hb hby d291) rfl ?_
  intro h7 W7 C7
  have z7 := C7.2.1
  have F7 := f5.same W7
  have f9 := (F3.other W7 (Or.inr (slot_ne (Or.inr (oz hw 461)) (Or.inr (oz hw 463)) (by decide) (t := (.object c12_)) (t' := (.object c12_)) (by decide) (by decide))))
  exact gretV hx hret (hb hby d292) (by decide) (by decide) (fun vq Cq => ⟨rfl, (((Keep.refl h0 [x]).wr W3 (Or.inl (List.mem_of_getElem? (i := 0) rfl))).wr W7 (Or.inl (List.mem_of_getElem? (i := 0) rfl))), f9, F7⟩)
theorem d294 : Dc y38_ 0 (.aload_n 0) 1 := by decide +kernel
theorem d295 : Dc y38_ 1 (.invokespecial 1) 3 := by decide +kernel
theorem d296 : Dc y38_ 4 (.aload_n 0) 1 := by decide +kernel
theorem d297 : Dc y38_ 5 (.aload_n 1) 1 := by decide +kernel
theorem d298 : Dc y38_ 6 (.putfield 7) 3 := by decide +kernel
theorem d299 : Dc y38_ 9 (.aload_n 0) 1 := by decide +kernel
theorem d300 : Dc y38_ 10 (.iload_n 2) 1 := by decide +kernel
theorem d301 : Dc y38_ 11 (.putfield 13) 3 := by decide +kernel
theorem d302 : Dc y38_ 14 (.return_) 1 := by decide +kernel
abbrev mn303 : MethodName := ⟨"java/util/ImmutableCollections$ListN", "<init>", "([Ljava/lang/Object;Z)V"⟩
theorem own_pn304 : plainName "java/util/ImmutableCollections$ListN" = true := by first | (simp [plainName, overriddenIn]; done) | decide +kernel
theorem own_lninit {l : Launch} {Z : State} {a0 : Array Value} (cx : Ctx Z a0) (x g : Addr) (u0 u1 : Value) (vm0 : Vm) (h0 : Heap) (X00 : Ext Z.heap h0) (P0 : Exa Z h0 x c22_) (P1 : Fld Z h0 x c22_ "elements" c4_ u0) (P2 : Fld Z h0 x c22_ c5_ "Z" u1) (P3 : Z.heap.size ≤ x) :
    Met l mn303 y38_ 3 none [] (Rm 4 0 0 48) Z consts_1 vm0 h0 #[(.ref x), (.ref g), (.int (0 : Int32))] (fun rv vm h => rv = none ∧ Keep h0 h [x] ∧ Fld Z h x c22_ "elements" c4_ (.ref g)) := by
  have hw := cx.1
  refine Met.of_walk (a0 := a0) #[vr x, vr g, vi (0 : Int32)] (plainFor_of_name own_pn304) X00 cx.2.1 (fun _ => rfl) ?_
  intro p e s m below meth c vm hx hby hml hret hnm hC0 hW0
  have lt_x : h0.size > x := P0.lt
  refine vAN 1 d294 ?_
  refine gmI (y := mn267) rfl (oz hw 516) (oz hw 444) (oz hw 447) (oz hw 228) (fun O => own_ailinit cx x vm h0 O ) 4 (argsL := []) (rest := []) (a := x) own_pd153 d295 ?_
  rintro _ vm1 h1 C1 z1 ⟨rfl, rfl⟩
  refine gat0 ?_
  refine vAN 5 d296 ?_
  refine vAN 6 d297 ?_
  refine gputF (host := "") hx (Or.inl (oz hw 240)) Via.refl P1 P0 (Or.inr ⟨(oz hw 241), rfl, hnm⟩) (oz hw 511) (ty := (.array (.object c12_))) (by decide) rfl rfl P3 (fun al => Safe.exa al P0 (by decide) (by decide)) 9 (hb hby d298) rfl ?_
  intro h2 W2 C2
  have z2 := C2.2.1
  have F2 := P1.same W2
  refine vAN 10 d299 ?_
  refine vIN 11 d300 ?_
  have f3 := (P2.other W2 (Or.inr (slot_ne (Or.inr (oz hw 521)) (Or.inr (oz hw 241)) (by decide) (t := .boolean) (t' := (.array (.object c12_))) (by decide) (by decide))))
  have f4 := (P0.wr W2)
  refine gputF (host := "") hx (Or.inl (oz hw 520)) Via.refl f3 f4 (Or.inr ⟨(oz hw 521), rfl, hnm⟩) (oz hw 511) (ty := .boolean) (by decide) rfl rfl P3 (fun al => Safe.exa al f4 (by decide) (by decide)) 14 (hb hby d301) rfl ?_
  intro h5 W5 C5
  have z5 := C5.2.1
  have F5 := f3.same W5
  have f7 := (F2.other W5 (Or.inr (slot_ne (Or.inr (oz hw 241)) (Or.inr (oz hw 521)) (by decide) (t := (.array (.object c12_))) (t' := .boolean) (by decide) (by decide))))
  exact gretV hx hret (hb hby d302) (by decide) (by decide) (fun vq Cq => ⟨rfl, (((Keep.refl h0 [x]).wr W2 (Or.inl (List.mem_of_getElem? (i := 0) rfl))).wr W5 (Or.inl (List.mem_of_getElem? (i := 0) rfl))), f7⟩)
theorem d305 : Dc y5_ 0 (.iload_n 0) 1 := by decide +kernel
theorem d306 : Dc y5_ 1 (.iload_n 1) 1 := by decide +kernel
theorem d307 : Dc y5_ 2 (.if_icmp .gt 7) 3 := by decide +kernel
theorem d308 : Dc y5_ 9 (.iload_n 1) 1 := by decide +kernel
theorem d309 : Dc y5_ 10 (.ireturn) 1 := by decide +kernel
abbrev mn310 : MethodName := ⟨"java/lang/Math", "min", "(II)I"⟩
theorem own_pn311 : plainFor mn310 = true := by first | decide +kernel | (simp [plainFor, plainName, overriddenIn]; done)
theorem own_min10_1 {l : Launch} {Z : State} {a0 : Array Value} (cx : Ctx Z a0)  (vm0 : Vm) (h0 : Heap) (X00 : Ext Z.heap h0)  :
    Met l mn310 y5_ 2 (some .int) [] (Rm 0 0 0 0) Z consts_1 vm0 h0 #[(.int (10 : Int32)), (.int (1 : Int32))] (fun rv vm h => rv = some (.int (1 : Int32)) ∧ h0 = h) := by
  have hw := cx.1
  refine Met.of_walk (a0 := a0) #[vi (10 : Int32), vi (1 : Int32)] own_pn311 X00 cx.2.1 (fun _ => rfl) ?_
  intro p e s m below meth c vm hx hby hml hret hnm hC0 hW0
  refine vIN 1 d305 ?_
  refine vIN 2 d306 ?_
  refine vYc 9 d307 (tlt (by decide)).2.2.1 ?_
  refine vIN 10 d308 ?_
  exact gretI hx hret (hb hby d309) (by decide) (by decide) (fun vq Cq => ⟨rfl, rfl⟩)
theorem d312 : Dc y54_ 0 (.aload_n 2) 1 := by decide +kernel
theorem d313 : Dc y54_ 1 (.ldc 110) 2 := by decide +kernel
theorem d314 : Dc y54_ 3 (.if_acmp .ne 10) 3 := by decide +kernel
theorem d315 : Dc y54_ 6 (.iload_n 1) 1 := by decide +kernel
theorem d316 : Dc y54_ 7 (.anewarray 2) 3 := by decide +kernel
theorem d317 : Dc y54_ 10 (.goto 14) 3 := by decide +kernel
theorem d318 : Dc y54_ 24 (.astore_n 3) 1 := by decide +kernel
theorem d319 : Dc y54_ 25 (.aload_n 0) 1 := by decide +kernel
theorem d320 : Dc y54_ 26 (.iconst 0) 1 := by decide +kernel
theorem d321 : Dc y54_ 27 (.aload_n 3) 1 := by decide +kernel
theorem d322 : Dc y54_ 28 (.iconst 0) 1 := by decide +kernel
theorem d323 : Dc y54_ 29 (.aload_n 0) 1 := by decide +kernel
theorem d324 : Dc y54_ 30 (.arraylength) 1 := by decide +kernel
theorem d325 : Dc y54_ 31 (.iload_n 1) 1 := by decide +kernel
theorem d326 : Dc y54_ 32 (.invokestatic 304) 3 := by decide +kernel
theorem d327 : Dc y54_ 35 (.invokestatic 150) 3 := by decide +kernel
theorem d328 : Dc y54_ 38 (.aload_n 3) 1 := by decide +kernel
theorem d329 : Dc y54_ 39 (.areturn) 1 := by decide +kernel
abbrev mn330 : MethodName := ⟨"java/util/Arrays", "copyOf", "([Ljava/lang/Object;ILjava/lang/Class;)[Ljava/lang/Object;"⟩
theorem own_pn331 : plainName "java/util/Arrays" = true := by first | (simp [plainName, overriddenIn]; done) | decide +kernel
theorem own_cp3_1 {l : Launch} {Z : State} {a0 : Array Value} (cx : Ctx Z a0) (d : Addr) (kc : ClassId) (s0_ : Addr) {dz el ee em mr : Addr} {kd ke : ClassId} (vm0 : Vm) (h0 : Heap) (X00 : Ext Z.heap h0) (P0 : Arv Z h0 d kc (.object c12_) (10 : Int32) [(.ref s0_), .null, .null, .null, .null, .null, .null, .null, .null, .null] .null) (P1 : Exa Z h0 s0_ c13_) (hL : (OwnL Z dz el ee em mr kd ke)) :
    Met l mn330 y54_ 4 (some (.array (.object c12_))) [] (Rm 1 1 1 18) Z consts_1 vm0 h0 #[(.ref d), (.int (1 : Int32)), (.ref mr)] (fun rv vm h => ∃ (r : Addr), ∃ (kr : ClassId), rv = some (.ref r) ∧ Keep h0 h [] ∧ h0.size ≤ r ∧ Arv Z h r kr (.object c12_) (1 : Int32) [(.ref s0_)] .null) := by
  have hw := cx.1
  refine Met.of_walk (a0 := a0) #[vr d, vi (1 : Int32), vr mr, un] (plainFor_of_name own_pn331) X00 cx.2.1 (fun _ => rfl) ?_
  intro p e s m below meth c vm hx hby hml hret hnm hC0 hW0
  have lt_d : h0.size > d := P0.lt
  have lt_s0_ : h0.size > s0_ := P1.lt
  obtain ⟨Sdz, Edz, Vdz, Sel, Eel, Fee, Vee, Fan, Sem, Eem, Mmr⟩ := id hL
  refine vAN 1 d312 ?_
  refine gldcM hx (oz hw 431) Mmr 3 (hb hby d313) rfl ?_
  refine gx (mkF m 6 #[vr d, vi (1 : Int32), vr mr, un] []) (fun T locs X _ _ _ _ kq => Jvm.RoadKit.acmp (g := (mkF m 3 #[vr d, vi (1 : Int32), vr mr, un] [(.ref mr), (.ref mr)])) X hx rfl rfl rfl (pc0 := 3) (pc' := 6) (same := true) rfl (hb hby d314) rfl (decide_eq_true rfl) (by decide) (by decide) kq) ?_
  refine vIN 7 d315 ?_
  refine gnewR hx (oz hw 432) (oz hw 394) (n := (1 : Int32)) (by decide) (cap := 1) (by decide) (by decide) (ad := c4_) (by decide) 10 (hb hby d316) rfl (by decide) (by decide) ?_
  intro b2 h2 k2 g2 E2 C2 V2 A2 O2 n2 L2
  have z2 := C2.2.1
  have V2 : Arv Z h2 b2 k2 (.object c12_) (1 : Int32) [.null] .null := V2.pad (pad_rep [] .null 1)
  have lt_b2 : h2.size > b2 := V2.lt
  refine vG 24 d317 ?_
  refine vSAN 25 #[vr d, vi (1 : Int32), vr mr, vr b2] d318 ?_
  refine vAN 26 d319 ?_
  refine vKc 27 (0 : Int32) d320 ?_
  refine vAN 28 d321 ?_
  refine vKc 29 (0 : Int32) d322 ?_
  refine vAN 30 d323 ?_
  have f3 := (P0.ext E2)
  refine glen hx f3 31 (hb hby d324) rfl ?_
  refine vIN 32 d325 ?_
  refine gmS (y := mn310) (oz hw 304) (oz hw 305) (oz hw 307) (oz hw 306) (fun O => own_min10_1 cx  vm h2 O ) 35 (argsL := [(.int (10 : Int32)), (.int (1 : Int32))]) (rest := [(.int (0 : Int32)), (.ref b2), (.int (0 : Int32)), (.ref d)]) own_pd190 d326 ?_
  rintro _ vm4 h4 C4 z4 ⟨rfl, rfl⟩
  refine gat1 ?_
  have f6 := (P1.ext E2)
  have f7 := (C4.sf L2)
  refine gcopyR hx (oz hw 308) (oz hw 209) (oz hw 207) (oz hw 208) (0) (0) (1) (10) (1) f3 V2 rfl rfl rfl rfl rfl (by decide) (by decide) (by decide) (by decide) rfl rfl (show StoL _ _ _ [(.ref s0_)] from ⟨Arv.sto V2 O2 (Ins.of_exa f6 (oz hw 395)), trivial⟩) n2 (fun _ => f7) 38 (W := 0) (Nat.le_of_eq rfl) (by rw [hml]; rfl) (hb hby d327) rfl (by decide) (by decide) ?_
  intro h5 K5 C5 V5
  have z5 := C5.2.1
  replace V5 : Arv Z h5 b2 k2 (.object c12_) (1 : Int32) [(.ref s0_)] .null := V5
  refine vAN 39 d328 ?_
  exact gretA hx hret rfl rfl (hb hby d329) (by decide) (by decide) (fun vq Cq => ⟨b2, k2, rfl, (((Keep.refl h0 []).ext E2).trans K5 (allS (Or.inr (by omega)) all0)), (by omega), V5⟩)
theorem d332 : Dc y53_ 0 (.aload_n 0) 1 := by decide +kernel
theorem d333 : Dc y53_ 1 (.iload_n 1) 1 := by decide +kernel
theorem d334 : Dc y53_ 2 (.aload_n 0) 1 := by decide +kernel
theorem d335 : Dc y53_ 3 (.invokevirtual 86) 3 := by decide +kernel
theorem d336 : Dc y53_ 6 (.invokestatic 300) 3 := by decide +kernel
theorem own_pd337 : parseMethodDescriptor "([Ljava/lang/Object;ILjava/lang/Class;)[Ljava/lang/Object;" = some ⟨[(.array (.object "java/lang/Object")), .int, (.object "java/lang/Class")], some (.array (.object "java/lang/Object"))⟩ := by decide +kernel
theorem d338 : Dc y53_ 9 (.areturn) 1 := by decide +kernel
abbrev mn339 : MethodName := ⟨"java/util/Arrays", "copyOf", "([Ljava/lang/Object;I)[Ljava/lang/Object;"⟩
theorem own_cp2_1 {l : Launch} {Z : State} {a0 : Array Value} (cx : Ctx Z a0) (d : Addr) (kc : ClassId) (s0_ : Addr) {dz el ee em mr : Addr} {kd ke : ClassId} (vm0 : Vm) (h0 : Heap) (X00 : Ext Z.heap h0) (P0 : Arv Z h0 d kc (.object c12_) (10 : Int32) [(.ref s0_), .null, .null, .null, .null, .null, .null, .null, .null, .null] .null) (P1 : Exa Z h0 d c4_) (P2 : Exa Z h0 s0_ c13_) (hL : (OwnL Z dz el ee em mr kd ke)) :
    Met l mn339 y53_ 2 (some (.array (.object c12_))) [] (Rm 2 1 1 33) Z consts_1 vm0 h0 #[(.ref d), (.int (1 : Int32))] (fun rv vm h => ∃ (r : Addr), ∃ (kr : ClassId), rv = some (.ref r) ∧ Keep h0 h [] ∧ h0.size ≤ r ∧ Arv Z h r kr (.object c12_) (1 : Int32) [(.ref s0_)] .null) := by
  have hw := cx.1
  refine Met.of_walk (a0 := a0) #[vr d, vi (1 : Int32)] (plainFor_of_name own_pn331) X00 cx.2.1 (fun _ => rfl) ?_
  intro p e s m below meth c vm hx hby hml hret hnm hC0 hW0
  have lt_d : h0.size > d := P0.lt
  have lt_s0_ : h0.size > s0_ := P2.lt
  obtain ⟨Sdz, Edz, Vdz, Sel, Eel, Fee, Vee, Fan, Sem, Eem, Mmr⟩ := id hL
  refine vAN 1 d332 ?_
  refine vIN 2 d333 ?_
  refine vAN 3 d334 ?_
  refine ggcls hx (oz hw 422) (oz hw 423) (oz hw 119) (oz hw 425) (oz hw 424) (oz hw 426) P1 Mmr 6 (W := 2) (Nat.le_of_eq rfl) (by rw [hml]; rfl) (hb hby d335) rfl (by decide) (by decide) ?_
  refine gmS (y := mn330) (oz hw 428) (oz hw 429) (oz hw 430) (oz hw 296) (fun O => own_cp3_1 cx d kc s0_ vm h0 O P0 P2 (by first | assumption | decide | omega)) 9 (argsL := [(.ref d), (.int (1 : Int32)), (.ref mr)]) (rest := []) own_pd337 d336 ?_
  rintro _ vm2 h2 C2 z2 ⟨r2, kr2, rfl, K2, q2_0, q2_1⟩
  have lt_r2 : h2.size > r2 := q2_1.lt
  refine gat1 ?_
  exact gretA hx hret rfl rfl (hb hby d338) (by decide) (by decide) (fun vq Cq => ⟨r2, kr2, rfl, ((Keep.refl h0 []).trans K2 all0), (by omega), q2_1⟩)
theorem d340 : Dc y7_ 0 (.aload_n 0) 1 := by decide +kernel
theorem d341 : Dc y7_ 1 (.getfield 9) 3 := by decide +kernel
theorem d342 : Dc y7_ 4 (.aload_n 0) 1 := by decide +kernel
theorem d343 : Dc y7_ 5 (.getfield 48) 3 := by decide +kernel
theorem d344 : Dc y7_ 8 (.invokestatic 66) 3 := by decide +kernel
theorem own_pd345 : parseMethodDescriptor "([Ljava/lang/Object;I)[Ljava/lang/Object;" = some ⟨[(.array (.object "java/lang/Object")), .int], some (.array (.object "java/lang/Object"))⟩ := by decide +kernel
theorem d346 : Dc y7_ 11 (.areturn) 1 := by decide +kernel
abbrev mn347 : MethodName := ⟨"java/util/ArrayList", "toArray", "()[Ljava/lang/Object;"⟩
theorem own_toarr1 {l : Launch} {Z : State} {a0 : Array Value} (cx : Ctx Z a0) (x d : Addr) (kc : ClassId) (s0_ : Addr) {dz el ee em mr : Addr} {kd ke : ClassId} (vm0 : Vm) (h0 : Heap) (X00 : Ext Z.heap h0) (P0 : Exa Z h0 x c17_) (P1 : Fld Z h0 x c17_ c7_ c4_ (.ref d)) (P2 : Fld Z h0 x c17_ "size" "I" (.int (1 : Int32))) (P3 : Arv Z h0 d kc (.object c12_) (10 : Int32) [(.ref s0_), .null, .null, .null, .null, .null, .null, .null, .null, .null] .null) (P4 : Exa Z h0 d c4_) (hov : (Ovr Z kc c12_)) (P6 : Exa Z h0 s0_ c13_) (hL : (OwnL Z dz el ee em mr kd ke)) :
    Met l mn347 y7_ 1 (some (.array (.object c12_))) [] (Rm 3 1 1 46) Z consts_1 vm0 h0 #[(.ref x)] (fun rv vm h => ∃ (r : Addr), ∃ (kr : ClassId), rv = some (.ref r) ∧ Keep h0 h [] ∧ h0.size ≤ r ∧ Arv Z h r kr (.object c12_) (1 : Int32) [(.ref s0_)] .null) := by
  have hw := cx.1
  refine Met.of_walk (a0 := a0) #[vr x] (plainFor_of_name own_pn167) X00 cx.2.1 (fun _ => rfl) ?_
  intro p e s m below meth c vm hx hby hml hret hnm hC0 hW0
  have lt_x : h0.size > x := P0.lt
  have lt_d : h0.size > d := P3.lt
  have lt_s0_ : h0.size > s0_ := P6.lt
  refine vAN 1 d340 ?_
  refine gF (oz hw 56) P1 4 d341 ?_
  refine vAN 5 d342 ?_
  refine gF (oz hw 130) P2 8 d343 ?_
  refine gmS (y := mn339) (oz hw 419) (oz hw 420) (oz hw 421) (oz hw 296) (fun O => own_cp2_1 cx d kc s0_ vm h0 O P3 P4 P6 (by first | assumption | decide | omega)) 11 (argsL := [(.ref d), (.int (1 : Int32))]) (rest := []) own_pd345 d344 ?_
  rintro _ vm1 h1 C1 z1 ⟨r1, kr1, rfl, K1, q1_0, q1_1⟩
  have lt_r1 : h1.size > r1 := q1_1.lt
  refine gat1 ?_
  exact gretA hx hret rfl rfl (hb hby d346) (by decide) (by decide) (fun vq Cq => ⟨r1, kr1, rfl, ((Keep.refl h0 []).trans K1 all0), (by omega), q1_1⟩)
theorem d348 : Dc y16_ 0 (.aload_n 0) 1 := by decide +kernel
theorem d349 : Dc y16_ 1 (.arraylength) 1 := by decide +kernel
theorem d350 : Dc y16_ 2 (.tableswitch 57 0 2 #[26, 32, 43]) 26 := by decide +kernel
theorem d351 : Dc y16_ 34 (.new 96) 3 := by decide +kernel
theorem d352 : Dc y16_ 37 (.dup) 1 := by decide +kernel
theorem d353 : Dc y16_ 38 (.aload_n 0) 1 := by decide +kernel
theorem d354 : Dc y16_ 39 (.iconst 0) 1 := by decide +kernel
theorem d355 : Dc y16_ 40 (.aaload) 1 := by decide +kernel
theorem d356 : Dc y16_ 41 (.invokespecial 98) 3 := by decide +kernel
theorem own_pd357 : parseMethodDescriptor "(Ljava/lang/Object;)V" = some ⟨[(.object "java/lang/Object")], none⟩ := by decide +kernel
theorem d358 : Dc y16_ 44 (.areturn) 1 := by decide +kernel
abbrev mn359 : MethodName := ⟨"java/util/List", "of", "([Ljava/lang/Object;)Ljava/util/List;"⟩
theorem own_of1 {l : Launch} {Z : State} {a0 : Array Value} (cx : Ctx Z a0) (a : Addr) (ka : ClassId) (s0_ : Addr) {dz el ee em mr : Addr} {kd ke : ClassId} (vm0 : Vm) (h0 : Heap) (X00 : Ext Z.heap h0) (P0 : Arv Z h0 a ka (.object c12_) (1 : Int32) [(.ref s0_)] .null) (P1 : Exa Z h0 s0_ c13_) (hL : (OwnL Z dz el ee em mr kd ke)) :
    Met l mn359 y16_ 2 (some (.object c24_)) [] (Rm 5 1 2 62) Z consts_1 vm0 h0 #[(.ref a)] (fun rv vm h => ∃ (r : Addr), rv = some (.ref r) ∧ Keep h0 h [] ∧ h0.size ≤ r ∧ Exa Z h r c20_ ∧ Fld Z h r c20_ "e0" c0_ (.ref s0_) ∧ Fld Z h r c20_ "e1" c0_ (.ref em)) := by
  have hw := cx.1
  refine Met.of_walk (a0 := a0) #[vr a, un] (plainFor_of_name own_pn252) X00 cx.2.1 (fun _ => rfl) ?_
  intro p e s m below meth c vm hx hby hml hret hnm hC0 hW0
  have lt_a : h0.size > a := P0.lt
  have lt_s0_ : h0.size > s0_ := P1.lt
  refine vAN 1 d348 ?_
  refine glen hx P0 2 (hb hby d349) rfl ?_
  refine gx (mkF m 34 #[vr a, un] []) (fun T locs X _ _ _ target kq => X.tableswitchIn hx (g := (mkF m 2 #[vr a, un] [(.int (1 : Int32))])) rfl rfl (hb hby d350) (by decide) (off := 32) rfl (show (0 : Int) ≤ ((2 : Nat) : Int) + 32 by decide) target kq) ?_
  refine gnewO hx (oz hw 436) (oz hw 437) (oz hw 438) 37 (hb hby d351) rfl (by decide) (by decide) ?_
  intro b1 h1 g1 E1 C1 A1 D1 n1 L1
  have z1 := C1.2.1
  have lt_b1 : h1.size > b1 := A1.lt
  have F1_e0 : Fld Z h1 b1 c20_ "e0" c0_ .null := D1 (Or.inr (oz hw 461)) (ty := (.object c12_)) (by decide)
  have F1_e1 : Fld Z h1 b1 c20_ "e1" c0_ .null := D1 (Or.inr (oz hw 463)) (ty := (.object c12_)) (by decide)
  refine vD 38 d352 ?_
  refine vAN 39 d353 ?_
  refine vKc 40 (0 : Int32) d354 ?_
  have f2 := (P0.ext E1)
  refine gldR hx f2 ⟨by decide, by decide⟩ (i := 0) rfl (v := (.ref s0_)) rfl 41 (hb hby d355) rfl ?_
  refine gmI (y := mn280) rfl (oz hw 528) (oz hw 529) (oz hw 530) (oz hw 438) (fun O => own_l12a cx b1 s0_ (.null) (.null) vm h1 O A1 F1_e0 F1_e1 n1 (by first | assumption | decide | omega)) 44 (argsL := [(.ref s0_)]) (rest := [(.ref b1)]) (a := b1) own_pd357 d356 ?_
  rintro _ vm3 h3 C3 z3 ⟨rfl, K3, q3_0, q3_1⟩
  refine gat0 ?_
  have f5 := (A1.keep K3)
  exact gretA hx hret rfl rfl (hb hby d358) (by decide) (by decide) (fun vq Cq => ⟨b1, rfl, (((Keep.refl h0 []).ext E1).trans K3 (allS (Or.inr (by omega)) all0)), (by omega), f5, q3_0, q3_1⟩)
theorem own_min10_2 {l : Launch} {Z : State} {a0 : Array Value} (cx : Ctx Z a0)  (vm0 : Vm) (h0 : Heap) (X00 : Ext Z.heap h0)  :
    Met l mn310 y5_ 2 (some .int) [] (Rm 0 0 0 0) Z consts_1 vm0 h0 #[(.int (10 : Int32)), (.int (2 : Int32))] (fun rv vm h => rv = some (.int (2 : Int32)) ∧ h0 = h) := by
  have hw := cx.1
  refine Met.of_walk (a0 := a0) #[vi (10 : Int32), vi (2 : Int32)] own_pn311 X00 cx.2.1 (fun _ => rfl) ?_
  intro p e s m below meth c vm hx hby hml hret hnm hC0 hW0
  refine vIN 1 d305 ?_
  refine vIN 2 d306 ?_
  refine vYc 9 d307 (tlt (by decide)).2.2.1 ?_
  refine vIN 10 d308 ?_
  exact gretI hx hret (hb hby d309) (by decide) (by decide) (fun vq Cq => ⟨rfl, rfl⟩)
theorem own_cp3_2 {l : Launch} {Z : State} {a0 : Array Value} (cx : Ctx Z a0) (d : Addr) (kc : ClassId) (s0_ s1_ : Addr) {dz el ee em mr : Addr} {kd ke : ClassId} (vm0 : Vm) (h0 : Heap) (X00 : Ext Z.heap h0) (P0 : Arv Z h0 d kc (.object c12_) (10 : Int32) [(.ref s0_), (.ref s1_), .null, .null, .null, .null, .null, .null, .null, .null] .null) (P1 : Exa Z h0 s0_ c13_) (P2 : Exa Z h0 s1_ c13_) (hL : (OwnL Z dz el ee em mr kd ke)) :
    Met l mn330 y54_ 4 (some (.array (.object c12_))) [] (Rm 1 1 2 18) Z consts_1 vm0 h0 #[(.ref d), (.int (2 : Int32)), (.ref mr)] (fun rv vm h => ∃ (r : Addr), ∃ (kr : ClassId), rv = some (.ref r) ∧ Keep h0 h [] ∧ h0.size ≤ r ∧ Arv Z h r kr (.object c12_) (2 : Int32) [(.ref s0_), (.ref s1_)] .null) := by
  have hw := cx.1
  refine Met.of_walk (a0 := a0) #[vr d, vi (2 : Int32), vr mr, un] (plainFor_of_name own_pn331) X00 cx.2.1 (fun _ => rfl) ?_
  intro p e s m below meth c vm hx hby hml hret hnm hC0 hW0
  have lt_d : h0.size > d := P0.lt
  have lt_s0_ : h0.size > s0_ := P1.lt
  have lt_s1_ : h0.size > s1_ := P2.lt
  obtain ⟨Sdz, Edz, Vdz, Sel, Eel, Fee, Vee, Fan, Sem, Eem, Mmr⟩ := id hL
  refine vAN 1 d312 ?_
  refine gldcM hx (oz hw 431) Mmr 3 (hb hby d313) rfl ?_
  refine gx (mkF m 6 #[vr d, vi (2 : Int32), vr mr, un] []) (fun T locs X _ _ _ _ kq => Jvm.RoadKit.acmp (g := (mkF m 3 #[vr d, vi (2 : Int32), vr mr, un] [(.ref mr), (.ref mr)])) X hx rfl rfl rfl (pc0 := 3) (pc' := 6) (same := true) rfl (hb hby d314) rfl (decide_eq_true rfl) (by decide) (by decide) kq) ?_
  refine vIN 7 d315 ?_
  refine gnewR hx (oz hw 432) (oz hw 394) (n := (2 : Int32)) (by decide) (cap := 2) (by decide) (by decide) (ad := c4_) (by decide) 10 (hb hby d316) rfl (by decide) (by decide) ?_
  intro b2 h2 k2 g2 E2 C2 V2 A2 O2 n2 L2
  have z2 := C2.2.1
  have V2 : Arv Z h2 b2 k2 (.object c12_) (2 : Int32) [.null, .null] .null := V2.pad (pad_rep [] .null 2)
  have lt_b2 : h2.size > b2 := V2.lt
  refine vG 24 d317 ?_
  refine vSAN 25 #[vr d, vi (2 : Int32), vr mr, vr b2] d318 ?_
  refine vAN 26 d319 ?_
  refine vKc 27 (0 : Int32) d320 ?_
  refine vAN 28 d321 ?_
  refine vKc 29 (0 : Int32) d322 ?_
  refine vAN 30 d323 ?_
  have f3 := (P0.ext E2)
  refine glen hx f3 31 (hb hby d324) rfl ?_
  refine vIN 32 d325 ?_
  refine gmS (y := mn310) (oz hw 304) (oz hw 305) (oz hw 307) (oz hw 306) (fun O => own_min10_2 cx  vm h2 O ) 35 (argsL := [(.int (10 : Int32)), (.int (2 : Int32))]) (rest := [(.int (0 : Int32)), (.ref b2), (.int (0 : Int32)), (.ref d)]) own_pd190 d326 ?_
  rintro _ vm4 h4 C4 z4 ⟨rfl, rfl⟩
  refine gat1 ?_
  have f6 := (P1.ext E2)
  have f7 := (P2.ext E2)
  have f8 := (C4.sf L2)
  refine gcopyR hx (oz hw 308) (oz hw 209) (oz hw 207) (oz hw 208) (0) (0) (2) (10) (2) f3 V2 rfl rfl rfl rfl rfl (by decide) (by decide) (by decide) (by decide) rfl rfl (show StoL _ _ _ [(.ref s0_), (.ref s1_)] from ⟨Arv.sto V2 O2 (Ins.of_exa f6 (oz hw 395)), Arv.sto V2 O2 (Ins.of_exa f7 (oz hw 395)), trivial⟩) n2 (fun _ => f8) 38 (W := 0) (Nat.le_of_eq rfl) (by rw [hml]; rfl) (hb hby d327) rfl (by decide) (by decide) ?_
  intro h5 K5 C5 V5
  have z5 := C5.2.1
  replace V5 : Arv Z h5 b2 k2 (.object c12_) (2 : Int32) [(.ref s0_), (.ref s1_)] .null := V5
  refine vAN 39 d328 ?_
  exact gretA hx hret rfl rfl (hb hby d329) (by decide) (by decide) (fun vq Cq => ⟨b2, k2, rfl, (((Keep.refl h0 []).ext E2).trans K5 (allS (Or.inr (by omega)) all0)), (by omega), V5⟩)
theorem own_cp2_2 {l : Launch} {Z : State} {a0 : Array Value} (cx : Ctx Z a0) (d : Addr) (kc : ClassId) (s0_ s1_ : Addr) {dz el ee em mr : Addr} {kd ke : ClassId} (vm0 : Vm) (h0 : Heap) (X00 : Ext Z.heap h0) (P0 : Arv Z h0 d kc (.object c12_) (10 : Int32) [(.ref s0_), (.ref s1_), .null, .null, .null, .null, .null, .null, .null, .null] .null) (P1 : Exa Z h0 d c4_) (P2 : Exa Z h0 s0_ c13_) (P3 : Exa Z h0 s1_ c13_) (hL : (OwnL Z dz el ee em mr kd ke)) :
    Met l mn339 y53_ 2 (some (.array (.object c12_))) [] (Rm 2 1 2 33) Z consts_1 vm0 h0 #[(.ref d), (.int (2 : Int32))] (fun rv vm h => ∃ (r : Addr), ∃ (kr : ClassId), rv = some (.ref r) ∧ Keep h0 h [] ∧ h0.size ≤ r ∧ Arv Z h r kr (.object c12_) (2 : Int32) [(.ref s0_), (.ref s1_)] .null) := by
  have hw := cx.1
  refine Met.of_walk (a0 := a0) #[vr d, vi (2 : Int32)] (plainFor_of_name own_pn331) X00 cx.2.1 (fun _ => rfl) ?_
  intro p e s m below meth c vm hx hby hml hret hnm hC0 hW0
  have lt_d : h0.size > d := P0.lt
  have lt_s0_ : h0.size > s0_ := P2.lt
  have lt_s1_ : h0.size > s1_ := P3.lt
  obtain ⟨Sdz, Edz, Vdz, Sel, Eel, Fee, Vee, Fan, Sem, Eem, Mmr⟩ := id hL
  refine vAN 1 d332 ?_
  refine vIN 2 d333 ?_
  refine vAN 3 d334 ?_
  refine ggcls hx (oz hw 422) (oz hw 423) (oz hw 119) (oz hw 425) (oz hw 424) (oz hw 426) P1 Mmr 6 (W := 2) (Nat.le_of_eq rfl) (by rw [hml]; rfl) (hb hby d335) rfl (by decide) (by decide) ?_
  refine gmS (y := mn330) (oz hw 428) (oz hw 429) (oz hw 430) (oz hw 296) (fun O => own_cp3_2 cx d kc s0_ s1_ vm h0 O P0 P2 P3 (by first | assumption | decide | omega)) 9 (argsL := [(.ref d), (.int (2 : Int32)), (.ref mr)]) (rest := []) own_pd337 d336 ?_
  rintro _ vm2 h2 C2 z2 ⟨r2, kr2, rfl, K2, q2_0, q2_1⟩
  have lt_r2 : h2.size > r2 := q2_1.lt
  refine gat1 ?_
  exact gretA hx hret rfl rfl (hb hby d338) (by decide) (by decide) (fun vq Cq => ⟨r2, kr2, rfl, ((Keep.refl h0 []).trans K2 all0), (by omega), q2_1⟩)
theorem own_toarr2 {l : Launch} {Z : State} {a0 : Array Value} (cx : Ctx Z a0) (x d : Addr) (kc : ClassId) (s0_ s1_ : Addr) {dz el ee em mr : Addr} {kd ke : ClassId} (vm0 : Vm) (h0 : Heap) (X00 : Ext Z.heap h0) (P0 : Exa Z h0 x c17_) (P1 : Fld Z h0 x c17_ c7_ c4_ (.ref d)) (P2 : Fld Z h0 x c17_ "size" "I" (.int (2 : Int32))) (P3 : Arv Z h0 d kc (.object c12_) (10 : Int32) [(.ref s0_), (.ref s1_), .null, .null, .null, .null, .null, .null, .null, .null] .null) (P4 : Exa Z h0 d c4_) (hov : (Ovr Z kc c12_)) (P6 : Exa Z h0 s0_ c13_) (P7 : Exa Z h0 s1_ c13_) (hL : (OwnL Z dz el ee em mr kd ke)) :
    Met l mn347 y7_ 1 (some (.array (.object c12_))) [] (Rm 3 1 2 46) Z consts_1 vm0 h0 #[(.ref x)] (fun rv vm h => ∃ (r : Addr), ∃ (kr : ClassId), rv = some (.ref r) ∧ Keep h0 h [] ∧ h0.size ≤ r ∧ Arv Z h r kr (.object c12_) (2 : Int32) [(.ref s0_), (.ref s1_)] .null) := by
  have hw := cx.1
  refine Met.of_walk (a0 := a0) #[vr x] (plainFor_of_name own_pn167) X00 cx.2.1 (fun _ => rfl) ?_
  intro p e s m below meth c vm hx hby hml hret hnm hC0 hW0
  have lt_x : h0.size > x := P0.lt
  have lt_d : h0.size > d := P3.lt
  have lt_s0_ : h0.size > s0_ := P6.lt
  have lt_s1_ : h0.size > s1_ := P7.lt
  refine vAN 1 d340 ?_
  refine gF (oz hw 56) P1 4 d341 ?_
  refine vAN 5 d342 ?_
  refine gF (oz hw 130) P2 8 d343 ?_
  refine gmS (y := mn339) (oz hw 419) (oz hw 420) (oz hw 421) (oz hw 296) (fun O => own_cp2_2 cx d kc s0_ s1_ vm h0 O P3 P4 P6 P7 (by first | assumption | decide | omega)) 11 (argsL := [(.ref d), (.int (2 : Int32))]) (rest := []) own_pd345 d344 ?_
  rintro _ vm1 h1 C1 z1 ⟨r1, kr1, rfl, K1, q1_0, q1_1⟩
  have lt_r1 : h1.size > r1 := q1_1.lt
  refine gat1 ?_
  exact gretA hx hret rfl rfl (hb hby d346) (by decide) (by decide) (fun vq Cq => ⟨r1, kr1, rfl, ((Keep.refl h0 []).trans K1 all0), (by omega), q1_1⟩)
theorem d360 : Dc y16_ 45 (.new 96) 3 := by decide +kernel
theorem d361 : Dc y16_ 48 (.dup) 1 := by decide +kernel
theorem d362 : Dc y16_ 49 (.aload_n 0) 1 := by decide +kernel
theorem d363 : Dc y16_ 50 (.iconst 0) 1 := by decide +kernel
theorem d364 : Dc y16_ 51 (.aaload) 1 := by decide +kernel
theorem d365 : Dc y16_ 52 (.aload_n 0) 1 := by decide +kernel
theorem d366 : Dc y16_ 53 (.iconst 1) 1 := by decide +kernel
theorem d367 : Dc y16_ 54 (.aaload) 1 := by decide +kernel
theorem d368 : Dc y16_ 55 (.invokespecial 100) 3 := by decide +kernel
theorem own_pd369 : parseMethodDescriptor "(Ljava/lang/Object;Ljava/lang/Object;)V" = some ⟨[(.object "java/lang/Object"), (.object "java/lang/Object")], none⟩ := by decide +kernel
theorem d370 : Dc y16_ 58 (.areturn) 1 := by decide +kernel
theorem own_of2 {l : Launch} {Z : State} {a0 : Array Value} (cx : Ctx Z a0) (a : Addr) (ka : ClassId) (s0_ s1_ : Addr) {dz el ee em mr : Addr} {kd ke : ClassId} (vm0 : Vm) (h0 : Heap) (X00 : Ext Z.heap h0) (P0 : Arv Z h0 a ka (.object c12_) (2 : Int32) [(.ref s0_), (.ref s1_)] .null) (P1 : Exa Z h0 s0_ c13_) (P2 : Exa Z h0 s1_ c13_) (hL : (OwnL Z dz el ee em mr kd ke)) :
    Met l mn359 y16_ 2 (some (.object c24_)) [] (Rm 5 1 2 63) Z consts_1 vm0 h0 #[(.ref a)] (fun rv vm h => ∃ (r : Addr), rv = some (.ref r) ∧ Keep h0 h [] ∧ h0.size ≤ r ∧ Exa Z h r c20_ ∧ Fld Z h r c20_ "e0" c0_ (.ref s0_) ∧ Fld Z h r c20_ "e1" c0_ (.ref s1_)) := by
  have hw := cx.1
  refine Met.of_walk (a0 := a0) #[vr a, un] (plainFor_of_name own_pn252) X00 cx.2.1 (fun _ => rfl) ?_
  intro p e s m below meth c vm hx hby hml hret hnm hC0 hW0
  have lt_a : h0.size > a := P0.lt
  have lt_s0_ : h0.size > s0_ := P1.lt
  have lt_s1_ : h0.size > s1_ := P2.lt
  refine vAN 1 d348 ?_
  refine glen hx P0 2 (hb hby d349) rfl ?_
  refine gx (mkF m 45 #[vr a, un] []) (fun T locs X _ _ _ target kq => X.tableswitchIn hx (g := (mkF m 2 #[vr a, un] [(.int (2 : Int32))])) rfl rfl (hb hby d350) (by decide) (off := 43) rfl (show (0 : Int) ≤ ((2 : Nat) : Int) + 43 by decide) target kq) ?_
  refine gnewO hx (oz hw 436) (oz hw 437) (oz hw 438) 48 (hb hby d360) rfl (by decide) (by decide) ?_
  intro b1 h1 g1 E1 C1 A1 D1 n1 L1
  have z1 := C1.2.1
  have lt_b1 : h1.size > b1 := A1.lt
  have F1_e0 : Fld Z h1 b1 c20_ "e0" c0_ .null := D1 (Or.inr (oz hw 461)) (ty := (.object c12_)) (by decide)
  have F1_e1 : Fld Z h1 b1 c20_ "e1" c0_ .null := D1 (Or.inr (oz hw 463)) (ty := (.object c12_)) (by decide)
  refine vD 49 d361 ?_
  refine vAN 50 d362 ?_
  refine vKc 51 (0 : Int32) d363 ?_
  have f2 := (P0.ext E1)
  refine gldR hx f2 ⟨by decide, by decide⟩ (i := 0) rfl (v := (.ref s0_)) rfl 52 (hb hby d364) rfl ?_
  refine vAN 53 d365 ?_
  refine vKc 54 (1 : Int32) d366 ?_
  refine gldR hx f2 ⟨by decide, by decide⟩ (i := 1) rfl (v := (.ref s1_)) rfl 55 (hb hby d367) rfl ?_
  refine gmI (y := mn293) rfl (oz hw 439) (oz hw 440) (oz hw 442) (oz hw 438) (fun O => own_l12b cx b1 s0_ s1_ (.null) (.null) vm h1 O A1 F1_e0 F1_e1 n1) 58 (argsL := [(.ref s0_), (.ref s1_)]) (rest := [(.ref b1)]) (a := b1) own_pd369 d368 ?_
  rintro _ vm3 h3 C3 z3 ⟨rfl, K3, q3_0, q3_1⟩
  refine gat0 ?_
  have f5 := (A1.keep K3)
  exact gretA hx hret rfl rfl (hb hby d370) (by decide) (by decide) (fun vq Cq => ⟨b1, rfl, (((Keep.refl h0 []).ext E1).trans K3 (allS (Or.inr (by omega)) all0)), (by omega), f5, q3_0, q3_1⟩)
theorem own_min10_3 {l : Launch} {Z : State} {a0 : Array Value} (cx : Ctx Z a0)  (vm0 : Vm) (h0 : Heap) (X00 : Ext Z.heap h0)  :
    Met l mn310 y5_ 2 (some .int) [] (Rm 0 0 0 0) Z consts_1 vm0 h0 #[(.int (10 : Int32)), (.int (3 : Int32))] (fun rv vm h => rv = some (.int (3 : Int32)) ∧ h0 = h) := by
  have hw := cx.1
  refine Met.of_walk (a0 := a0) #[vi (10 : Int32), vi (3 : Int32)] own_pn311 X00 cx.2.1 (fun _ => rfl) ?_
  intro p e s m below meth c vm hx hby hml hret hnm hC0 hW0
  refine vIN 1 d305 ?_
  refine vIN 2 d306 ?_
  refine vYc 9 d307 (tlt (by decide)).2.2.1 ?_
  refine vIN 10 d308 ?_
  exact gretI hx hret (hb hby d309) (by decide) (by decide) (fun vq Cq => ⟨rfl, rfl⟩)
theorem own_cp3_3 {l : Launch} {Z : State} {a0 : Array Value} (cx : Ctx Z a0) (d : Addr) (kc : ClassId) (s0_ s1_ s2_ : Addr) {dz el ee em mr : Addr} {kd ke : ClassId} (vm0 : Vm) (h0 : Heap) (X00 : Ext Z.heap h0) (P0 : Arv Z h0 d kc (.object c12_) (10 : Int32) [(.ref s0_), (.ref s1_), (.ref s2_), .null, .null, .null, .null, .null, .null, .null] .null) (P1 : Exa Z h0 s0_ c13_) (P2 : Exa Z h0 s1_ c13_) (P3 : Exa Z h0 s2_ c13_) (hL : (OwnL Z dz el ee em mr kd ke)) :
    Met l mn330 y54_ 4 (some (.array (.object c12_))) [] (Rm 1 1 3 18) Z consts_1 vm0 h0 #[(.ref d), (.int (3 : Int32)), (.ref mr)] (fun rv vm h => ∃ (r : Addr), ∃ (kr : ClassId), rv = some (.ref r) ∧ Keep h0 h [] ∧ h0.size ≤ r ∧ Arv Z h r kr (.object c12_) (3 : Int32) [(.ref s0_), (.ref s1_), (.ref s2_)] .null) := by
  have hw := cx.1
  refine Met.of_walk (a0 := a0) #[vr d, vi (3 : Int32), vr mr, un] (plainFor_of_name own_pn331) X00 cx.2.1 (fun _ => rfl) ?_
  intro p e s m below meth c vm hx hby hml hret hnm hC0 hW0
  have lt_d : h0.size > d := P0.lt
  have lt_s0_ : h0.size > s0_ := P1.lt
  have lt_s1_ : h0.size > s1_ := P2.lt
  have lt_s2_ : h0.size > s2_ := P3.lt
  obtain ⟨Sdz, Edz, Vdz, Sel, Eel, Fee, Vee, Fan, Sem, Eem, Mmr⟩ := id hL
  refine vAN 1 d312 ?_
  refine gldcM hx (oz hw 431) Mmr 3 (hb hby d313) rfl ?_
  refine gx (mkF m 6 #[vr d, vi (3 : Int32), vr mr, un] []) (fun T locs X _ _ _ _ kq => Jvm.RoadKit.acmp (g := (mkF m 3 #[vr d, vi (3 : Int32), vr mr, un] [(.ref mr), (.ref mr)])) X hx rfl rfl rfl (pc0 := 3) (pc' := 6) (same := true) rfl (hb hby d314) rfl (decide_eq_true rfl) (by decide) (by decide) kq) ?_
  refine vIN 7 d315 ?_
  refine gnewR hx (oz hw 432) (oz hw 394) (n := (3 : Int32)) (by decide) (cap := 3) (by decide) (by decide) (ad := c4_) (by decide) 10 (hb hby d316) rfl (by decide) (by decide) ?_
  intro b2 h2 k2 g2 E2 C2 V2 A2 O2 n2 L2
  have z2 := C2.2.1
  have V2 : Arv Z h2 b2 k2 (.object c12_) (3 : Int32) [.null, .null, .null] .null := V2.pad (pad_rep [] .null 3)
  have lt_b2 : h2.size > b2 := V2.lt
  refine vG 24 d317 ?_
  refine vSAN 25 #[vr d, vi (3 : Int32), vr mr, vr b2] d318 ?_
  refine vAN 26 d319 ?_
  refine vKc 27 (0 : Int32) d320 ?_
  refine vAN 28 d321 ?_
  refine vKc 29 (0 : Int32) d322 ?_
  refine vAN 30 d323 ?_
  have f3 := (P0.ext E2)
  refine glen hx f3 31 (hb hby d324) rfl ?_
  refine vIN 32 d325 ?_
  refine gmS (y := mn310) (oz hw 304) (oz hw 305) (oz hw 307) (oz hw 306) (fun O => own_min10_3 cx  vm h2 O ) 35 (argsL := [(.int (10 : Int32)), (.int (3 : Int32))]) (rest := [(.int (0 : Int32)), (.ref b2), (.int (0 : Int32)), (.ref d)]) own_pd190 d326 ?_
  rintro _ vm4 h4 C4 z4 ⟨rfl, rfl⟩
  refine gat1 ?_
  have f6 := (P1.ext E2)
  have f7 := (P2.ext E2)
  have f8 := (P3.ext E2)
  have f9 := (C4.sf L2)
  refine gcopyR hx (oz hw 308) (oz hw 209) (oz hw 207) (oz hw 208) (0) (0) (3) (10) (3) f3 V2 rfl rfl rfl rfl rfl (by decide) (by decide) (by decide) (by decide) rfl rfl (show StoL _ _ _ [(.ref s0_), (.ref s1_), (.ref s2_)] from ⟨Arv.sto V2 O2 (Ins.of_exa f6 (oz hw 395)), Arv.sto V2 O2 (Ins.of_exa f7 (oz hw 395)), Arv.sto V2 O2 (Ins.of_exa f8 (oz hw 395)), trivial⟩) n2 (fun _ => f9) 38 (W := 0) (Nat.le_of_eq rfl) (by rw [hml]; rfl) (hb hby d327) rfl (by decide) (by decide) ?_
  intro h5 K5 C5 V5
  have z5 := C5.2.1
  replace V5 : Arv Z h5 b2 k2 (.object c12_) (3 : Int32) [(.ref s0_), (.ref s1_), (.ref s2_)] .null := V5
  refine vAN 39 d328 ?_
  exact gretA hx hret rfl rfl (hb hby d329) (by decide) (by decide) (fun vq Cq => ⟨b2, k2, rfl, (((Keep.refl h0 []).ext E2).trans K5 (allS (Or.inr (by omega)) all0)), (by omega), V5⟩)
theorem own_cp2_3 {l : Launch} {Z : State} {a0 : Array Value} (cx : Ctx Z a0) (d : Addr) (kc : ClassId) (s0_ s1_ s2_ : Addr) {dz el ee em mr : Addr} {kd ke : ClassId} (vm0 : Vm) (h0 : Heap) (X00 : Ext Z.heap h0) (P0 : Arv Z h0 d kc (.object c12_) (10 : Int32) [(.ref s0_), (.ref s1_), (.ref s2_), .null, .null, .null, .null, .null, .null, .null] .null) (P1 : Exa Z h0 d c4_) (P2 : Exa Z h0 s0_ c13_) (P3 : Exa Z h0 s1_ c13_) (P4 : Exa Z h0 s2_ c13_) (hL : (OwnL Z dz el ee em mr kd ke)) :
    Met l mn339 y53_ 2 (some (.array (.object c12_))) [] (Rm 2 1 3 33) Z consts_1 vm0 h0 #[(.ref d), (.int (3 : Int32))] (fun rv vm h => ∃ (r : Addr), ∃ (kr : ClassId), rv = some (.ref r) ∧ Keep h0 h [] ∧ h0.size ≤ r ∧ Arv Z h r kr (.object c12_) (3 : Int32) [(.ref s0_), (.ref s1_), (.ref s2_)] .null) := by
  have hw := cx.1
  refine Met.of_walk (a0 := a0) #[vr d, vi (3 : Int32)] (plainFor_of_name own_pn331) X00 cx.2.1 (fun _ => rfl) ?_
  intro p e s m below meth c vm hx hby hml hret hnm hC0 hW0
  have lt_d : h0.size > d := P0.lt
  have lt_s0_ : h0.size > s0_ := P2.lt
  have lt_s1_ : h0.size > s1_ := P3.lt
  have lt_s2_ : h0.size > s2_ := P4.lt
  obtain ⟨Sdz, Edz, Vdz, Sel, Eel, Fee, Vee, Fan, Sem, Eem, Mmr⟩ := id hL
  refine vAN 1 d332 ?_
  refine vIN 2 d333 ?_
  refine vAN 3 d334 ?_
  refine ggcls hx (oz hw 422) (oz hw 423) (oz hw 119) (oz hw 425) (oz hw 424) (oz hw 426) P1 Mmr 6 (W := 2) (Nat.le_of_eq rfl) (by rw [hml]; rfl) (hb hby d335) rfl (by decide) (by decide) ?_
  refine gmS (y := mn330) (oz hw 428) (oz hw 429) (oz hw 430) (oz hw 296) (fun O => own_cp3_3 cx d kc s0_ s1_ s2_ vm h0 O P0 P2 P3 P4 (by first | assumption | decide | omega)) 9 (argsL := [(.ref d), (.int (3 : Int32)), (.ref mr)]) (rest := []) own_pd337 d336 ?_
  rintro _ vm2 h2 C2 z2 ⟨r2, kr2, rfl, K2, q2_0, q2_1⟩
  have lt_r2 : h2.size > r2 := q2_1.lt
  refine gat1 ?_
  exact gretA hx hret rfl rfl (hb hby d338) (by decide) (by decide) (fun vq Cq => ⟨r2, kr2, rfl, ((Keep.refl h0 []).trans K2 all0), (by omega), q2_1⟩)
theorem own_toarr3 {l : Launch} {Z : State} {a0 : Array Value} (cx : Ctx Z a0) (x d : Addr) (kc : ClassId) (s0_ s1_ s2_ : Addr) {dz el ee em mr : Addr} {kd ke : ClassId} (vm0 : Vm) (h0 : Heap) (X00 : Ext Z.heap h0) (P0 : Exa Z h0 x c17_) (P1 : Fld Z h0 x c17_ c7_ c4_ (.ref d)) (P2 : Fld Z h0 x c17_ "size" "I" (.int (3 : Int32))) (P3 : Arv Z h0 d kc (.object c12_) (10 : Int32) [(.ref s0_), (.ref s1_), (.ref s2_), .null, .null, .null, .null, .null, .null, .null] .null) (P4 : Exa Z h0 d c4_) (hov : (Ovr Z kc c12_)) (P6 : Exa Z h0 s0_ c13_) (P7 : Exa Z h0 s1_ c13_) (P8 : Exa Z h0 s2_ c13_) (hL : (OwnL Z dz el ee em mr kd ke)) :
    Met l mn347 y7_ 1 (some (.array (.object c12_))) [] (Rm 3 1 3 46) Z consts_1 vm0 h0 #[(.ref x)] (fun rv vm h => ∃ (r : Addr), ∃ (kr : ClassId), rv = some (.ref r) ∧ Keep h0 h [] ∧ h0.size ≤ r ∧ Arv Z h r kr (.object c12_) (3 : Int32) [(.ref s0_), (.ref s1_), (.ref s2_)] .null) := by
  have hw := cx.1
  refine Met.of_walk (a0 := a0) #[vr x] (plainFor_of_name own_pn167) X00 cx.2.1 (fun _ => rfl) ?_
  intro p e s m below meth c vm hx hby hml hret hnm hC0 hW0
  have lt_x : h0.size > x := P0.lt
  have lt_d : h0.size > d := P3.lt
  have lt_s0_ : h0.size > s0_ := P6.lt
  have lt_s1_ : h0.size > s1_ := P7.lt
  have lt_s2_ : h0.size > s2_ := P8.lt
  refine vAN 1 d340 ?_
  refine gF (oz hw 56) P1 4 d341 ?_
  refine vAN 5 d342 ?_
  refine gF (oz hw 130) P2 8 d343 ?_
  refine gmS (y := mn339) (oz hw 419) (oz hw 420) (oz hw 421) (oz hw 296) (fun O => own_cp2_3 cx d kc s0_ s1_ s2_ vm h0 O P3 P4 P6 P7 P8 (by first | assumption | decide | omega)) 11 (argsL := [(.ref d), (.int (3 : Int32))]) (rest := []) own_pd345 d344 ?_
  rintro _ vm1 h1 C1 z1 ⟨r1, kr1, rfl, K1, q1_0, q1_1⟩
  have lt_r1 : h1.size > r1 := q1_1.lt
  refine gat1 ?_
  exact gretA hx hret rfl rfl (hb hby d346) (by decide) (by decide) (fun vq Cq => ⟨r1, kr1, rfl, ((Keep.refl h0 []).trans K1 all0), (by omega), q1_1⟩)
theorem d371 : Dc y52_ 0 (.aload_n 0) 1 := by decide +kernel
theorem d372 : Dc y52_ 1 (.arraylength) 1 := by decide +kernel
theorem d373 : Dc y52_ 2 (.anewarray 2) 3 := by decide +kernel
theorem d374 : Dc y52_ 5 (.astore_n 1) 1 := by decide +kernel
theorem d375 : Dc y52_ 6 (.iconst 0) 1 := by decide +kernel
theorem d376 : Dc y52_ 7 (.istore_n 2) 1 := by decide +kernel
theorem d377 : Dc y52_ 8 (.iload_n 2) 1 := by decide +kernel
theorem d378 : Dc y52_ 9 (.aload_n 0) 1 := by decide +kernel
theorem d379 : Dc y52_ 10 (.arraylength) 1 := by decide +kernel
theorem d380 : Dc y52_ 11 (.if_icmp .ge 18) 3 := by decide +kernel
theorem d381 : Dc y52_ 14 (.aload_n 1) 1 := by decide +kernel
theorem d382 : Dc y52_ 15 (.iload_n 2) 1 := by decide +kernel
theorem d383 : Dc y52_ 16 (.aload_n 0) 1 := by decide +kernel
theorem d384 : Dc y52_ 17 (.iload_n 2) 1 := by decide +kernel
theorem d385 : Dc y52_ 18 (.aaload) 1 := by decide +kernel
theorem d386 : Dc y52_ 19 (.invokestatic 37) 3 := by decide +kernel
theorem d387 : Dc y52_ 22 (.aastore) 1 := by decide +kernel
theorem d388 : Dc y52_ 23 (.iinc 2 1) 3 := by decide +kernel
theorem d389 : Dc y52_ 26 (.goto (-18)) 3 := by decide +kernel
theorem d390 : Dc y52_ 29 (.new 12) 3 := by decide +kernel
theorem d391 : Dc y52_ 32 (.dup) 1 := by decide +kernel
theorem d392 : Dc y52_ 33 (.aload_n 1) 1 := by decide +kernel
theorem d393 : Dc y52_ 34 (.iconst 0) 1 := by decide +kernel
theorem d394 : Dc y52_ 35 (.invokespecial 43) 3 := by decide +kernel
theorem own_pd395 : parseMethodDescriptor "([Ljava/lang/Object;Z)V" = some ⟨[(.array (.object "java/lang/Object")), .boolean], none⟩ := by decide +kernel
theorem d396 : Dc y52_ 38 (.areturn) 1 := by decide +kernel
abbrev mn397 : MethodName := ⟨"java/util/ImmutableCollections", "listFromArray", "([Ljava/lang/Object;)Ljava/util/List;"⟩
theorem own_pn398 : plainName "java/util/ImmutableCollections" = true := by first | (simp [plainName, overriddenIn]; done) | decide +kernel
theorem own_lfa3 {l : Launch} {Z : State} {a0 : Array Value} (cx : Ctx Z a0) (a : Addr) (ka : ClassId) (s0_ s1_ s2_ : Addr) (vm0 : Vm) (h0 : Heap) (X00 : Ext Z.heap h0) (P0 : Arv Z h0 a ka (.object c12_) (3 : Int32) [(.ref s0_), (.ref s1_), (.ref s2_)] .null) (P1 : Exa Z h0 s0_ c13_) (P2 : Exa Z h0 s1_ c13_) (P3 : Exa Z h0 s2_ c13_) :
    Met l mn397 y52_ 3 (some (.object c24_)) [] (Rm 5 2 5 63) Z consts_1 vm0 h0 #[(.ref a)] (fun rv vm h => ∃ (r : Addr), ∃ (g : Addr), ∃ (kg : ClassId), rv = some (.ref r) ∧ Keep h0 h [] ∧ h0.size ≤ r ∧ Exa Z h r c22_ ∧ Fld Z h r c22_ "elements" c4_ (.ref g) ∧ Arv Z h g kg (.object c12_) (3 : Int32) [(.ref s0_), (.ref s1_), (.ref s2_)] .null) := by
  have hw := cx.1
  refine Met.of_walk (a0 := a0) #[vr a, un, un] (plainFor_of_name own_pn398) X00 cx.2.1 (fun _ => rfl) ?_
  intro p e s m below meth c vm hx hby hml hret hnm hC0 hW0
  have lt_a : h0.size > a := P0.lt
  have lt_s0_ : h0.size > s0_ := P1.lt
  have lt_s1_ : h0.size > s1_ := P2.lt
  have lt_s2_ : h0.size > s2_ := P3.lt
  refine vAN 1 d371 ?_
  refine glen hx P0 2 (hb hby d372) rfl ?_
  refine gnewR hx (oz hw 509) (oz hw 394) (n := (3 : Int32)) (by decide) (cap := 3) (by decide) (by decide) (ad := c4_) (by decide) 5 (hb hby d373) rfl (by decide) (by decide) ?_
  intro b1 h1 k1 g1 E1 C1 V1 A1 O1 n1 L1
  have z1 := C1.2.1
  have V1 : Arv Z h1 b1 k1 (.object c12_) (3 : Int32) [.null, .null, .null] .null := V1.pad (pad_rep [] .null 3)
  have lt_b1 : h1.size > b1 := V1.lt
  refine vSAN 6 #[vr a, vr b1, un] d374 ?_
  refine vKc 7 (0 : Int32) d375 ?_
  refine vSIN 8 #[vr a, vr b1, vi (0 : Int32)] d376 ?_
  refine vIN 9 d377 ?_
  refine vAN 10 d378 ?_
  have f2 := (P0.ext E1)
  refine glen hx f2 11 (hb hby d379) rfl ?_
  refine vNc 14 d380 (tlt (by decide)).2.1 ?_
  refine vAN 15 d381 ?_
  refine vIN 16 d382 ?_
  refine vAN 17 d383 ?_
  refine vIN 18 d384 ?_
  refine gldR hx f2 ⟨by decide, by decide⟩ (i := 0) rfl (v := (.ref s0_)) rfl 19 (hb hby d385) rfl ?_
  refine gmS (y := mn257) (oz hw 510) (oz hw 457) (oz hw 459) (oz hw 458) (fun O => own_rnn cx s0_ vm h1 O ) 22 (argsL := [(.ref s0_)]) (rest := [(.int (0 : Int32)), (.ref b1)]) own_pd274 d386 ?_
  rintro _ vm3 h3 C3 z3 ⟨rfl, rfl⟩
  refine gat1 ?_
  have f5 := (P1.ext E1)
  refine gstR hx V1 ⟨by decide, by decide⟩ (i := 0) rfl (Nat.le_of_ble_eq_true rfl) (Arv.sto V1 O1 (Ins.of_exa f5 (oz hw 395))) rfl n1 23 (hb hby d387) rfl ?_
  intro h4 W4 C4 V4
  have z4 := C4.2.1
  replace V4 : Arv Z h4 b1 k1 (.object c12_) (3 : Int32) [(.ref s0_), .null, .null] .null := V4
  refine vInc 26 #[vr a, vr b1, vi (1 : Int32)] d388 ?_
  refine vG 8 d389 ?_
  refine vIN 9 d377 ?_
  refine vAN 10 d378 ?_
  have f6 := (f2.other W4 (Nat.ne_of_lt (by omega)))
  refine glen hx f6 11 (hb hby d379) rfl ?_
  refine vNc 14 d380 (tlt (by decide)).2.1 ?_
  refine vAN 15 d381 ?_
  refine vIN 16 d382 ?_
  refine vAN 17 d383 ?_
  refine vIN 18 d384 ?_
  refine gldR hx f6 ⟨by decide, by decide⟩ (i := 1) rfl (v := (.ref s1_)) rfl 19 (hb hby d385) rfl ?_
  refine gmS (y := mn257) (oz hw 510) (oz hw 457) (oz hw 459) (oz hw 458) (fun O => own_rnn cx s1_ vm3 h4 O ) 22 (argsL := [(.ref s1_)]) (rest := [(.int (1 : Int32)), (.ref b1)]) own_pd274 d386 ?_
  rintro _ vm7 h7 C7 z7 ⟨rfl, rfl⟩
  refine gat1 ?_
  have f9 := ((P2.ext E1).wr W4)
  refine gstR hx V4 ⟨by decide, by decide⟩ (i := 1) rfl (Nat.le_of_ble_eq_true rfl) (Arv.sto V4 O1 (Ins.of_exa f9 (oz hw 395))) rfl n1 23 (hb hby d387) rfl ?_
  intro h8 W8 C8 V8
  have z8 := C8.2.1
  replace V8 : Arv Z h8 b1 k1 (.object c12_) (3 : Int32) [(.ref s0_), (.ref s1_), .null] .null := V8
  refine vInc 26 #[vr a, vr b1, vi (2 : Int32)] d388 ?_
  refine vG 8 d389 ?_
  refine vIN 9 d377 ?_
  refine vAN 10 d378 ?_
  have f10 := (f6.other W8 (Nat.ne_of_lt (by omega)))
  refine glen hx f10 11 (hb hby d379) rfl ?_
  refine vNc 14 d380 (tlt (by decide)).2.1 ?_
  refine vAN 15 d381 ?_
  refine vIN 16 d382 ?_
  refine vAN 17 d383 ?_
  refine vIN 18 d384 ?_
  refine gldR hx f10 ⟨by decide, by decide⟩ (i := 2) rfl (v := (.ref s2_)) rfl 19 (hb hby d385) rfl ?_
  refine gmS (y := mn257) (oz hw 510) (oz hw 457) (oz hw 459) (oz hw 458) (fun O => own_rnn cx s2_ vm7 h8 O ) 22 (argsL := [(.ref s2_)]) (rest := [(.int (2 : Int32)), (.ref b1)]) own_pd274 d386 ?_
  rintro _ vm11 h11 C11 z11 ⟨rfl, rfl⟩
  refine gat1 ?_
  have f13 := (((P3.ext E1).wr W4).wr W8)
  refine gstR hx V8 ⟨by decide, by decide⟩ (i := 2) rfl (Nat.le_of_ble_eq_true rfl) (Arv.sto V8 O1 (Ins.of_exa f13 (oz hw 395))) rfl n1 23 (hb hby d387) rfl ?_
  intro h12 W12 C12 V12
  have z12 := C12.2.1
  replace V12 : Arv Z h12 b1 k1 (.object c12_) (3 : Int32) [(.ref s0_), (.ref s1_), (.ref s2_)] .null := V12
  refine vInc 26 #[vr a, vr b1, vi (3 : Int32)] d388 ?_
  refine vG 8 d389 ?_
  refine vIN 9 d377 ?_
  refine vAN 10 d378 ?_
  have f14 := (f10.other W12 (Nat.ne_of_lt (by omega)))
  refine glen hx f14 11 (hb hby d379) rfl ?_
  refine vYc 29 d380 (flt (by decide)).2.1 ?_
  refine gnewO hx (oz hw 120) (oz hw 511) (oz hw 238) 32 (hb hby d390) rfl (by decide) (by decide) ?_
  intro b15 h15 g15 E15 C15 A15 D15 n15 L15
  have z15 := C15.2.1
  have lt_b15 : h15.size > b15 := A15.lt
  have F15_elements : Fld Z h15 b15 c22_ "elements" c4_ .null := D15 (Or.inr (oz hw 241)) (ty := (.array (.object c12_))) (by decide)
  have F15_allowNulls : Fld Z h15 b15 c22_ c5_ "Z" (.int (0 : Int32)) := D15 (Or.inr (oz hw 521)) (ty := .boolean) (by decide)
  refine vD 33 d391 ?_
  refine vAN 34 d392 ?_
  refine vKc 35 (0 : Int32) d393 ?_
  refine ginfo fun _ _ O16 => ?_
  refine gcallIN (y := mn303) hx rfl (oz hw 512) (oz hw 513) (oz hw 515) (by decide) (fun hZ H hEL => Pay.of_met (W := 1) (own_lninit cx b15 b1 (.null) ((.int (0 : Int32))) vm11 h15 O16 A15 F15_elements F15_allowNulls n15) (oz hw 515) (oz hw 238) (by decide) (by decide) hZ H hEL) (a := b15) 38 (argsL := [(.ref b1), (.int (0 : Int32))]) (rest := [(.ref b15)]) (lenOf own_pd395 rfl) rfl rfl (Nat.le_of_eq rfl) (by rw [hml]; rfl) (hb hby d394) rfl (by decide) (by decide) ?_
  rintro _ vm16 h16 C16 ⟨rfl, K16, q16_0⟩
  have z16 := C16.2.1
  refine gat0 ?_
  have f18 := (A15.keep K16)
  have f19 := ((V12.ext E15).keep K16 nL)
  exact gretA hx hret rfl rfl (hb hby d396) (by decide) (by decide) (fun vq Cq => ⟨b15, b1, k1, rfl, (((((((Keep.refl h0 []).ext E1).wr W4 (Or.inr (by omega))).wr W8 (Or.inr (by omega))).wr W12 (Or.inr (by omega))).ext E15).trans K16 (allS (Or.inr (by omega)) all0)), (by omega), f18, q16_0, f19⟩)
theorem d399 : Dc y16_ 59 (.aload_n 0) 1 := by decide +kernel
theorem d400 : Dc y16_ 60 (.invokestatic 109) 3 := by decide +kernel
theorem own_pd401 : parseMethodDescriptor "([Ljava/lang/Object;)Ljava/util/List;" = some ⟨[(.array (.object "java/lang/Object"))], some (.object "java/util/List")⟩ := by decide +kernel
theorem d402 : Dc y16_ 63 (.areturn) 1 := by decide +kernel
theorem own_of3 {l : Launch} {Z : State} {a0 : Array Value} (cx : Ctx Z a0) (a : Addr) (ka : ClassId) (s0_ s1_ s2_ : Addr) {dz el ee em mr : Addr} {kd ke : ClassId} (vm0 : Vm) (h0 : Heap) (X00 : Ext Z.heap h0) (P0 : Arv Z h0 a ka (.object c12_) (3 : Int32) [(.ref s0_), (.ref s1_), (.ref s2_)] .null) (P1 : Exa Z h0 s0_ c13_) (P2 : Exa Z h0 s1_ c13_) (P3 : Exa Z h0 s2_ c13_) (hL : (OwnL Z dz el ee em mr kd ke)) :
    Met l mn359 y16_ 2 (some (.object c24_)) [] (Rm 6 2 5 77) Z consts_1 vm0 h0 #[(.ref a)] (fun rv vm h => ∃ (r : Addr), ∃ (g : Addr), ∃ (kg : ClassId), rv = some (.ref r) ∧ Keep h0 h [] ∧ h0.size ≤ r ∧ Exa Z h r c22_ ∧ Fld Z h r c22_ "elements" c4_ (.ref g) ∧ Arv Z h g kg (.object c12_) (3 : Int32) [(.ref s0_), (.ref s1_), (.ref s2_)] .null) := by
  have hw := cx.1
  refine Met.of_walk (a0 := a0) #[vr a, un] (plainFor_of_name own_pn252) X00 cx.2.1 (fun _ => rfl) ?_
  intro p e s m below meth c vm hx hby hml hret hnm hC0 hW0
  have lt_a : h0.size > a := P0.lt
  have lt_s0_ : h0.size > s0_ := P1.lt
  have lt_s1_ : h0.size > s1_ := P2.lt
  have lt_s2_ : h0.size > s2_ := P3.lt
  refine vAN 1 d348 ?_
  refine glen hx P0 2 (hb hby d349) rfl ?_
  refine gx (mkF m 59 #[vr a, un] []) (fun T locs X _ _ _ target kq => X.tableswitchOut hx (g := (mkF m 2 #[vr a, un] [(.int (3 : Int32))])) rfl rfl (hb hby d350) (by decide) (show (0 : Int) ≤ ((2 : Nat) : Int) + 57 by decide) target kq) ?_
  refine vAN 60 d399 ?_
  refine gmS (y := mn397) (oz hw 506) (oz hw 507) (oz hw 508) (oz hw 113) (fun O => own_lfa3 cx a ka s0_ s1_ s2_ vm h0 O P0 P1 P2 P3) 63 (argsL := [(.ref a)]) (rest := []) own_pd401 d400 ?_
  rintro _ vm1 h1 C1 z1 ⟨r1, g1, kg1, rfl, K1, q1_0, q1_1, q1_2, q1_3⟩
  have lt_r1 : h1.size > r1 := q1_1.lt
  have lt_g1 : h1.size > g1 := q1_3.lt
  refine gat1 ?_
  exact gretA hx hret rfl rfl (hb hby d402) (by decide) (by decide) (fun vq Cq => ⟨r1, g1, kg1, rfl, ((Keep.refl h0 []).trans K1 all0), (by omega), q1_1, q1_2, q1_3⟩)
theorem d403 : Dc y51_ 0 (.aload_n 0) 1 := by decide +kernel
theorem d404 : Dc y51_ 1 (.instanceof 10) 3 := by decide +kernel
theorem d405 : Dc y51_ 4 (.ifCond .ne 22) 3 := by decide +kernel
theorem d406 : Dc y51_ 7 (.aload_n 0) 1 := by decide +kernel
theorem d407 : Dc y51_ 8 (.instanceof 12) 3 := by decide +kernel
theorem d408 : Dc y51_ 11 (.ifCond .eq 20) 3 := by decide +kernel
theorem d409 : Dc y51_ 31 (.aload_n 0) 1 := by decide +kernel
theorem d410 : Dc y51_ 32 (.invokeinterface 20 1) 5 := by decide +kernel
abbrev mn411 : MethodName := ⟨"java/util/Collection", "isEmpty", "()Z"⟩
theorem d412 : Dc y51_ 37 (.ifCond .eq 7) 3 := by decide +kernel
theorem d413 : Dc y51_ 40 (.invokestatic 26) 3 := by decide +kernel
theorem own_pd414 : parseMethodDescriptor "()Ljava/util/List;" = some ⟨[], some (.object "java/util/List")⟩ := by decide +kernel
theorem d415 : Dc y51_ 43 (.areturn) 1 := by decide +kernel
abbrev mn416 : MethodName := ⟨"java/util/ImmutableCollections", "listCopy", "(Ljava/util/Collection;)Ljava/util/List;"⟩
theorem own_lc0 {l : Launch} {Z : State} {a0 : Array Value} (cx : Ctx Z a0) (x : Addr) {dz el ee em mr : Addr} {kd ke : ClassId} (vm0 : Vm) (h0 : Heap) (X00 : Ext Z.heap h0) (P0 : Exa Z h0 x c17_) (P1 : Fld Z h0 x c17_ c7_ c4_ (.ref dz)) (P2 : Fld Z h0 x c17_ "size" "I" (.int (0 : Int32))) (hL : (OwnL Z dz el ee em mr kd ke)) :
    Met l mn416 y51_ 2 (some (.object c24_)) [] (Rm 1 0 0 12) Z consts_1 vm0 h0 #[(.ref x)] (fun rv vm h => rv = some (.ref el) ∧ Keep h0 h []) := by
  have hw := cx.1
  refine Met.of_walk (a0 := a0) #[vr x, un] (plainFor_of_name own_pn398) X00 cx.2.1 (fun _ => rfl) ?_
  intro p e s m below meth c vm hx hby hml hret hnm hC0 hW0
  have lt_x : h0.size > x := P0.lt
  refine vAN 1 d403 ?_
  refine ginstN hx (oz hw 115) P0 (NSno (oz hw 116) (oz hw 437) (NS.step (oz hw 116) (NS.step (oz hw 117) (NS.step (oz hw 118) (NSroot (oz hw 119) (oz hw 437) (by decide)) (by decide)) (by decide)) (by decide)) (by decide)) 4 (hb hby d404) rfl ?_
  refine vN 7 d405 ((if0 _ _).trans (teq (by decide)).2) ?_
  refine vAN 8 d406 ?_
  refine ginstN hx (oz hw 120) P0 (NSno (oz hw 116) (oz hw 511) (NS.step (oz hw 116) (NS.step (oz hw 117) (NS.step (oz hw 118) (NSroot (oz hw 119) (oz hw 511) (by decide)) (by decide)) (by decide)) (by decide)) (by decide)) 11 (hb hby d407) rfl ?_
  refine vY 31 d408 ((if0 _ _).trans (teq (by decide)).1) ?_
  refine vAN 32 d409 ?_
  refine gmF (xi := mn411) (y := mn247) (oz hw 121) (oz hw 122) (fun _ _ hU => mvT hU (oz hw 123)) (oz hw 124) (oz hw 125) (oz hw 126) (oz hw 127) (oz hw 128) (oz hw 129) (oz hw 36) (fun O => own_alempty0 cx x vm h0 O P2) 37 (argsL := []) (rest := []) P0 own_pd43 d410 ?_
  rintro _ vm1 h1 C1 z1 ⟨rfl, rfl⟩
  refine gat1 ?_
  refine vN 40 d412 ((if0 _ _).trans (feq (by decide)).1) ?_
  refine gmS (y := mn251) (oz hw 131) (oz hw 132) (oz hw 133) (oz hw 109) (fun O => own_of0 cx  vm1 h0 O (by first | assumption | decide | omega)) 43 (argsL := []) (rest := []) own_pd414 d413 ?_
  rintro _ vm2 h2 C2 z2 ⟨rfl, rfl⟩
  refine gat1 ?_
  exact gretA hx hret rfl rfl (hb hby d415) (by decide) (by decide) (fun vq Cq => ⟨rfl, (Keep.refl h0 [])⟩)
theorem d417 : Dc y17_ 0 (.aload_n 0) 1 := by decide +kernel
theorem d418 : Dc y17_ 1 (.invokestatic 112) 3 := by decide +kernel
theorem own_pd419 : parseMethodDescriptor "(Ljava/util/Collection;)Ljava/util/List;" = some ⟨[(.object "java/util/Collection")], some (.object "java/util/List")⟩ := by decide +kernel
theorem d420 : Dc y17_ 4 (.areturn) 1 := by decide +kernel
abbrev mn421 : MethodName := ⟨"java/util/List", "copyOf", "(Ljava/util/Collection;)Ljava/util/List;"⟩
theorem own_copy0 {l : Launch} {Z : State} {a0 : Array Value} (cx : Ctx Z a0) (x : Addr) {dz el ee em mr : Addr} {kd ke : ClassId} (vm0 : Vm) (h0 : Heap) (X00 : Ext Z.heap h0) (P0 : Exa Z h0 x c17_) (P1 : Fld Z h0 x c17_ c7_ c4_ (.ref dz)) (P2 : Fld Z h0 x c17_ "size" "I" (.int (0 : Int32))) (hL : (OwnL Z dz el ee em mr kd ke)) :
    Met l mn421 y17_ 1 (some (.object c24_)) [] (Rm 2 0 0 25) Z consts_1 vm0 h0 #[(.ref x)] (fun rv vm h => rv = some (.ref el) ∧ Keep h0 h []) := by
  have hw := cx.1
  refine Met.of_walk (a0 := a0) #[vr x] (plainFor_of_name own_pn252) X00 cx.2.1 (fun _ => rfl) ?_
  intro p e s m below meth c vm hx hby hml hret hnm hC0 hW0
  have lt_x : h0.size > x := P0.lt
  refine vAN 1 d417 ?_
  refine gmS (y := mn416) (oz hw 111) (oz hw 112) (oz hw 114) (oz hw 113) (fun O => own_lc0 cx x vm h0 O P0 P1 P2 (by first | assumption | decide | omega)) 4 (argsL := [(.ref x)]) (rest := []) own_pd419 d418 ?_
  rintro _ vm1 h1 C1 z1 ⟨rfl, K1⟩
  refine gat1 ?_
  exact gretA hx hret rfl rfl (hb hby d420) (by decide) (by decide) (fun vq Cq => ⟨rfl, ((Keep.refl h0 []).trans K1 all0)⟩)
theorem d422 : Dc y39_ 0 (.aload_n 0) 1 := by decide +kernel
theorem d423 : Dc y39_ 1 (.getfield 7) 3 := by decide +kernel
theorem d424 : Dc y39_ 4 (.arraylength) 1 := by decide +kernel
theorem d425 : Dc y39_ 5 (.ireturn) 1 := by decide +kernel
abbrev mn426 : MethodName := ⟨"java/util/ImmutableCollections$ListN", "size", "()I"⟩
theorem own_lsize0 {l : Launch} {Z : State} {a0 : Array Value} (cx : Ctx Z a0) {dz el ee em mr : Addr} {kd ke : ClassId} (vm0 : Vm) (h0 : Heap) (X00 : Ext Z.heap h0) (hL : (OwnL Z dz el ee em mr kd ke)) :
    Met l mn426 y39_ 1 (some .int) [] (Rm 0 0 0 0) Z consts_1 vm0 h0 #[(.ref el)] (fun rv vm h => rv = some (.int (0 : Int32)) ∧ h0 = h) := by
  have hw := cx.1
  refine Met.of_walk (a0 := a0) #[vr el] (plainFor_of_name own_pn304) X00 cx.2.1 (fun _ => rfl) ?_
  intro p e s m below meth c vm hx hby hml hret hnm hC0 hW0
  obtain ⟨Sdz, Edz, Vdz, Sel, Eel, Fee, Vee, Fan, Sem, Eem, Mmr⟩ := id hL
  refine ginfo fun _ _ OL1 => ?_
  have Fee_1 := Fee.ext OL1
  have Vee_1 := Vee.ext OL1
  have lt_el : h0.size > el := Fee_1.lt
  have lt_ee : h0.size > ee := Vee_1.lt
  refine vAN 1 d422 ?_
  refine gF (oz hw 240) Fee_1 4 d423 ?_
  refine glen hx Vee_1 5 (hb hby d424) rfl ?_
  exact gretI hx hret (hb hby d425) (by decide) (by decide) (fun vq Cq => ⟨rfl, rfl⟩)
theorem d427 : Dc y51_ 44 (.aload_n 0) 1 := by decide +kernel
theorem d428 : Dc y51_ 45 (.invokeinterface 30 1) 5 := by decide +kernel
abbrev mn429 : MethodName := ⟨"java/util/Collection", "toArray", "()[Ljava/lang/Object;"⟩
theorem d430 : Dc y51_ 50 (.invokestatic 34) 3 := by decide +kernel
theorem d431 : Dc y51_ 53 (.areturn) 1 := by decide +kernel
theorem own_lc1 {l : Launch} {Z : State} {a0 : Array Value} (cx : Ctx Z a0) (x d : Addr) (kc : ClassId) (s0_ : Addr) {dz el ee em mr : Addr} {kd ke : ClassId} (vm0 : Vm) (h0 : Heap) (X00 : Ext Z.heap h0) (P0 : Exa Z h0 x c17_) (P1 : Fld Z h0 x c17_ c7_ c4_ (.ref d)) (P2 : Fld Z h0 x c17_ "size" "I" (.int (1 : Int32))) (P3 : Arv Z h0 d kc (.object c12_) (10 : Int32) [(.ref s0_), .null, .null, .null, .null, .null, .null, .null, .null, .null] .null) (P4 : Exa Z h0 d c4_) (hov : (Ovr Z kc c12_)) (P6 : Exa Z h0 s0_ c13_) (hL : (OwnL Z dz el ee em mr kd ke)) :
    Met l mn416 y51_ 2 (some (.object c24_)) [] (Rm 6 2 3 75) Z consts_1 vm0 h0 #[(.ref x)] (fun rv vm h => ∃ (r : Addr), rv = some (.ref r) ∧ Keep h0 h [] ∧ h0.size ≤ r ∧ Exa Z h r c20_ ∧ Fld Z h r c20_ "e0" c0_ (.ref s0_) ∧ Fld Z h r c20_ "e1" c0_ (.ref em)) := by
  have hw := cx.1
  refine Met.of_walk (a0 := a0) #[vr x, un] (plainFor_of_name own_pn398) X00 cx.2.1 (fun _ => rfl) ?_
  intro p e s m below meth c vm hx hby hml hret hnm hC0 hW0
  have lt_x : h0.size > x := P0.lt
  have lt_d : h0.size > d := P3.lt
  have lt_s0_ : h0.size > s0_ := P6.lt
  refine vAN 1 d403 ?_
  refine ginstN hx (oz hw 115) P0 (NSno (oz hw 116) (oz hw 437) (NS.step (oz hw 116) (NS.step (oz hw 117) (NS.step (oz hw 118) (NSroot (oz hw 119) (oz hw 437) (by decide)) (by decide)) (by decide)) (by decide)) (by decide)) 4 (hb hby d404) rfl ?_
  refine vN 7 d405 ((if0 _ _).trans (teq (by decide)).2) ?_
  refine vAN 8 d406 ?_
  refine ginstN hx (oz hw 120) P0 (NSno (oz hw 116) (oz hw 511) (NS.step (oz hw 116) (NS.step (oz hw 117) (NS.step (oz hw 118) (NSroot (oz hw 119) (oz hw 511) (by decide)) (by decide)) (by decide)) (by decide)) (by decide)) 11 (hb hby d407) rfl ?_
  refine vY 31 d408 ((if0 _ _).trans (teq (by decide)).1) ?_
  refine vAN 32 d409 ?_
  refine gmF (xi := mn411) (y := mn247) (oz hw 121) (oz hw 122) (fun _ _ hU => mvT hU (oz hw 123)) (oz hw 124) (oz hw 125) (oz hw 126) (oz hw 127) (oz hw 128) (oz hw 129) (oz hw 36) (fun O => own_alempty1 cx x vm h0 O P2) 37 (argsL := []) (rest := []) P0 own_pd43 d410 ?_
  rintro _ vm1 h1 C1 z1 ⟨rfl, rfl⟩
  refine gat1 ?_
  refine vY 44 d412 ((if0 _ _).trans (teq (by decide)).1) ?_
  refine vAN 45 d427 ?_
  refine gmF (xi := mn429) (y := mn347) (oz hw 411) (oz hw 412) (fun _ _ hU => mvT hU (oz hw 413)) (oz hw 414) (oz hw 415) (oz hw 416) (oz hw 417) (oz hw 128) (oz hw 418) (oz hw 36) (fun O => own_toarr1 cx x d kc s0_ vm1 h0 O P0 P1 P2 P3 P4 (by first | assumption | decide | omega) P6 (by first | assumption | decide | omega)) 50 (argsL := []) (rest := []) P0 own_pd211 d428 ?_
  rintro _ vm2 h2 C2 z2 ⟨r2, kr2, rfl, K2, q2_0, q2_1⟩
  have lt_r2 : h2.size > r2 := q2_1.lt
  refine gat1 ?_
  have f4 := (P6.keep K2)
  refine gmS (y := mn359) (oz hw 433) (oz hw 434) (oz hw 435) (oz hw 109) (fun O => own_of1 cx r2 kr2 s0_ vm2 h2 O q2_1 f4 (by first | assumption | decide | omega)) 53 (argsL := [(.ref r2)]) (rest := []) own_pd401 d430 ?_
  rintro _ vm3 h3 C3 z3 ⟨r3, rfl, K3, q3_0, q3_1, q3_2, q3_3⟩
  have lt_r3 : h3.size > r3 := q3_1.lt
  refine gat1 ?_
  exact gretA hx hret rfl rfl (hb hby d431) (by decide) (by decide) (fun vq Cq => ⟨r3, rfl, (((Keep.refl h0 []).trans K2 all0).trans K3 all0), (by omega), q3_1, q3_2, q3_3⟩)
theorem own_copy1 {l : Launch} {Z : State} {a0 : Array Value} (cx : Ctx Z a0) (x d : Addr) (kc : ClassId) (s0_ : Addr) {dz el ee em mr : Addr} {kd ke : ClassId} (vm0 : Vm) (h0 : Heap) (X00 : Ext Z.heap h0) (P0 : Exa Z h0 x c17_) (P1 : Fld Z h0 x c17_ c7_ c4_ (.ref d)) (P2 : Fld Z h0 x c17_ "size" "I" (.int (1 : Int32))) (P3 : Arv Z h0 d kc (.object c12_) (10 : Int32) [(.ref s0_), .null, .null, .null, .null, .null, .null, .null, .null, .null] .null) (P4 : Exa Z h0 d c4_) (hov : (Ovr Z kc c12_)) (P6 : Exa Z h0 s0_ c13_) (hL : (OwnL Z dz el ee em mr kd ke)) :
    Met l mn421 y17_ 1 (some (.object c24_)) [] (Rm 7 2 3 88) Z consts_1 vm0 h0 #[(.ref x)] (fun rv vm h => ∃ (r : Addr), rv = some (.ref r) ∧ Keep h0 h [] ∧ h0.size ≤ r ∧ Exa Z h r c20_ ∧ Fld Z h r c20_ "e0" c0_ (.ref s0_) ∧ Fld Z h r c20_ "e1" c0_ (.ref em)) := by
  have hw := cx.1
  refine Met.of_walk (a0 := a0) #[vr x] (plainFor_of_name own_pn252) X00 cx.2.1 (fun _ => rfl) ?_
  intro p e s m below meth c vm hx hby hml hret hnm hC0 hW0
  have lt_x : h0.size > x := P0.lt
  have lt_d : h0.size > d := P3.lt
  have lt_s0_ : h0.size > s0_ := P6.lt
  refine vAN 1 d417 ?_
  refine gmS (y := mn416) (oz hw 111) (oz hw 112) (oz hw 114) (oz hw 113) (fun O => own_lc1 cx x d kc s0_ vm h0 O P0 P1 P2 P3 P4 (by first | assumption | decide | omega) P6 (by first | assumption | decide | omega)) 4 (argsL := [(.ref x)]) (rest := []) own_pd419 d418 ?_
  rintro _ vm1 h1 C1 z1 ⟨r1, rfl, K1, q1_0, q1_1, q1_2, q1_3⟩
  have lt_r1 : h1.size > r1 := q1_1.lt
  refine gat1 ?_
  exact gretA hx hret rfl rfl (hb hby d420) (by decide) (by decide) (fun vq Cq => ⟨r1, rfl, ((Keep.refl h0 []).trans K1 all0), (by omega), q1_1, q1_2, q1_3⟩)
theorem d432 : Dc y36_ 0 (.aload_n 0) 1 := by decide +kernel
theorem d433 : Dc y36_ 1 (.getfield 24) 3 := by decide +kernel
theorem d434 : Dc y36_ 4 (.getstatic 19) 3 := by decide +kernel
theorem d435 : Dc y36_ 7 (.if_acmp .eq 7) 3 := by decide +kernel
theorem d436 : Dc y36_ 14 (.iconst 1) 1 := by decide +kernel
theorem d437 : Dc y36_ 15 (.ireturn) 1 := by decide +kernel
abbrev mn438 : MethodName := ⟨"java/util/ImmutableCollections$List12", "size", "()I"⟩
theorem own_lsize1 {l : Launch} {Z : State} {a0 : Array Value} (cx : Ctx Z a0) (r s0_ : Addr) {dz el ee em mr : Addr} {kd ke : ClassId} (vm0 : Vm) (h0 : Heap) (X00 : Ext Z.heap h0) (P0 : Exa Z h0 r c20_) (P1 : Fld Z h0 r c20_ "e0" c0_ (.ref s0_)) (P2 : Fld Z h0 r c20_ "e1" c0_ (.ref em)) (P3 : Exa Z h0 s0_ c13_) (hL : (OwnL Z dz el ee em mr kd ke)) :
    Met l mn438 y36_ 1 (some .int) [] (Rm 0 0 0 0) Z consts_1 vm0 h0 #[(.ref r)] (fun rv vm h => rv = some (.int (1 : Int32)) ∧ h0 = h) := by
  have hw := cx.1
  refine Met.of_walk (a0 := a0) #[vr r] (plainFor_of_name own_pn281) X00 cx.2.1 (fun _ => rfl) ?_
  intro p e s m below meth c vm hx hby hml hret hnm hC0 hW0
  have lt_r : h0.size > r := P0.lt
  have lt_s0_ : h0.size > s0_ := P3.lt
  obtain ⟨Sdz, Edz, Vdz, Sel, Eel, Fee, Vee, Fan, Sem, Eem, Mmr⟩ := id hL
  refine ginfo fun _ _ OL1 => ?_
  have Eem_1 := Eem.ext OL1
  have lt_em : h0.size > em := Eem_1.lt
  refine vAN 1 d432 ?_
  refine gF (oz hw 462) P2 4 d433 ?_
  refine ggetS (host := c19_) hx (Or.inr (oz hw 469)) Via.refl Sem 7 (hb hby d434) rfl ?_
  refine gx (mkF m 14 #[vr r] []) (fun T locs X _ _ _ _ kq => Jvm.RoadKit.acmp (g := (mkF m 7 #[vr r] [(.ref em), (.ref em)])) X hx rfl rfl rfl (pc0 := 7) (pc' := 14) (same := true) rfl (hb hby d435) rfl (decide_eq_true rfl) (by decide) (by decide) kq) ?_
  refine vKc 15 (1 : Int32) d436 ?_
  exact gretI hx hret (hb hby d437) (by decide) (by decide) (fun vq Cq => ⟨rfl, rfl⟩)
theorem d439 : Dc y37_ 0 (.iload_n 1) 1 := by decide +kernel
theorem d440 : Dc y37_ 1 (.ifCond .ne 8) 3 := by decide +kernel
theorem d441 : Dc y37_ 4 (.aload_n 0) 1 := by decide +kernel
theorem d442 : Dc y37_ 5 (.getfield 13) 3 := by decide +kernel
theorem d443 : Dc y37_ 8 (.areturn) 1 := by decide +kernel
abbrev mn444 : MethodName := ⟨"java/util/ImmutableCollections$List12", "get", "(I)Ljava/lang/Object;"⟩
theorem own_lget1_0 {l : Launch} {Z : State} {a0 : Array Value} (cx : Ctx Z a0) (r s0_ : Addr) {dz el ee em mr : Addr} {kd ke : ClassId} (vm0 : Vm) (h0 : Heap) (X00 : Ext Z.heap h0) (P0 : Exa Z h0 r c20_) (P1 : Fld Z h0 r c20_ "e0" c0_ (.ref s0_)) (P2 : Fld Z h0 r c20_ "e1" c0_ (.ref em)) (P3 : Exa Z h0 s0_ c13_) (hL : (OwnL Z dz el ee em mr kd ke)) :
    Met l mn444 y37_ 2 (some (.object c12_)) [] (Rm 0 0 0 0) Z consts_1 vm0 h0 #[(.ref r), (.int (0 : Int32))] (fun rv vm h => rv = some (.ref s0_) ∧ h0 = h) := by
  have hw := cx.1
  refine Met.of_walk (a0 := a0) #[vr r, vi (0 : Int32)] (plainFor_of_name own_pn281) X00 cx.2.1 (fun _ => rfl) ?_
  intro p e s m below meth c vm hx hby hml hret hnm hC0 hW0
  have lt_r : h0.size > r := P0.lt
  have lt_s0_ : h0.size > s0_ := P3.lt
  obtain ⟨Sdz, Edz, Vdz, Sel, Eel, Fee, Vee, Fan, Sem, Eem, Mmr⟩ := id hL
  refine ginfo fun _ _ OL1 => ?_
  have Eem_1 := Eem.ext OL1
  have lt_em : h0.size > em := Eem_1.lt
  refine vIN 1 d439 ?_
  refine vN 4 d440 ((if0 _ _).trans (teq (by decide)).2) ?_
  refine vAN 5 d441 ?_
  refine gF (oz hw 460) P1 8 d442 ?_
  exact gretA hx hret rfl rfl (hb hby d443) (by decide) (by decide) (fun vq Cq => ⟨rfl, rfl⟩)
theorem own_lc2 {l : Launch} {Z : State} {a0 : Array Value} (cx : Ctx Z a0) (x d : Addr) (kc : ClassId) (s0_ s1_ : Addr) {dz el ee em mr : Addr} {kd ke : ClassId} (vm0 : Vm) (h0 : Heap) (X00 : Ext Z.heap h0) (P0 : Exa Z h0 x c17_) (P1 : Fld Z h0 x c17_ c7_ c4_ (.ref d)) (P2 : Fld Z h0 x c17_ "size" "I" (.int (2 : Int32))) (P3 : Arv Z h0 d kc (.object c12_) (10 : Int32) [(.ref s0_), (.ref s1_), .null, .null, .null, .null, .null, .null, .null, .null] .null) (P4 : Exa Z h0 d c4_) (hov : (Ovr Z kc c12_)) (P6 : Exa Z h0 s0_ c13_) (P7 : Exa Z h0 s1_ c13_) (hL : (OwnL Z dz el ee em mr kd ke)) :
    Met l mn416 y51_ 2 (some (.object c24_)) [] (Rm 6 2 4 76) Z consts_1 vm0 h0 #[(.ref x)] (fun rv vm h => ∃ (r : Addr), rv = some (.ref r) ∧ Keep h0 h [] ∧ h0.size ≤ r ∧ Exa Z h r c20_ ∧ Fld Z h r c20_ "e0" c0_ (.ref s0_) ∧ Fld Z h r c20_ "e1" c0_ (.ref s1_)) := by
  have hw := cx.1
  refine Met.of_walk (a0 := a0) #[vr x, un] (plainFor_of_name own_pn398) X00 cx.2.1 (fun _ => rfl) ?_
  intro p e s m below meth c vm hx hby hml hret hnm hC0 hW0
  have lt_x : h0.size > x := P0.lt
  have lt_d : h0.size > d := P3.lt
  have lt_s0_ : h0.size > s0_ := P6.lt
  have lt_s1_ : h0.size > s1_ := P7.lt
  refine vAN 1 d403 ?_
  refine ginstN hx (oz hw 115) P0 (NSno (oz hw 116) (oz hw 437) (NS.step (oz hw 116) (NS.step (oz hw 117) (NS.step (oz hw 118) (NSroot (oz hw 119) (oz hw 437) (by decide)) (by decide)) (by decide)) (by decide)) (by decide)) 4 (hb hby d404) rfl ?_
  refine vN 7 d405 ((if0 _ _).trans (teq (by decide)).2) ?_
  refine vAN 8 d406 ?_
  refine ginstN hx (oz hw 120) P0 (NSno (oz hw 116) (oz hw 511) (NS.step (oz hw 116) (NS.step (oz hw 117) (NS.step (oz hw 118) (NSroot (oz hw 119) (oz hw 511) (by decide)) (by decide)) (by decide)) (by decide)) (by decide)) 11 (hb hby d407) rfl ?_
  refine vY 31 d408 ((if0 _ _).trans (teq (by decide)).1) ?_
  refine vAN 32 d409 ?_
  refine gmF (xi := mn411) (y := mn247) (oz hw 121) (oz hw 122) (fun _ _ hU => mvT hU (oz hw 123)) (oz hw 124) (oz hw 125) (oz hw 126) (oz hw 127) (oz hw 128) (oz hw 129) (oz hw 36) (fun O => own_alempty2 cx x vm h0 O P2) 37 (argsL := []) (rest := []) P0 own_pd43 d410 ?_
  rintro _ vm1 h1 C1 z1 ⟨rfl, rfl⟩
  refine gat1 ?_
  refine vY 44 d412 ((if0 _ _).trans (teq (by decide)).1) ?_
  refine vAN 45 d427 ?_
  refine gmF (xi := mn429) (y := mn347) (oz hw 411) (oz hw 412) (fun _ _ hU => mvT hU (oz hw 413)) (oz hw 414) (oz hw 415) (oz hw 416) (oz hw 417) (oz hw 128) (oz hw 418) (oz hw 36) (fun O => own_toarr2 cx x d kc s0_ s1_ vm1 h0 O P0 P1 P2 P3 P4 (by first | assumption | decide | omega) P6 P7 (by first | assumption | decide | omega)) 50 (argsL := []) (rest := []) P0 own_pd211 d428 ?_
  rintro _ vm2 h2 C2 z2 ⟨r2, kr2, rfl, K2, q2_0, q2_1⟩
  have lt_r2 : h2.size > r2 := q2_1.lt
  refine gat1 ?_
  have f4 := (P6.keep K2)
  have f5 := (P7.keep K2)
  refine gmS (y := mn359) (oz hw 433) (oz hw 434) (oz hw 435) (oz hw 109) (fun O => own_of2 cx r2 kr2 s0_ s1_ vm2 h2 O q2_1 f4 f5 (by first | assumption | decide | omega)) 53 (argsL := [(.ref r2)]) (rest := []) own_pd401 d430 ?_
  rintro _ vm3 h3 C3 z3 ⟨r3, rfl, K3, q3_0, q3_1, q3_2, q3_3⟩
  have lt_r3 : h3.size > r3 := q3_1.lt
  refine gat1 ?_
  exact gretA hx hret rfl rfl (hb hby d431) (by decide) (by decide) (fun vq Cq => ⟨r3, rfl, (((Keep.refl h0 []).trans K2 all0).trans K3 all0), (by omega), q3_1, q3_2, q3_3⟩)
theorem own_copy2 {l : Launch} {Z : State} {a0 : Array Value} (cx : Ctx Z a0) (x d : Addr) (kc : ClassId) (s0_ s1_ : Addr) {dz el ee em mr : Addr} {kd ke : ClassId} (vm0 : Vm) (h0 : Heap) (X00 : Ext Z.heap h0) (P0 : Exa Z h0 x c17_) (P1 : Fld Z h0 x c17_ c7_ c4_ (.ref d)) (P2 : Fld Z h0 x c17_ "size" "I" (.int (2 : Int32))) (P3 : Arv Z h0 d kc (.object c12_) (10 : Int32) [(.ref s0_), (.ref s1_), .null, .null, .null, .null, .null, .null, .null, .null] .null) (P4 : Exa Z h0 d c4_) (hov : (Ovr Z kc c12_)) (P6 : Exa Z h0 s0_ c13_) (P7 : Exa Z h0 s1_ c13_) (hL : (OwnL Z dz el ee em mr kd ke)) :
    Met l mn421 y17_ 1 (some (.object c24_)) [] (Rm 7 2 4 89) Z consts_1 vm0 h0 #[(.ref x)] (fun rv vm h => ∃ (r : Addr), rv = some (.ref r) ∧ Keep h0 h [] ∧ h0.size ≤ r ∧ Exa Z h r c20_ ∧ Fld Z h r c20_ "e0" c0_ (.ref s0_) ∧ Fld Z h r c20_ "e1" c0_ (.ref s1_)) := by
  have hw := cx.1
  refine Met.of_walk (a0 := a0) #[vr x] (plainFor_of_name own_pn252) X00 cx.2.1 (fun _ => rfl) ?_
  intro p e s m below meth c vm hx hby hml hret hnm hC0 hW0
  have lt_x : h0.size > x := P0.lt
  have lt_d : h0.size > d := P3.lt
  have lt_s0_ : h0.size > s0_ := P6.lt
  have lt_s1_ : h0.size > s1_ := P7.lt
  refine vAN 1 d417 ?_
  refine gmS (y := mn416) (oz hw 111) (oz hw 112) (oz hw 114) (oz hw 113) (fun O => own_lc2 cx x d kc s0_ s1_ vm h0 O P0 P1 P2 P3 P4 (by first | assumption | decide | omega) P6 P7 (by first | assumption | decide | omega)) 4 (argsL := [(.ref x)]) (rest := []) own_pd419 d418 ?_
  rintro _ vm1 h1 C1 z1 ⟨r1, rfl, K1, q1_0, q1_1, q1_2, q1_3⟩
  have lt_r1 : h1.size > r1 := q1_1.lt
  refine gat1 ?_
  exact gretA hx hret rfl rfl (hb hby d420) (by decide) (by decide) (fun vq Cq => ⟨r1, rfl, ((Keep.refl h0 []).trans K1 all0), (by omega), q1_1, q1_2, q1_3⟩)
theorem d445 : Dc y36_ 10 (.iconst 2) 1 := by decide +kernel
theorem d446 : Dc y36_ 11 (.goto 4) 3 := by decide +kernel
theorem own_lsize2 {l : Launch} {Z : State} {a0 : Array Value} (cx : Ctx Z a0) (r s0_ s1_ : Addr) {dz el ee em mr : Addr} {kd ke : ClassId} (vm0 : Vm) (h0 : Heap) (X00 : Ext Z.heap h0) (P0 : Exa Z h0 r c20_) (P1 : Fld Z h0 r c20_ "e0" c0_ (.ref s0_)) (P2 : Fld Z h0 r c20_ "e1" c0_ (.ref s1_)) (P3 : Exa Z h0 s0_ c13_) (P4 : Exa Z h0 s1_ c13_) (hL : (OwnL Z dz el ee em mr kd ke)) :
    Met l mn438 y36_ 1 (some .int) [] (Rm 0 0 0 0) Z consts_1 vm0 h0 #[(.ref r)] (fun rv vm h => rv = some (.int (2 : Int32)) ∧ h0 = h) := by
  have hw := cx.1
  refine Met.of_walk (a0 := a0) #[vr r] (plainFor_of_name own_pn281) X00 cx.2.1 (fun _ => rfl) ?_
  intro p e s m below meth c vm hx hby hml hret hnm hC0 hW0
  have lt_r : h0.size > r := P0.lt
  have lt_s0_ : h0.size > s0_ := P3.lt
  have lt_s1_ : h0.size > s1_ := P4.lt
  obtain ⟨Sdz, Edz, Vdz, Sel, Eel, Fee, Vee, Fan, Sem, Eem, Mmr⟩ := id hL
  refine ginfo fun _ _ OL1 => ?_
  have Eem_1 := Eem.ext OL1
  have lt_em : h0.size > em := Eem_1.lt
  refine vAN 1 d432 ?_
  refine gF (oz hw 462) P2 4 d433 ?_
  refine ggetS (host := c19_) hx (Or.inr (oz hw 469)) Via.refl Sem 7 (hb hby d434) rfl ?_
  refine gx (mkF m 10 #[vr r] []) (fun T locs X _ _ _ _ kq => Jvm.RoadKit.acmp (g := (mkF m 7 #[vr r] [(.ref em), (.ref s1_)])) X hx rfl rfl rfl (pc0 := 7) (pc' := 10) (same := false) rfl (hb hby d435) rfl (decide_eq_false fun q => (ne_exa P4 Eem_1 (by decide)) (Value.ref.inj q)) (by decide) (by decide) kq) ?_
  refine vKc 11 (2 : Int32) d445 ?_
  refine vG 15 d446 ?_
  exact gretI hx hret (hb hby d437) (by decide) (by decide) (fun vq Cq => ⟨rfl, rfl⟩)
theorem own_lget2_0 {l : Launch} {Z : State} {a0 : Array Value} (cx : Ctx Z a0) (r s0_ s1_ : Addr) {dz el ee em mr : Addr} {kd ke : ClassId} (vm0 : Vm) (h0 : Heap) (X00 : Ext Z.heap h0) (P0 : Exa Z h0 r c20_) (P1 : Fld Z h0 r c20_ "e0" c0_ (.ref s0_)) (P2 : Fld Z h0 r c20_ "e1" c0_ (.ref s1_)) (P3 : Exa Z h0 s0_ c13_) (P4 : Exa Z h0 s1_ c13_) (hL : (OwnL Z dz el ee em mr kd ke)) :
    Met l mn444 y37_ 2 (some (.object c12_)) [] (Rm 0 0 0 0) Z consts_1 vm0 h0 #[(.ref r), (.int (0 : Int32))] (fun rv vm h => rv = some (.ref s0_) ∧ h0 = h) := by
  have hw := cx.1
  refine Met.of_walk (a0 := a0) #[vr r, vi (0 : Int32)] (plainFor_of_name own_pn281) X00 cx.2.1 (fun _ => rfl) ?_
  intro p e s m below meth c vm hx hby hml hret hnm hC0 hW0
  have lt_r : h0.size > r := P0.lt
  have lt_s0_ : h0.size > s0_ := P3.lt
  have lt_s1_ : h0.size > s1_ := P4.lt
  obtain ⟨Sdz, Edz, Vdz, Sel, Eel, Fee, Vee, Fan, Sem, Eem, Mmr⟩ := id hL
  refine ginfo fun _ _ OL1 => ?_
  have Eem_1 := Eem.ext OL1
  have lt_em : h0.size > em := Eem_1.lt
  refine vIN 1 d439 ?_
  refine vN 4 d440 ((if0 _ _).trans (teq (by decide)).2) ?_
  refine vAN 5 d441 ?_
  refine gF (oz hw 460) P1 8 d442 ?_
  exact gretA hx hret rfl rfl (hb hby d443) (by decide) (by decide) (fun vq Cq => ⟨rfl, rfl⟩)
theorem d447 : Dc y37_ 9 (.iload_n 1) 1 := by decide +kernel
theorem d448 : Dc y37_ 10 (.iconst 1) 1 := by decide +kernel
theorem d449 : Dc y37_ 11 (.if_icmp .ne 18) 3 := by decide +kernel
theorem d450 : Dc y37_ 14 (.aload_n 0) 1 := by decide +kernel
theorem d451 : Dc y37_ 15 (.getfield 24) 3 := by decide +kernel
theorem d452 : Dc y37_ 18 (.getstatic 19) 3 := by decide +kernel
theorem d453 : Dc y37_ 21 (.if_acmp .eq 8) 3 := by decide +kernel
theorem d454 : Dc y37_ 24 (.aload_n 0) 1 := by decide +kernel
theorem d455 : Dc y37_ 25 (.getfield 24) 3 := by decide +kernel
theorem d456 : Dc y37_ 28 (.areturn) 1 := by decide +kernel
theorem own_lget2_1 {l : Launch} {Z : State} {a0 : Array Value} (cx : Ctx Z a0) (r s0_ s1_ : Addr) {dz el ee em mr : Addr} {kd ke : ClassId} (vm0 : Vm) (h0 : Heap) (X00 : Ext Z.heap h0) (P0 : Exa Z h0 r c20_) (P1 : Fld Z h0 r c20_ "e0" c0_ (.ref s0_)) (P2 : Fld Z h0 r c20_ "e1" c0_ (.ref s1_)) (P3 : Exa Z h0 s0_ c13_) (P4 : Exa Z h0 s1_ c13_) (hL : (OwnL Z dz el ee em mr kd ke)) :
    Met l mn444 y37_ 2 (some (.object c12_)) [] (Rm 0 0 0 0) Z consts_1 vm0 h0 #[(.ref r), (.int (1 : Int32))] (fun rv vm h => rv = some (.ref s1_) ∧ h0 = h) := by
  have hw := cx.1
  refine Met.of_walk (a0 := a0) #[vr r, vi (1 : Int32)] (plainFor_of_name own_pn281) X00 cx.2.1 (fun _ => rfl) ?_
  intro p e s m below meth c vm hx hby hml hret hnm hC0 hW0
  have lt_r : h0.size > r := P0.lt
  have lt_s0_ : h0.size > s0_ := P3.lt
  have lt_s1_ : h0.size > s1_ := P4.lt
  obtain ⟨Sdz, Edz, Vdz, Sel, Eel, Fee, Vee, Fan, Sem, Eem, Mmr⟩ := id hL
  refine ginfo fun _ _ OL1 => ?_
  have Eem_1 := Eem.ext OL1
  have lt_em : h0.size > em := Eem_1.lt
  refine vIN 1 d439 ?_
  refine vY 9 d440 ((if0 _ _).trans (feq (by decide)).2) ?_
  refine vIN 10 d447 ?_
  refine vKc 11 (1 : Int32) d448 ?_
  refine vNc 14 d449 (teq (by decide)).2 ?_
  refine vAN 15 d450 ?_
  refine gF (oz hw 462) P2 18 d451 ?_
  refine ggetS (host := c19_) hx (Or.inr (oz hw 469)) Via.refl Sem 21 (hb hby d452) rfl ?_
  refine gx (mkF m 24 #[vr r, vi (1 : Int32)] []) (fun T locs X _ _ _ _ kq => Jvm.RoadKit.acmp (g := (mkF m 21 #[vr r, vi (1 : Int32)] [(.ref em), (.ref s1_)])) X hx rfl rfl rfl (pc0 := 21) (pc' := 24) (same := false) rfl (hb hby d453) rfl (decide_eq_false fun q => (ne_exa P4 Eem_1 (by decide)) (Value.ref.inj q)) (by decide) (by decide) kq) ?_
  refine vAN 25 d454 ?_
  refine gF (oz hw 462) P2 28 d455 ?_
  exact gretA hx hret rfl rfl (hb hby d456) (by decide) (by decide) (fun vq Cq => ⟨rfl, rfl⟩)
theorem own_lc3 {l : Launch} {Z : State} {a0 : Array Value} (cx : Ctx Z a0) (x d : Addr) (kc : ClassId) (s0_ s1_ s2_ : Addr) {dz el ee em mr : Addr} {kd ke : ClassId} (vm0 : Vm) (h0 : Heap) (X00 : Ext Z.heap h0) (P0 : Exa Z h0 x c17_) (P1 : Fld Z h0 x c17_ c7_ c4_ (.ref d)) (P2 : Fld Z h0 x c17_ "size" "I" (.int (3 : Int32))) (P3 : Arv Z h0 d kc (.object c12_) (10 : Int32) [(.ref s0_), (.ref s1_), (.ref s2_), .null, .null, .null, .null, .null, .null, .null] .null) (P4 : Exa Z h0 d c4_) (hov : (Ovr Z kc c12_)) (P6 : Exa Z h0 s0_ c13_) (P7 : Exa Z h0 s1_ c13_) (P8 : Exa Z h0 s2_ c13_) (hL : (OwnL Z dz el ee em mr kd ke)) :
    Met l mn416 y51_ 2 (some (.object c24_)) [] (Rm 7 3 8 90) Z consts_1 vm0 h0 #[(.ref x)] (fun rv vm h => ∃ (r : Addr), ∃ (g : Addr), ∃ (kg : ClassId), rv = some (.ref r) ∧ Keep h0 h [] ∧ h0.size ≤ r ∧ Exa Z h r c22_ ∧ Fld Z h r c22_ "elements" c4_ (.ref g) ∧ Arv Z h g kg (.object c12_) (3 : Int32) [(.ref s0_), (.ref s1_), (.ref s2_)] .null) := by
  have hw := cx.1
  refine Met.of_walk (a0 := a0) #[vr x, un] (plainFor_of_name own_pn398) X00 cx.2.1 (fun _ => rfl) ?_
  intro p e s m below meth c vm hx hby hml hret hnm hC0 hW0
  have lt_x : h0.size > x := P0.lt
  have lt_d : h0.size > d := P3.lt
  have lt_s0_ : h0.size > s0_ := P6.lt
  have lt_s1_ : h0.size > s1_ := P7.lt
  have lt_s2_ : h0.size > s2_ := P8.lt
  refine vAN 1 d403 ?_
  refine ginstN hx (oz hw 115) P0 (NSno (oz hw 116) (oz hw 437) (NS.step (oz hw 116) (NS.step (oz hw 117) (NS.step (oz hw 118) (NSroot (oz hw 119) (oz hw 437) (by decide)) (by decide)) (by decide)) (by decide)) (by decide)) 4 (hb hby d404) rfl ?_
  refine vN 7 d405 ((if0 _ _).trans (teq (by decide)).2) ?_
  refine vAN 8 d406 ?_
  refine ginstN hx (oz hw 120) P0 (NSno (oz hw 116) (oz hw 511) (NS.step (oz hw 116) (NS.step (oz hw 117) (NS.step (oz hw 118) (NSroot (oz hw 119) (oz hw 511) (by decide)) (by decide)) (by decide)) (by decide)) (by decide)) 11 (hb hby d407) rfl ?_
  refine vY 31 d408 ((if0 _ _).trans (teq (by decide)).1) ?_
  refine vAN 32 d409 ?_
  refine gmF (xi := mn411) (y := mn247) (oz hw 121) (oz hw 122) (fun _ _ hU => mvT hU (oz hw 123)) (oz hw 124) (oz hw 125) (oz hw 126) (oz hw 127) (oz hw 128) (oz hw 129) (oz hw 36) (fun O => own_alempty3 cx x vm h0 O P2) 37 (argsL := []) (rest := []) P0 own_pd43 d410 ?_
  rintro _ vm1 h1 C1 z1 ⟨rfl, rfl⟩
  refine gat1 ?_
  refine vY 44 d412 ((if0 _ _).trans (teq (by decide)).1) ?_
  refine vAN 45 d427 ?_
  refine gmF (xi := mn429) (y := mn347) (oz hw 411) (oz hw 412) (fun _ _ hU => mvT hU (oz hw 413)) (oz hw 414) (oz hw 415) (oz hw 416) (oz hw 417) (oz hw 128) (oz hw 418) (oz hw 36) (fun O => own_toarr3 cx x d kc s0_ s1_ s2_ vm1 h0 O P0 P1 P2 P3 P4 (by first | assumption | decide | omega) P6 P7 P8 (by first | assumption | decide | omega)) 50 (argsL := []) (rest := []) P0 own_pd211 d428 ?_
  rintro _ vm2 h2 C2 z2 ⟨r2, kr2, rfl, K2, q2_0, q2_1⟩
  have lt_r2 : h2.size > r2 := q2_1.lt
  refine gat1 ?_
  have f4 := (P6.keep K2)
  have f5 := (P7.keep K2)
  have f6 := (P8.keep K2)
  refine gmS (y := mn359) (oz hw 433) (oz hw 434) (oz hw 435) (oz hw 109) (fun O => own_of3 cx r2 kr2 s0_ s1_ s2_ vm2 h2 O q2_1 f4 f5 f6 (by first | assumption | decide | omega)) 53 (argsL := [(.ref r2)]) (rest := []) own_pd401 d430 ?_
  rintro _ vm3 h3 C3 z3 ⟨r3, g3, kg3, rfl, K3, q3_0, q3_1, q3_2, q3_3⟩
  have lt_r3 : h3.size > r3 := q3_1.lt
  have lt_g3 : h3.size > g3 := q3_3.lt
  refine gat1 ?_
  exact gretA hx hret rfl rfl (hb hby d431) (by decide) (by decide) (fun vq Cq => ⟨r3, g3, kg3, rfl, (((Keep.refl h0 []).trans K2 all0).trans K3 all0), (by omega), q3_1, q3_2, q3_3⟩)
theorem own_copy3 {l : Launch} {Z : State} {a0 : Array Value} (cx : Ctx Z a0) (x d : Addr) (kc : ClassId) (s0_ s1_ s2_ : Addr) {dz el ee em mr : Addr} {kd ke : ClassId} (vm0 : Vm) (h0 : Heap) (X00 : Ext Z.heap h0) (P0 : Exa Z h0 x c17_) (P1 : Fld Z h0 x c17_ c7_ c4_ (.ref d)) (P2 : Fld Z h0 x c17_ "size" "I" (.int (3 : Int32))) (P3 : Arv Z h0 d kc (.object c12_) (10 : Int32) [(.ref s0_), (.ref s1_), (.ref s2_), .null, .null, .null, .null, .null, .null, .null] .null) (P4 : Exa Z h0 d c4_) (hov : (Ovr Z kc c12_)) (P6 : Exa Z h0 s0_ c13_) (P7 : Exa Z h0 s1_ c13_) (P8 : Exa Z h0 s2_ c13_) (hL : (OwnL Z dz el ee em mr kd ke)) :
    Met l mn421 y17_ 1 (some (.object c24_)) [] (Rm 8 3 8 103) Z consts_1 vm0 h0 #[(.ref x)] (fun rv vm h => ∃ (r : Addr), ∃ (g : Addr), ∃ (kg : ClassId), rv = some (.ref r) ∧ Keep h0 h [] ∧ h0.size ≤ r ∧ Exa Z h r c22_ ∧ Fld Z h r c22_ "elements" c4_ (.ref g) ∧ Arv Z h g kg (.object c12_) (3 : Int32) [(.ref s0_), (.ref s1_), (.ref s2_)] .null) := by
  have hw := cx.1
  refine Met.of_walk (a0 := a0) #[vr x] (plainFor_of_name own_pn252) X00 cx.2.1 (fun _ => rfl) ?_
  intro p e s m below meth c vm hx hby hml hret hnm hC0 hW0
  have lt_x : h0.size > x := P0.lt
  have lt_d : h0.size > d := P3.lt
  have lt_s0_ : h0.size > s0_ := P6.lt
  have lt_s1_ : h0.size > s1_ := P7.lt
  have lt_s2_ : h0.size > s2_ := P8.lt
  refine vAN 1 d417 ?_
  refine gmS (y := mn416) (oz hw 111) (oz hw 112) (oz hw 114) (oz hw 113) (fun O => own_lc3 cx x d kc s0_ s1_ s2_ vm h0 O P0 P1 P2 P3 P4 (by first | assumption | decide | omega) P6 P7 P8 (by first | assumption | decide | omega)) 4 (argsL := [(.ref x)]) (rest := []) own_pd419 d418 ?_
  rintro _ vm1 h1 C1 z1 ⟨r1, g1, kg1, rfl, K1, q1_0, q1_1, q1_2, q1_3⟩
  have lt_r1 : h1.size > r1 := q1_1.lt
  have lt_g1 : h1.size > g1 := q1_3.lt
  refine gat1 ?_
  exact gretA hx hret rfl rfl (hb hby d420) (by decide) (by decide) (fun vq Cq => ⟨r1, g1, kg1, rfl, ((Keep.refl h0 []).trans K1 all0), (by omega), q1_1, q1_2, q1_3⟩)
theorem own_lsize3 {l : Launch} {Z : State} {a0 : Array Value} (cx : Ctx Z a0) (r g : Addr) (kg : ClassId) (s0_ s1_ s2_ : Addr) (vm0 : Vm) (h0 : Heap) (X00 : Ext Z.heap h0) (P0 : Exa Z h0 r c22_) (P1 : Fld Z h0 r c22_ "elements" c4_ (.ref g)) (P2 : Arv Z h0 g kg (.object c12_) (3 : Int32) [(.ref s0_), (.ref s1_), (.ref s2_)] .null) :
    Met l mn426 y39_ 1 (some .int) [] (Rm 0 0 0 0) Z consts_1 vm0 h0 #[(.ref r)] (fun rv vm h => rv = some (.int (3 : Int32)) ∧ h0 = h) := by
  have hw := cx.1
  refine Met.of_walk (a0 := a0) #[vr r] (plainFor_of_name own_pn304) X00 cx.2.1 (fun _ => rfl) ?_
  intro p e s m below meth c vm hx hby hml hret hnm hC0 hW0
  have lt_r : h0.size > r := P0.lt
  have lt_g : h0.size > g := P2.lt
  refine vAN 1 d422 ?_
  refine gF (oz hw 240) P1 4 d423 ?_
  refine glen hx P2 5 (hb hby d424) rfl ?_
  exact gretI hx hret (hb hby d425) (by decide) (by decide) (fun vq Cq => ⟨rfl, rfl⟩)
theorem d457 : Dc y40_ 0 (.aload_n 0) 1 := by decide +kernel
theorem d458 : Dc y40_ 1 (.getfield 7) 3 := by decide +kernel
theorem d459 : Dc y40_ 4 (.iload_n 1) 1 := by decide +kernel
theorem d460 : Dc y40_ 5 (.aaload) 1 := by decide +kernel
theorem d461 : Dc y40_ 6 (.areturn) 1 := by decide +kernel
abbrev mn462 : MethodName := ⟨"java/util/ImmutableCollections$ListN", "get", "(I)Ljava/lang/Object;"⟩
theorem own_lget3_0 {l : Launch} {Z : State} {a0 : Array Value} (cx : Ctx Z a0) (r g : Addr) (kg : ClassId) (s0_ s1_ s2_ : Addr) (vm0 : Vm) (h0 : Heap) (X00 : Ext Z.heap h0) (P0 : Exa Z h0 r c22_) (P1 : Fld Z h0 r c22_ "elements" c4_ (.ref g)) (P2 : Arv Z h0 g kg (.object c12_) (3 : Int32) [(.ref s0_), (.ref s1_), (.ref s2_)] .null) :
    Met l mn462 y40_ 2 (some (.object c12_)) [] (Rm 0 0 0 0) Z consts_1 vm0 h0 #[(.ref r), (.int (0 : Int32))] (fun rv vm h => rv = some (.ref s0_) ∧ h0 = h) := by
  have hw := cx.1
  refine Met.of_walk (a0 := a0) #[vr r, vi (0 : Int32)] (plainFor_of_name own_pn304) X00 cx.2.1 (fun _ => rfl) ?_
  intro p e s m below meth c vm hx hby hml hret hnm hC0 hW0
  have lt_r : h0.size > r := P0.lt
  have lt_g : h0.size > g := P2.lt
  refine vAN 1 d457 ?_
  refine gF (oz hw 240) P1 4 d458 ?_
  refine vIN 5 d459 ?_
  refine gldR hx P2 ⟨by decide, by decide⟩ (i := 0) rfl (v := (.ref s0_)) rfl 6 (hb hby d460) rfl ?_
  exact gretA hx hret rfl rfl (hb hby d461) (by decide) (by decide) (fun vq Cq => ⟨rfl, rfl⟩)
theorem own_lget3_1 {l : Launch} {Z : State} {a0 : Array Value} (cx : Ctx Z a0) (r g : Addr) (kg : ClassId) (s0_ s1_ s2_ : Addr) (vm0 : Vm) (h0 : Heap) (X00 : Ext Z.heap h0) (P0 : Exa Z h0 r c22_) (P1 : Fld Z h0 r c22_ "elements" c4_ (.ref g)) (P2 : Arv Z h0 g kg (.object c12_) (3 : Int32) [(.ref s0_), (.ref s1_), (.ref s2_)] .null) :
    Met l mn462 y40_ 2 (some (.object c12_)) [] (Rm 0 0 0 0) Z consts_1 vm0 h0 #[(.ref r), (.int (1 : Int32))] (fun rv vm h => rv = some (.ref s1_) ∧ h0 = h) := by
  have hw := cx.1
  refine Met.of_walk (a0 := a0) #[vr r, vi (1 : Int32)] (plainFor_of_name own_pn304) X00 cx.2.1 (fun _ => rfl) ?_
  intro p e s m below meth c vm hx hby hml hret hnm hC0 hW0
  have lt_r : h0.size > r := P0.lt
  have lt_g : h0.size > g := P2.lt
  refine vAN 1 d457 ?_
  refine gF (oz hw 240) P1 4 d458 ?_
  refine vIN 5 d459 ?_
  refine gldR hx P2 ⟨by decide, by decide⟩ (i := 1) rfl (v := (.ref s1_)) rfl 6 (hb hby d460) rfl ?_
  exact gretA hx hret rfl rfl (hb hby d461) (by decide) (by decide) (fun vq Cq => ⟨rfl, rfl⟩)
theorem own_lget3_2 {l : Launch} {Z : State} {a0 : Array Value} (cx : Ctx Z a0) (r g : Addr) (kg : ClassId) (s0_ s1_ s2_ : Addr) (vm0 : Vm) (h0 : Heap) (X00 : Ext Z.heap h0) (P0 : Exa Z h0 r c22_) (P1 : Fld Z h0 r c22_ "elements" c4_ (.ref g)) (P2 : Arv Z h0 g kg (.object c12_) (3 : Int32) [(.ref s0_), (.ref s1_), (.ref s2_)] .null) :
    Met l mn462 y40_ 2 (some (.object c12_)) [] (Rm 0 0 0 0) Z consts_1 vm0 h0 #[(.ref r), (.int (2 : Int32))] (fun rv vm h => rv = some (.ref s2_) ∧ h0 = h) := by
  have hw := cx.1
  refine Met.of_walk (a0 := a0) #[vr r, vi (2 : Int32)] (plainFor_of_name own_pn304) X00 cx.2.1 (fun _ => rfl) ?_
  intro p e s m below meth c vm hx hby hml hret hnm hC0 hW0
  have lt_r : h0.size > r := P0.lt
  have lt_g : h0.size > g := P2.lt
  refine vAN 1 d457 ?_
  refine gF (oz hw 240) P1 4 d458 ?_
  refine vIN 5 d459 ?_
  refine gldR hx P2 ⟨by decide, by decide⟩ (i := 2) rfl (v := (.ref s2_)) rfl 6 (hb hby d460) rfl ?_
  exact gretA hx hret rfl rfl (hb hby d461) (by decide) (by decide) (fun vq Cq => ⟨rfl, rfl⟩)
theorem d463 : Dc y44_ 0 (.aload_n 0) 1 := by decide +kernel
theorem d464 : Dc y44_ 1 (.aload_n 1) 1 := by decide +kernel
theorem d465 : Dc y44_ 2 (.putfield 1) 3 := by decide +kernel
theorem d466 : Dc y44_ 5 (.aload_n 0) 1 := by decide +kernel
theorem d467 : Dc y44_ 6 (.invokespecial 7) 3 := by decide +kernel
theorem d468 : Dc y44_ 9 (.aload_n 0) 1 := by decide +kernel
theorem d469 : Dc y44_ 10 (.iconst (-1)) 1 := by decide +kernel
theorem d470 : Dc y44_ 11 (.putfield 13) 3 := by decide +kernel
theorem d471 : Dc y44_ 14 (.aload_n 0) 1 := by decide +kernel
theorem d472 : Dc y44_ 15 (.aload_n 0) 1 := by decide +kernel
theorem d473 : Dc y44_ 16 (.getfield 1) 3 := by decide +kernel
theorem d474 : Dc y44_ 19 (.getfield 17) 3 := by decide +kernel
theorem d475 : Dc y44_ 22 (.putfield 22) 3 := by decide +kernel
theorem d476 : Dc y44_ 25 (.return_) 1 := by decide +kernel
abbrev mn477 : MethodName := ⟨"java/util/ArrayList$Itr", "<init>", "(Ljava/util/ArrayList;)V"⟩
theorem own_pn478 : plainName "java/util/ArrayList$Itr" = true := by first | (simp [plainName, overriddenIn]; done) | decide +kernel
theorem own_itinit {l : Launch} {Z : State} {a0 : Array Value} (cx : Ctx Z a0) (it x : Addr) (u : Value) (mc q1 q2 : Int32) (vm0 : Vm) (h0 : Heap) (X00 : Ext Z.heap h0) (P0 : Exa Z h0 it c18_) (P1 : Fld Z h0 it c18_ "this$0" c2_ u) (P2 : Fld Z h0 it c18_ "lastRet" "I" (.int q1)) (P3 : Fld Z h0 it c18_ c8_ "I" (.int q2)) (P4 : Fld Z h0 it c18_ "cursor" "I" (.int (0 : Int32))) (P5 : Z.heap.size ≤ it) (P6 : Exa Z h0 x c17_) (P7 : Fld Z h0 x c16_ "modCount" "I" (.int mc)) :
    Met l mn477 y44_ 2 none [] (Rm 1 0 0 12) Z consts_1 vm0 h0 #[(.ref it), (.ref x)] (fun rv vm h => rv = none ∧ Keep h0 h [it] ∧ Fld Z h it c18_ "this$0" c2_ (.ref x) ∧ Fld Z h it c18_ "cursor" "I" (.int (0 : Int32)) ∧ Fld Z h it c18_ c8_ "I" (.int mc) ∧ Fld Z h it c18_ "lastRet" "I" (.int (-1 : Int32))) := by
  have hw := cx.1
  refine Met.of_walk (a0 := a0) #[vr it, vr x] (plainFor_of_name own_pn478) X00 cx.2.1 (fun _ => rfl) ?_
  intro p e s m below meth c vm hx hby hml hret hnm hC0 hW0
  have lt_it : h0.size > it := P0.lt
  have lt_x : h0.size > x := P6.lt
  refine vAN 1 d463 ?_
  refine vAN 2 d464 ?_
  refine gputF (host := "") hx (Or.inl (oz hw 81)) Via.refl P1 P0 (Or.inr ⟨(oz hw 82), rfl, hnm⟩) (oz hw 75) (ty := (.object c17_)) (by decide) rfl rfl P5 (fun al => Safe.exa al P0 (by decide) (by decide)) 5 (hb hby d465) rfl ?_
  intro h1 W1 C1
  have z1 := C1.2.1
  have F1 := P1.same W1
  refine vAN 6 d466 ?_
  refine ginitO hx (oz hw 83) (oz hw 16) (oz hw 17) 9 (W := 0) (Nat.le_of_eq rfl) (by rw [hml]; rfl) (hb hby d467) rfl (by decide) (by decide) ?_
  refine vAN 10 d468 ?_
  refine vKc 11 (-1 : Int32) d469 ?_
  have f3 := (P2.other W1 (Or.inr (slot_ne (Or.inl (oz hw 85)) (Or.inr (oz hw 82)) (by decide) (t := .int) (t' := (.object c17_)) (by decide) (by decide))))
  have f4 := (P0.wr W1)
  refine gputF (host := "") hx (Or.inl (oz hw 84)) Via.refl f3 f4 (Or.inl (oz hw 85)) (oz hw 75) (ty := .int) (by decide) rfl rfl P5 (fun al => Safe.exa al f4 (by decide) (by decide)) 14 (hb hby d470) rfl ?_
  intro h5 W5 C5
  have z5 := C5.2.1
  have F5 := f3.same W5
  refine vAN 15 d471 ?_
  refine vAN 16 d472 ?_
  have f6 := (F1.other W5 (Or.inr (slot_ne (Or.inr (oz hw 82)) (Or.inl (oz hw 85)) (by decide) (t := (.object c17_)) (t' := .int) (by decide) (by decide))))
  refine gF (oz hw 81) f6 19 d473 ?_
  have f7 := ((P6.wr W1).wr W5)
  have f8 := (f4.wr W5)
  have f9 := ((P7.other W1 (Or.inl (ne_exa f7 f8 (by decide)))).other W5 (Or.inl (ne_exa f7 f8 (by decide))))
  refine ggetF (host := "") hx (Or.inl (oz hw 86)) (Via.of (oz hw 87)) f9 22 (hb hby d474) rfl ?_
  have f10 := ((P3.other W1 (Or.inr (slot_ne (Or.inl (oz hw 89)) (Or.inr (oz hw 82)) (by decide) (t := .int) (t' := (.object c17_)) (by decide) (by decide)))).other W5 (Or.inr (slot_ne (Or.inl (oz hw 89)) (Or.inl (oz hw 85)) (by decide) (t := .int) (t' := .int) (by decide) (by decide))))
  refine gputF (host := "") hx (Or.inl (oz hw 88)) Via.refl f10 f8 (Or.inl (oz hw 89)) (oz hw 75) (ty := .int) (by decide) rfl rfl P5 (fun al => Safe.exa al f8 (by decide) (by decide)) 25 (hb hby d475) rfl ?_
  intro h11 W11 C11
  have z11 := C11.2.1
  have F11 := f10.same W11
  have f13 := (f6.other W11 (Or.inr (slot_ne (Or.inr (oz hw 82)) (Or.inl (oz hw 89)) (by decide) (t := (.object c17_)) (t' := .int) (by decide) (by decide))))
  have f14 := (((P4.other W1 (Or.inr (slot_ne (Or.inl (oz hw 100)) (Or.inr (oz hw 82)) (by decide) (t := .int) (t' := (.object c17_)) (by decide) (by decide)))).other W5 (Or.inr (slot_ne (Or.inl (oz hw 100)) (Or.inl (oz hw 85)) (by decide) (t := .int) (t' := .int) (by decide) (by decide)))).other W11 (Or.inr (slot_ne (Or.inl (oz hw 100)) (Or.inl (oz hw 89)) (by decide) (t := .int) (t' := .int) (by decide) (by decide))))
  have f15 := (F5.other W11 (Or.inr (slot_ne (Or.inl (oz hw 85)) (Or.inl (oz hw 89)) (by decide) (t := .int) (t' := .int) (by decide) (by decide))))
  exact gretV hx hret (hb hby d476) (by decide) (by decide) (fun vq Cq => ⟨rfl, ((((Keep.refl h0 [it]).wr W1 (Or.inl (List.mem_of_getElem? (i := 0) rfl))).wr W5 (Or.inl (List.mem_of_getElem? (i := 0) rfl))).wr W11 (Or.inl (List.mem_of_getElem? (i := 0) rfl))), f13, f14, F11, f15⟩)
theorem d479 : Dc y11_ 0 (.new 267) 3 := by decide +kernel
theorem d480 : Dc y11_ 3 (.dup) 1 := by decide +kernel
theorem d481 : Dc y11_ 4 (.aload_n 0) 1 := by decide +kernel
theorem d482 : Dc y11_ 5 (.invokespecial 269) 3 := by decide +kernel
theorem own_pd483 : parseMethodDescriptor "(Ljava/util/ArrayList;)V" = some ⟨[(.object "java/util/ArrayList")], none⟩ := by decide +kernel
theorem d484 : Dc y11_ 8 (.areturn) 1 := by decide +kernel
abbrev mn485 : MethodName := ⟨"java/util/ArrayList", "iterator", "()Ljava/util/Iterator;"⟩
theorem own_iterator {l : Launch} {Z : State} {a0 : Array Value} (cx : Ctx Z a0) (x : Addr) (mc : Int32) (vm0 : Vm) (h0 : Heap) (X00 : Ext Z.heap h0) (P0 : Exa Z h0 x c17_) (P1 : Fld Z h0 x c16_ "modCount" "I" (.int mc)) :
    Met l mn485 y11_ 1 (some (.object c23_)) [] (Rm 2 1 4 26) Z consts_1 vm0 h0 #[(.ref x)] (fun rv vm h => ∃ (it : Addr), rv = some (.ref it) ∧ Keep h0 h [] ∧ h0.size ≤ it ∧ Z.heap.size ≤ it ∧ Exa Z h it c18_ ∧ Fld Z h it c18_ "this$0" c2_ (.ref x) ∧ Fld Z h it c18_ "cursor" "I" (.int (0 : Int32)) ∧ Fld Z h it c18_ c8_ "I" (.int mc) ∧ Fld Z h it c18_ "lastRet" "I" (.int (-1 : Int32))) := by
  have hw := cx.1
  refine Met.of_walk (a0 := a0) #[vr x] (plainFor_of_name own_pn167) X00 cx.2.1 (fun _ => rfl) ?_
  intro p e s m below meth c vm hx hby hml hret hnm hC0 hW0
  have lt_x : h0.size > x := P0.lt
  refine gnewO hx (oz hw 74) (oz hw 75) (oz hw 76) 3 (hb hby d479) rfl (by decide) (by decide) ?_
  intro b1 h1 g1 E1 C1 A1 D1 n1 L1
  have z1 := C1.2.1
  have lt_b1 : h1.size > b1 := A1.lt
  have F1_this_0 : Fld Z h1 b1 c18_ "this$0" c2_ .null := D1 (Or.inr (oz hw 82)) (ty := (.object c17_)) (by decide)
  have F1_lastRet : Fld Z h1 b1 c18_ "lastRet" "I" (.int (0 : Int32)) := D1 (Or.inl (oz hw 85)) (ty := .int) (by decide)
  have F1_expectedModCount : Fld Z h1 b1 c18_ c8_ "I" (.int (0 : Int32)) := D1 (Or.inl (oz hw 89)) (ty := .int) (by decide)
  have F1_cursor : Fld Z h1 b1 c18_ "cursor" "I" (.int (0 : Int32)) := D1 (Or.inl (oz hw 100)) (ty := .int) (by decide)
  refine vD 4 d480 ?_
  refine vAN 5 d481 ?_
  have f3 := (P0.ext E1)
  have f4 := (P1.ext E1)
  refine gmI (y := mn477) rfl (oz hw 77) (oz hw 78) (oz hw 80) (oz hw 76) (fun O => own_itinit cx b1 x (.null) mc ((0 : Int32)) ((0 : Int32)) vm h1 O A1 F1_this_0 F1_lastRet F1_expectedModCount F1_cursor n1 f3 f4) 8 (argsL := [(.ref x)]) (rest := [(.ref b1)]) (a := b1) own_pd483 d482 ?_
  rintro _ vm2 h2 C2 z2 ⟨rfl, K2, q2_0, q2_1, q2_2, q2_3⟩
  refine gat0 ?_
  have f6 := (A1.keep K2)
  exact gretA hx hret rfl rfl (hb hby d484) (by decide) (by decide) (fun vq Cq => ⟨b1, rfl, (((Keep.refl h0 []).ext E1).trans K2 (allS (Or.inr (by omega)) all0)), (by omega), n1, f6, q2_0, q2_1, q2_2, q2_3⟩)
theorem d486 : Dc y47_ 0 (.aload_n 0) 1 := by decide +kernel
theorem d487 : Dc y47_ 1 (.getfield 1) 3 := by decide +kernel
theorem d488 : Dc y47_ 4 (.getfield 17) 3 := by decide +kernel
theorem d489 : Dc y47_ 7 (.aload_n 0) 1 := by decide +kernel
theorem d490 : Dc y47_ 8 (.getfield 22) 3 := by decide +kernel
theorem d491 : Dc y47_ 11 (.if_icmp .eq 11) 3 := by decide +kernel
theorem d492 : Dc y47_ 22 (.return_) 1 := by decide +kernel
abbrev mn493 : MethodName := ⟨"java/util/ArrayList$Itr", "checkForComodification", "()V"⟩
theorem own_cfc {l : Launch} {Z : State} {a0 : Array Value} (cx : Ctx Z a0) (it x : Addr) (mc : Int32) (vm0 : Vm) (h0 : Heap) (X00 : Ext Z.heap h0) (P0 : Fld Z h0 it c18_ "this$0" c2_ (.ref x)) (P1 : Fld Z h0 it c18_ c8_ "I" (.int mc)) (P2 : Fld Z h0 x c16_ "modCount" "I" (.int mc)) :
    Met l mn493 y47_ 1 none [] (Rm 0 0 0 0) Z consts_1 vm0 h0 #[(.ref it)] (fun rv vm h => rv = none ∧ h0 = h) := by
  have hw := cx.1
  refine Met.of_walk (a0 := a0) #[vr it] (plainFor_of_name own_pn478) X00 cx.2.1 (fun _ => rfl) ?_
  intro p e s m below meth c vm hx hby hml hret hnm hC0 hW0
  have lt_it : h0.size > it := P0.lt
  have lt_x : h0.size > x := P2.lt
  refine vAN 1 d486 ?_
  refine gF (oz hw 81) P0 4 d487 ?_
  refine ggetF (host := "") hx (Or.inl (oz hw 86)) (Via.of (oz hw 87)) P2 7 (hb hby d488) rfl ?_
  refine vAN 8 d489 ?_
  refine gF (oz hw 88) P1 11 d490 ?_
  refine vYc 22 d491 (teq rfl).1 ?_
  exact gretV hx hret (hb hby d492) (by decide) (by decide) (fun vq Cq => ⟨rfl, rfl⟩)
theorem d494 : Dc y45_ 0 (.aload_n 0) 1 := by decide +kernel
theorem d495 : Dc y45_ 1 (.getfield 25) 3 := by decide +kernel
theorem d496 : Dc y45_ 4 (.aload_n 0) 1 := by decide +kernel
theorem d497 : Dc y45_ 5 (.getfield 1) 3 := by decide +kernel
theorem d498 : Dc y45_ 8 (.getfield 28) 3 := by decide +kernel
theorem d499 : Dc y45_ 11 (.if_icmp .eq 7) 3 := by decide +kernel
theorem d500 : Dc y45_ 18 (.iconst 0) 1 := by decide +kernel
theorem d501 : Dc y45_ 19 (.ireturn) 1 := by decide +kernel
abbrev mn502 : MethodName := ⟨"java/util/ArrayList$Itr", "hasNext", "()Z"⟩
theorem own_hasE {l : Launch} {Z : State} {a0 : Array Value} (cx : Ctx Z a0) (it x : Addr) (i : Int32) (vm0 : Vm) (h0 : Heap) (X00 : Ext Z.heap h0) (P0 : Fld Z h0 it c18_ "this$0" c2_ (.ref x)) (P1 : Fld Z h0 it c18_ "cursor" "I" (.int i)) (P2 : Fld Z h0 x c17_ "size" "I" (.int i)) :
    Met l mn502 y45_ 1 (some .boolean) [] (Rm 0 0 0 0) Z consts_1 vm0 h0 #[(.ref it)] (fun rv vm h => rv = some (.int (0 : Int32)) ∧ h0 = h) := by
  have hw := cx.1
  refine Met.of_walk (a0 := a0) #[vr it] (plainFor_of_name own_pn478) X00 cx.2.1 (fun _ => rfl) ?_
  intro p e s m below meth c vm hx hby hml hret hnm hC0 hW0
  have lt_it : h0.size > it := P0.lt
  have lt_x : h0.size > x := P2.lt
  refine vAN 1 d494 ?_
  refine gF (oz hw 99) P1 4 d495 ?_
  refine vAN 5 d496 ?_
  refine gF (oz hw 81) P0 8 d497 ?_
  refine ggetF (host := c17_) hx (Or.inr (oz hw 101)) Via.refl P2 11 (hb hby d498) rfl ?_
  refine vYc 18 d499 (teq rfl).1 ?_
  refine vKc 19 (0 : Int32) d500 ?_
  exact gretN (t := .boolean) hx hret (by simp) (hb hby d501) (by decide) (by decide) (fun vq Cq => ⟨rfl, rfl⟩)
theorem d503 : Dc y45_ 14 (.iconst 1) 1 := by decide +kernel
theorem d504 : Dc y45_ 15 (.goto 4) 3 := by decide +kernel
theorem own_hasN {l : Launch} {Z : State} {a0 : Array Value} (cx : Ctx Z a0) (it x : Addr) (i n : Int32) (vm0 : Vm) (h0 : Heap) (X00 : Ext Z.heap h0) (P0 : Fld Z h0 it c18_ "this$0" c2_ (.ref x)) (P1 : Fld Z h0 it c18_ "cursor" "I" (.int i)) (P2 : Fld Z h0 x c17_ "size" "I" (.int n)) (hin : (¬ i = n)) :
    Met l mn502 y45_ 1 (some .boolean) [] (Rm 0 0 0 0) Z consts_1 vm0 h0 #[(.ref it)] (fun rv vm h => rv = some (.int (1 : Int32)) ∧ h0 = h) := by
  have hw := cx.1
  refine Met.of_walk (a0 := a0) #[vr it] (plainFor_of_name own_pn478) X00 cx.2.1 (fun _ => rfl) ?_
  intro p e s m below meth c vm hx hby hml hret hnm hC0 hW0
  have lt_it : h0.size > it := P0.lt
  have lt_x : h0.size > x := P2.lt
  refine vAN 1 d494 ?_
  refine gF (oz hw 99) P1 4 d495 ?_
  refine vAN 5 d496 ?_
  refine gF (oz hw 81) P0 8 d497 ?_
  refine ggetF (host := c17_) hx (Or.inr (oz hw 101)) Via.refl P2 11 (hb hby d498) rfl ?_
  refine vNc 14 d499 (feq hin).1 ?_
  refine vKc 15 (1 : Int32) d503 ?_
  refine vG 19 d504 ?_
  exact gretN (t := .boolean) hx hret (by simp) (hb hby d501) (by decide) (by decide) (fun vq Cq => ⟨rfl, rfl⟩)
theorem d505 : Dc y46_ 0 (.aload_n 0) 1 := by decide +kernel
theorem d506 : Dc y46_ 1 (.invokevirtual 31) 3 := by decide +kernel
theorem d507 : Dc y46_ 4 (.aload_n 0) 1 := by decide +kernel
theorem d508 : Dc y46_ 5 (.getfield 25) 3 := by decide +kernel
theorem d509 : Dc y46_ 8 (.istore_n 1) 1 := by decide +kernel
theorem d510 : Dc y46_ 9 (.iload_n 1) 1 := by decide +kernel
theorem d511 : Dc y46_ 10 (.aload_n 0) 1 := by decide +kernel
theorem d512 : Dc y46_ 11 (.getfield 1) 3 := by decide +kernel
theorem d513 : Dc y46_ 14 (.getfield 28) 3 := by decide +kernel
theorem d514 : Dc y46_ 17 (.if_icmp .lt 11) 3 := by decide +kernel
theorem d515 : Dc y46_ 28 (.aload_n 0) 1 := by decide +kernel
theorem d516 : Dc y46_ 29 (.getfield 1) 3 := by decide +kernel
theorem d517 : Dc y46_ 32 (.getfield 37) 3 := by decide +kernel
theorem d518 : Dc y46_ 35 (.astore_n 2) 1 := by decide +kernel
theorem d519 : Dc y46_ 36 (.iload_n 1) 1 := by decide +kernel
theorem d520 : Dc y46_ 37 (.aload_n 2) 1 := by decide +kernel
theorem d521 : Dc y46_ 38 (.arraylength) 1 := by decide +kernel
theorem d522 : Dc y46_ 39 (.if_icmp .lt 11) 3 := by decide +kernel
theorem d523 : Dc y46_ 50 (.aload_n 0) 1 := by decide +kernel
theorem d524 : Dc y46_ 51 (.iload_n 1) 1 := by decide +kernel
theorem d525 : Dc y46_ 52 (.iconst 1) 1 := by decide +kernel
theorem d526 : Dc y46_ 53 (.iadd) 1 := by decide +kernel
theorem d527 : Dc y46_ 54 (.putfield 25) 3 := by decide +kernel
theorem d528 : Dc y46_ 57 (.aload_n 2) 1 := by decide +kernel
theorem d529 : Dc y46_ 58 (.aload_n 0) 1 := by decide +kernel
theorem d530 : Dc y46_ 59 (.iload_n 1) 1 := by decide +kernel
theorem d531 : Dc y46_ 60 (.dup_x1) 1 := by decide +kernel
theorem d532 : Dc y46_ 61 (.putfield 13) 3 := by decide +kernel
theorem d533 : Dc y46_ 64 (.aaload) 1 := by decide +kernel
theorem d534 : Dc y46_ 65 (.areturn) 1 := by decide +kernel
abbrev mn535 : MethodName := ⟨"java/util/ArrayList$Itr", "next", "()Ljava/lang/Object;"⟩
theorem own_next0_1 {l : Launch} {Z : State} {a0 : Array Value} (cx : Ctx Z a0) (it x : Addr) (mc lr : Int32) (d : Addr) (kc : ClassId) (s0_ : Addr) (vm0 : Vm) (h0 : Heap) (X00 : Ext Z.heap h0) (P0 : Exa Z h0 it c18_) (P1 : Fld Z h0 it c18_ "this$0" c2_ (.ref x)) (P2 : Fld Z h0 it c18_ "cursor" "I" (.int (0 : Int32))) (P3 : Fld Z h0 it c18_ c8_ "I" (.int mc)) (P4 : Fld Z h0 it c18_ "lastRet" "I" (.int lr)) (P5 : Z.heap.size ≤ it) (P6 : Fld Z h0 x c16_ "modCount" "I" (.int mc)) (P7 : Exa Z h0 x c17_) (P8 : Fld Z h0 x c17_ c7_ c4_ (.ref d)) (P9 : Fld Z h0 x c17_ "size" "I" (.int (1 : Int32))) (P10 : Arv Z h0 d kc (.object c12_) (10 : Int32) [(.ref s0_), .null, .null, .null, .null, .null, .null, .null, .null, .null] .null) (P11 : Exa Z h0 d c4_) (hov : (Ovr Z kc c12_)) :
    Met l mn535 y46_ 3 (some (.object c12_)) [] (Rm 1 0 0 12) Z consts_1 vm0 h0 #[(.ref it)] (fun rv vm h => rv = some (.ref s0_) ∧ Keep h0 h [it] ∧ Fld Z h it c18_ "this$0" c2_ (.ref x) ∧ Fld Z h it c18_ "cursor" "I" (.int (1 : Int32)) ∧ Fld Z h it c18_ c8_ "I" (.int mc) ∧ Fld Z h it c18_ "lastRet" "I" (.int (0 : Int32))) := by
  have hw := cx.1
  refine Met.of_walk (a0 := a0) #[vr it, un, un] (plainFor_of_name own_pn478) X00 cx.2.1 (fun _ => rfl) ?_
  intro p e s m below meth c vm hx hby hml hret hnm hC0 hW0
  have lt_it : h0.size > it := P0.lt
  have lt_x : h0.size > x := P6.lt
  have lt_d : h0.size > d := P10.lt
  refine vAN 1 d505 ?_
  refine gmV (y := mn493) (z := mn493) (oz hw 404) (oz hw 405) (nfSel (oz hw 407)) (oz hw 407) (oz hw 406) (oz hw 408) (oz hw 76) (fun O => own_cfc cx it x mc vm h0 O P1 P3 P6) 4 (argsL := []) (rest := []) P0 own_pd153 d506 ?_
  rintro _ vm1 h1 C1 z1 ⟨rfl, rfl⟩
  refine gat0 ?_
  refine vAN 5 d507 ?_
  refine gF (oz hw 99) P2 8 d508 ?_
  refine vSIN 9 #[vr it, vi (0 : Int32), un] d509 ?_
  refine vIN 10 d510 ?_
  refine vAN 11 d511 ?_
  refine gF (oz hw 81) P1 14 d512 ?_
  refine ggetF (host := c17_) hx (Or.inr (oz hw 101)) Via.refl P9 17 (hb hby d513) rfl ?_
  refine vYc 28 d514 (tlt (by decide)).1 ?_
  refine vAN 29 d515 ?_
  refine gF (oz hw 81) P1 32 d516 ?_
  refine gF (oz hw 409) P8 35 d517 ?_
  refine vSAN 36 #[vr it, vi (0 : Int32), vr d] d518 ?_
  refine vIN 37 d519 ?_
  refine vAN 38 d520 ?_
  refine glen hx P10 39 (hb hby d521) rfl ?_
  refine vYc 50 d522 (tlt (by decide)).1 ?_
  refine vAN 51 d523 ?_
  refine vIN 52 d524 ?_
  refine vKc 53 (1 : Int32) d525 ?_
  refine viadd 54 (1 : Int32) d526 ?_
  refine gputF (host := "") hx (Or.inl (oz hw 99)) Via.refl P2 P0 (Or.inl (oz hw 100)) (oz hw 75) (ty := .int) (by decide) rfl rfl P5 (fun al => Safe.exa al P0 (by decide) (by decide)) 57 (hb hby d527) rfl ?_
  intro h2 W2 C2
  have z2 := C2.2.1
  have F2 := P2.same W2
  refine vAN 58 d528 ?_
  refine vAN 59 d529 ?_
  refine vIN 60 d530 ?_
  refine gs (mkF m 61 #[vr it, vi (0 : Int32), vr d] [(.int (0 : Int32)), (.ref it), (.int (0 : Int32)), (.ref d)]) (fun _ _ A kq => XS.dupX1 A hx rfl (hb hby d531) rfl rfl rfl kq) ?_
  have f3 := (P4.other W2 (Or.inr (slot_ne (Or.inl (oz hw 85)) (Or.inl (oz hw 100)) (by decide) (t := .int) (t' := .int) (by decide) (by decide))))
  have f4 := (P0.wr W2)
  refine gputF (host := "") hx (Or.inl (oz hw 84)) Via.refl f3 f4 (Or.inl (oz hw 85)) (oz hw 75) (ty := .int) (by decide) rfl rfl P5 (fun al => Safe.exa al f4 (by decide) (by decide)) 64 (hb hby d532) rfl ?_
  intro h5 W5 C5
  have z5 := C5.2.1
  have F5 := f3.same W5
  have f6 := ((P11.wr W2).wr W5)
  have f7 := (f4.wr W5)
  have f8 := ((P10.other W2 (ne_exa f6 f7 (by decide))).other W5 (ne_exa f6 f7 (by decide)))
  refine gldR hx f8 ⟨by decide, by decide⟩ (i := 0) rfl (v := (.ref s0_)) rfl 65 (hb hby d533) rfl ?_
  have f10 := ((P1.other W2 (Or.inr (slot_ne (Or.inr (oz hw 82)) (Or.inl (oz hw 100)) (by decide) (t := (.object c17_)) (t' := .int) (by decide) (by decide)))).other W5 (Or.inr (slot_ne (Or.inr (oz hw 82)) (Or.inl (oz hw 85)) (by decide) (t := (.object c17_)) (t' := .int) (by decide) (by decide))))
  have f11 := (F2.other W5 (Or.inr (slot_ne (Or.inl (oz hw 100)) (Or.inl (oz hw 85)) (by decide) (t := .int) (t' := .int) (by decide) (by decide))))
  have f12 := ((P3.other W2 (Or.inr (slot_ne (Or.inl (oz hw 89)) (Or.inl (oz hw 100)) (by decide) (t := .int) (t' := .int) (by decide) (by decide)))).other W5 (Or.inr (slot_ne (Or.inl (oz hw 89)) (Or.inl (oz hw 85)) (by decide) (t := .int) (t' := .int) (by decide) (by decide))))
  exact gretA hx hret rfl rfl (hb hby d534) (by decide) (by decide) (fun vq Cq => ⟨rfl, (((Keep.refl h0 [it]).wr W2 (Or.inl (List.mem_of_getElem? (i := 0) rfl))).wr W5 (Or.inl (List.mem_of_getElem? (i := 0) rfl))), f10, f11, f12, F5⟩)
theorem own_next0_2 {l : Launch} {Z : State} {a0 : Array Value} (cx : Ctx Z a0) (it x : Addr) (mc lr : Int32) (d : Addr) (kc : ClassId) (s0_ s1_ : Addr) (vm0 : Vm) (h0 : Heap) (X00 : Ext Z.heap h0) (P0 : Exa Z h0 it c18_) (P1 : Fld Z h0 it c18_ "this$0" c2_ (.ref x)) (P2 : Fld Z h0 it c18_ "cursor" "I" (.int (0 : Int32))) (P3 : Fld Z h0 it c18_ c8_ "I" (.int mc)) (P4 : Fld Z h0 it c18_ "lastRet" "I" (.int lr)) (P5 : Z.heap.size ≤ it) (P6 : Fld Z h0 x c16_ "modCount" "I" (.int mc)) (P7 : Exa Z h0 x c17_) (P8 : Fld Z h0 x c17_ c7_ c4_ (.ref d)) (P9 : Fld Z h0 x c17_ "size" "I" (.int (2 : Int32))) (P10 : Arv Z h0 d kc (.object c12_) (10 : Int32) [(.ref s0_), (.ref s1_), .null, .null, .null, .null, .null, .null, .null, .null] .null) (P11 : Exa Z h0 d c4_) (hov : (Ovr Z kc c12_)) :
    Met l mn535 y46_ 3 (some (.object c12_)) [] (Rm 1 0 0 12) Z consts_1 vm0 h0 #[(.ref it)] (fun rv vm h => rv = some (.ref s0_) ∧ Keep h0 h [it] ∧ Fld Z h it c18_ "this$0" c2_ (.ref x) ∧ Fld Z h it c18_ "cursor" "I" (.int (1 : Int32)) ∧ Fld Z h it c18_ c8_ "I" (.int mc) ∧ Fld Z h it c18_ "lastRet" "I" (.int (0 : Int32))) := by
  have hw := cx.1
  refine Met.of_walk (a0 := a0) #[vr it, un, un] (plainFor_of_name own_pn478) X00 cx.2.1 (fun _ => rfl) ?_
  intro p e s m below meth c vm hx hby hml hret hnm hC0 hW0
  have lt_it : h0.size > it := P0.lt
  have lt_x : h0.size > x := P6.lt
  have lt_d : h0.size > d := P10.lt
  refine vAN 1 d505 ?_
  refine gmV (y := mn493) (z := mn493) (oz hw 404) (oz hw 405) (nfSel (oz hw 407)) (oz hw 407) (oz hw 406) (oz hw 408) (oz hw 76) (fun O => own_cfc cx it x mc vm h0 O P1 P3 P6) 4 (argsL := []) (rest := []) P0 own_pd153 d506 ?_
  rintro _ vm1 h1 C1 z1 ⟨rfl, rfl⟩
  refine gat0 ?_
  refine vAN 5 d507 ?_
  refine gF (oz hw 99) P2 8 d508 ?_
  refine vSIN 9 #[vr it, vi (0 : Int32), un] d509 ?_
  refine vIN 10 d510 ?_
  refine vAN 11 d511 ?_
  refine gF (oz hw 81) P1 14 d512 ?_
  refine ggetF (host := c17_) hx (Or.inr (oz hw 101)) Via.refl P9 17 (hb hby d513) rfl ?_
  refine vYc 28 d514 (tlt (by decide)).1 ?_
  refine vAN 29 d515 ?_
  refine gF (oz hw 81) P1 32 d516 ?_
  refine gF (oz hw 409) P8 35 d517 ?_
  refine vSAN 36 #[vr it, vi (0 : Int32), vr d] d518 ?_
  refine vIN 37 d519 ?_
  refine vAN 38 d520 ?_
  refine glen hx P10 39 (hb hby d521) rfl ?_
  refine vYc 50 d522 (tlt (by decide)).1 ?_
  refine vAN 51 d523 ?_
  refine vIN 52 d524 ?_
  refine vKc 53 (1 : Int32) d525 ?_
  refine viadd 54 (1 : Int32) d526 ?_
  refine gputF (host := "") hx (Or.inl (oz hw 99)) Via.refl P2 P0 (Or.inl (oz hw 100)) (oz hw 75) (ty := .int) (by decide) rfl rfl P5 (fun al => Safe.exa al P0 (by decide) (by decide)) 57 (hb hby d527) rfl ?_
  intro h2 W2 C2
  have z2 := C2.2.1
  have F2 := P2.same W2
  refine vAN 58 d528 ?_
  refine vAN 59 d529 ?_
  refine vIN 60 d530 ?_
  refine gs (mkF m 61 #[vr it, vi (0 : Int32), vr d] [(.int (0 : Int32)), (.ref it), (.int (0 : Int32)), (.ref d)]) (fun _ _ A kq => XS.dupX1 A hx rfl (hb hby d531) rfl rfl rfl kq) ?_
  have f3 := (P4.other W2 (Or.inr (slot_ne (Or.inl (oz hw 85)) (Or.inl (oz hw 100)) (by decide) (t := .int) (t' := .int) (by decide) (by decide))))
  have f4 := (P0.wr W2)
  refine gputF (host := "") hx (Or.inl (oz hw 84)) Via.refl f3 f4 (Or.inl (oz hw 85)) (oz hw 75) (ty := .int) (by decide) rfl rfl P5 (fun al => Safe.exa al f4 (by decide) (by decide)) 64 (hb hby d532) rfl ?_
  intro h5 W5 C5
  have z5 := C5.2.1
  have F5 := f3.same W5
  have f6 := ((P11.wr W2).wr W5)
  have f7 := (f4.wr W5)
  have f8 := ((P10.other W2 (ne_exa f6 f7 (by decide))).other W5 (ne_exa f6 f7 (by decide)))
  refine gldR hx f8 ⟨by decide, by decide⟩ (i := 0) rfl (v := (.ref s0_)) rfl 65 (hb hby d533) rfl ?_
  have f10 := ((P1.other W2 (Or.inr (slot_ne (Or.inr (oz hw 82)) (Or.inl (oz hw 100)) (by decide) (t := (.object c17_)) (t' := .int) (by decide) (by decide)))).other W5 (Or.inr (slot_ne (Or.inr (oz hw 82)) (Or.inl (oz hw 85)) (by decide) (t := (.object c17_)) (t' := .int) (by decide) (by decide))))
  have f11 := (F2.other W5 (Or.inr (slot_ne (Or.inl (oz hw 100)) (Or.inl (oz hw 85)) (by decide) (t := .int) (t' := .int) (by decide) (by decide))))
  have f12 := ((P3.other W2 (Or.inr (slot_ne (Or.inl (oz hw 89)) (Or.inl (oz hw 100)) (by decide) (t := .int) (t' := .int) (by decide) (by decide)))).other W5 (Or.inr (slot_ne (Or.inl (oz hw 89)) (Or.inl (oz hw 85)) (by decide) (t := .int) (t' := .int) (by decide) (by decide))))
  exact gretA hx hret rfl rfl (hb hby d534) (by decide) (by decide) (fun vq Cq => ⟨rfl, (((Keep.refl h0 [it]).wr W2 (Or.inl (List.mem_of_getElem? (i := 0) rfl))).wr W5 (Or.inl (List.mem_of_getElem? (i := 0) rfl))), f10, f11, f12, F5⟩)
theorem own_next1_2 {l : Launch} {Z : State} {a0 : Array Value} (cx : Ctx Z a0) (it x : Addr) (mc lr : Int32) (d : Addr) (kc : ClassId) (s0_ s1_ : Addr) (vm0 : Vm) (h0 : Heap) (X00 : Ext Z.heap h0) (P0 : Exa Z h0 it c18_) (P1 : Fld Z h0 it c18_ "this$0" c2_ (.ref x)) (P2 : Fld Z h0 it c18_ "cursor" "I" (.int (1 : Int32))) (P3 : Fld Z h0 it c18_ c8_ "I" (.int mc)) (P4 : Fld Z h0 it c18_ "lastRet" "I" (.int lr)) (P5 : Z.heap.size ≤ it) (P6 : Fld Z h0 x c16_ "modCount" "I" (.int mc)) (P7 : Exa Z h0 x c17_) (P8 : Fld Z h0 x c17_ c7_ c4_ (.ref d)) (P9 : Fld Z h0 x c17_ "size" "I" (.int (2 : Int32))) (P10 : Arv Z h0 d kc (.object c12_) (10 : Int32) [(.ref s0_), (.ref s1_), .null, .null, .null, .null, .null, .null, .null, .null] .null) (P11 : Exa Z h0 d c4_) (hov : (Ovr Z kc c12_)) :
    Met l mn535 y46_ 3 (some (.object c12_)) [] (Rm 1 0 0 12) Z consts_1 vm0 h0 #[(.ref it)] (fun rv vm h => rv = some (.ref s1_) ∧ Keep h0 h [it] ∧ Fld Z h it c18_ "this$0" c2_ (.ref x) ∧ Fld Z h it c18_ "cursor" "I" (.int (2 : Int32)) ∧ Fld Z h it c18_ c8_ "I" (.int mc) ∧ Fld Z h it c18_ "lastRet" "I" (.int (1 : Int32))) := by
  have hw := cx.1
  refine Met.of_walk (a0 := a0) #[vr it, un, un] (plainFor_of_name own_pn478) X00 cx.2.1 (fun _ => rfl) ?_
  intro p e s m below meth c vm hx hby hml hret hnm hC0 hW0
  have lt_it : h0.size > it := P0.lt
  have lt_x : h0.size > x := P6.lt
  have lt_d : h0.size > d := P10.lt
  refine vAN 1 d505 ?_
  refine gmV (y := mn493) (z := mn493) (oz hw 404) (oz hw 405) (nfSel (oz hw 407)) (oz hw 407) (oz hw 406) (oz hw 408) (oz hw 76) (fun O => own_cfc cx it x mc vm h0 O P1 P3 P6) 4 (argsL := []) (rest := []) P0 own_pd153 d506 ?_
  rintro _ vm1 h1 C1 z1 ⟨rfl, rfl⟩
  refine gat0 ?_
  refine vAN 5 d507 ?_
  refine gF (oz hw 99) P2 8 d508 ?_
  refine vSIN 9 #[vr it, vi (1 : Int32), un] d509 ?_
  refine vIN 10 d510 ?_
  refine vAN 11 d511 ?_
  refine gF (oz hw 81) P1 14 d512 ?_
  refine ggetF (host := c17_) hx (Or.inr (oz hw 101)) Via.refl P9 17 (hb hby d513) rfl ?_
  refine vYc 28 d514 (tlt (by decide)).1 ?_
  refine vAN 29 d515 ?_
  refine gF (oz hw 81) P1 32 d516 ?_
  refine gF (oz hw 409) P8 35 d517 ?_
  refine vSAN 36 #[vr it, vi (1 : Int32), vr d] d518 ?_
  refine vIN 37 d519 ?_
  refine vAN 38 d520 ?_
  refine glen hx P10 39 (hb hby d521) rfl ?_
  refine vYc 50 d522 (tlt (by decide)).1 ?_
  refine vAN 51 d523 ?_
  refine vIN 52 d524 ?_
  refine vKc 53 (1 : Int32) d525 ?_
  refine viadd 54 (2 : Int32) d526 ?_
  refine gputF (host := "") hx (Or.inl (oz hw 99)) Via.refl P2 P0 (Or.inl (oz hw 100)) (oz hw 75) (ty := .int) (by decide) rfl rfl P5 (fun al => Safe.exa al P0 (by decide) (by decide)) 57 (hb hby d527) rfl ?_
  intro h2 W2 C2
  have z2 := C2.2.1
  have F2 := P2.same W2
  refine vAN 58 d528 ?_
  refine vAN 59 d529 ?_
  refine vIN 60 d530 ?_
  refine gs (mkF m 61 #[vr it, vi (1 : Int32), vr d] [(.int (1 : Int32)), (.ref it), (.int (1 : Int32)), (.ref d)]) (fun _ _ A kq => XS.dupX1 A hx rfl (hb hby d531) rfl rfl rfl kq) ?_
  have f3 := (P4.other W2 (Or.inr (slot_ne (Or.inl (oz hw 85)) (Or.inl (oz hw 100)) (by decide) (t := .int) (t' := .int) (by decide) (by decide))))
  have f4 := (P0.wr W2)
  refine gputF (host := "") hx (Or.inl (oz hw 84)) Via.refl f3 f4 (Or.inl (oz hw 85)) (oz hw 75) (ty := .int) (by decide) rfl rfl P5 (fun al => Safe.exa al f4 (by decide) (by decide)) 64 (hb hby d532) rfl ?_
  intro h5 W5 C5
  have z5 := C5.2.1
  have F5 := f3.same W5
  have f6 := ((P11.wr W2).wr W5)
  have f7 := (f4.wr W5)
  have f8 := ((P10.other W2 (ne_exa f6 f7 (by decide))).other W5 (ne_exa f6 f7 (by decide)))
  refine gldR hx f8 ⟨by decide, by decide⟩ (i := 1) rfl (v := (.ref s1_)) rfl 65 (hb hby d533) rfl ?_
  have f10 := ((P1.other W2 (Or.inr (slot_ne (Or.inr (oz hw 82)) (Or.inl (oz hw 100)) (by decide) (t := (.object c17_)) (t' := .int) (by decide) (by decide)))).other W5 (Or.inr (slot_ne (Or.inr (oz hw 82)) (Or.inl (oz hw 85)) (by decide) (t := (.object c17_)) (t' := .int) (by decide) (by decide))))
  have f11 := (F2.other W5 (Or.inr (slot_ne (Or.inl (oz hw 100)) (Or.inl (oz hw 85)) (by decide) (t := .int) (t' := .int) (by decide) (by decide))))
  have f12 := ((P3.other W2 (Or.inr (slot_ne (Or.inl (oz hw 89)) (Or.inl (oz hw 100)) (by decide) (t := .int) (t' := .int) (by decide) (by decide)))).other W5 (Or.inr (slot_ne (Or.inl (oz hw 89)) (Or.inl (oz hw 85)) (by decide) (t := .int) (t' := .int) (by decide) (by decide))))
  exact gretA hx hret rfl rfl (hb hby d534) (by decide) (by decide) (fun vq Cq => ⟨rfl, (((Keep.refl h0 [it]).wr W2 (Or.inl (List.mem_of_getElem? (i := 0) rfl))).wr W5 (Or.inl (List.mem_of_getElem? (i := 0) rfl))), f10, f11, f12, F5⟩)
theorem own_next0_3 {l : Launch} {Z : State} {a0 : Array Value} (cx : Ctx Z a0) (it x : Addr) (mc lr : Int32) (d : Addr) (kc : ClassId) (s0_ s1_ s2_ : Addr) (vm0 : Vm) (h0 : Heap) (X00 : Ext Z.heap h0) (P0 : Exa Z h0 it c18_) (P1 : Fld Z h0 it c18_ "this$0" c2_ (.ref x)) (P2 : Fld Z h0 it c18_ "cursor" "I" (.int (0 : Int32))) (P3 : Fld Z h0 it c18_ c8_ "I" (.int mc)) (P4 : Fld Z h0 it c18_ "lastRet" "I" (.int lr)) (P5 : Z.heap.size ≤ it) (P6 : Fld Z h0 x c16_ "modCount" "I" (.int mc)) (P7 : Exa Z h0 x c17_) (P8 : Fld Z h0 x c17_ c7_ c4_ (.ref d)) (P9 : Fld Z h0 x c17_ "size" "I" (.int (3 : Int32))) (P10 : Arv Z h0 d kc (.object c12_) (10 : Int32) [(.ref s0_), (.ref s1_), (.ref s2_), .null, .null, .null, .null, .null, .null, .null] .null) (P11 : Exa Z h0 d c4_) (hov : (Ovr Z kc c12_)) :
    Met l mn535 y46_ 3 (some (.object c12_)) [] (Rm 1 0 0 12) Z consts_1 vm0 h0 #[(.ref it)] (fun rv vm h => rv = some (.ref s0_) ∧ Keep h0 h [it] ∧ Fld Z h it c18_ "this$0" c2_ (.ref x) ∧ Fld Z h it c18_ "cursor" "I" (.int (1 : Int32)) ∧ Fld Z h it c18_ c8_ "I" (.int mc) ∧ Fld Z h it c18_ "lastRet" "I" (.int (0 : Int32))) := by
  have hw := cx.1
  refine Met.of_walk (a0 := a0) #[vr it, un, un] (plainFor_of_name own_pn478) X00 cx.2.1 (fun _ => rfl) ?_
  intro p e s m below meth c vm hx hby hml hret hnm hC0 hW0
  have lt_it : h0.size > it := P0.lt
  have lt_x : h0.size > x := P6.lt
  have lt_d : h0.size > d := P10.lt
  refine vAN 1 d505 ?_
  refine gmV (y := mn493) (z := mn493) (oz hw 404) (oz hw 405) (nfSel (oz hw 407)) (oz hw 407) (oz hw 406) (oz hw 408) (oz hw 76) (fun O => own_cfc cx it x mc vm h0 O P1 P3 P6) 4 (argsL := []) (rest := []) P0 own_pd153 d506 ?_
  rintro _ vm1 h1 C1 z1 ⟨rfl, rfl⟩
  refine gat0 ?_
  refine vAN 5 d507 ?_
  refine gF (oz hw 99) P2 8 d508 ?_
  refine vSIN 9 #[vr it, vi (0 : Int32), un] d509 ?_
  refine vIN 10 d510 ?_
  refine vAN 11 d511 ?_
  refine gF (oz hw 81) P1 14 d512 ?_
  refine ggetF (host := c17_) hx (Or.inr (oz hw 101)) Via.refl P9 17 (hb hby d513) rfl ?_
  refine vYc 28 d514 (tlt (by decide)).1 ?_
  refine vAN 29 d515 ?_
  refine gF (oz hw 81) P1 32 d516 ?_
  refine gF (oz hw 409) P8 35 d517 ?_
  refine vSAN 36 #[vr it, vi (0 : Int32), vr d] d518 ?_
  refine vIN 37 d519 ?_
  refine vAN 38 d520 ?_
  refine glen hx P10 39 (hb hby d521) rfl ?_
  refine vYc 50 d522 (tlt (by decide)).1 ?_
  refine vAN 51 d523 ?_
  refine vIN 52 d524 ?_
  refine vKc 53 (1 : Int32) d525 ?_
  refine viadd 54 (1 : Int32) d526 ?_
  refine gputF (host := "") hx (Or.inl (oz hw 99)) Via.refl P2 P0 (Or.inl (oz hw 100)) (oz hw 75) (ty := .int) (by decide) rfl rfl P5 (fun al => Safe.exa al P0 (by decide) (by decide)) 57 (hb hby d527) rfl ?_
  intro h2 W2 C2
  have z2 := C2.2.1
  have F2 := P2.same W2
  refine vAN 58 d528 ?_
  refine vAN 59 d529 ?_
  refine vIN 60 d530 ?_
  refine gs (mkF m 61 #[vr it, vi (0 : Int32), vr d] [(.int (0 : Int32)), (.ref it), (.int (0 : Int32)), (.ref d)]) (fun _ _ A kq => XS.dupX1 A hx rfl (hb hby d531) rfl rfl rfl kq) ?_
  have f3 := (P4.other W2 (Or.inr (slot_ne (Or.inl (oz hw 85)) (Or.inl (oz hw 100)) (by decide) (t := .int) (t' := .int) (by decide) (by decide))))
  have f4 := (P0.wr W2)
  refine gputF (host := "") hx (Or.inl (oz hw 84)) Via.refl f3 f4 (Or.inl (oz hw 85)) (oz hw 75) (ty := .int) (by decide) rfl rfl P5 (fun al => Safe.exa al f4 (by decide) (by decide)) 64 (hb hby d532) rfl ?_
  intro h5 W5 C5
  have z5 := C5.2.1
  have F5 := f3.same W5
  have f6 := ((P11.wr W2).wr W5)
  have f7 := (f4.wr W5)
  have f8 := ((P10.other W2 (ne_exa f6 f7 (by decide))).other W5 (ne_exa f6 f7 (by decide)))
  refine gldR hx f8 ⟨by decide, by decide⟩ (i := 0) rfl (v := (.ref s0_)) rfl 65 (hb hby d533) rfl ?_
  have f10 := ((P1.other W2 (Or.inr (slot_ne (Or.inr (oz hw 82)) (Or.inl (oz hw 100)) (by decide) (t := (.object c17_)) (t' := .int) (by decide) (by decide)))).other W5 (Or.inr (slot_ne (Or.inr (oz hw 82)) (Or.inl (oz hw 85)) (by decide) (t := (.object c17_)) (t' := .int) (by decide) (by decide))))
  have f11 := (F2.other W5 (Or.inr (slot_ne (Or.inl (oz hw 100)) (Or.inl (oz hw 85)) (by decide) (t := .int) (t' := .int) (by decide) (by decide))))
  have f12 := ((P3.other W2 (Or.inr (slot_ne (Or.inl (oz hw 89)) (Or.inl (oz hw 100)) (by decide) (t := .int) (t' := .int) (by decide) (by decide)))).other W5 (Or.inr (slot_ne (Or.inl (oz hw 89)) (Or.inl (oz hw 85)) (by decide) (t := .int) (t' := .int) (by decide) (by decide))))
  exact gretA hx hret rfl rfl (hb hby d534) (by decide) (by decide) (fun vq Cq => ⟨rfl, (((Keep.refl h0 [it]).wr W2 (Or.inl (List.mem_of_getElem? (i := 0) rfl))).wr W5 (Or.inl (List.mem_of_getElem? (i := 0) rfl))), f10, f11, f12, F5⟩)
theorem own_next1_3 {l : Launch} {Z : State} {a0 : Array Value} (cx : Ctx Z a0) (it x : Addr) (mc lr : Int32) (d : Addr) (kc : ClassId) (s0_ s1_ s2_ : Addr) (vm0 : Vm) (h0 : Heap) (X00 : Ext Z.heap h0) (P0 : Exa Z h0 it c18_) (P1 : Fld Z h0 it c18_ "this$0" c2_ (.ref x)) (P2 : Fld Z h0 it c18_ "cursor" "I" (.int (1 : Int32))) (P3 : Fld Z h0 it c18_ c8_ "I" (.int mc)) (P4 : Fld Z h0 it c18_ "lastRet" "I" (.int lr)) (P5 : Z.heap.size ≤ it) (P6 : Fld Z h0 x c16_ "modCount" "I" (.int mc)) (P7 : Exa Z h0 x c17_) (P8 : Fld Z h0 x c17_ c7_ c4_ (.ref d)) (P9 : Fld Z h0 x c17_ "size" "I" (.int (3 : Int32))) (P10 : Arv Z h0 d kc (.object c12_) (10 : Int32) [(.ref s0_), (.ref s1_), (.ref s2_), .null, .null, .null, .null, .null, .null, .null] .null) (P11 : Exa Z h0 d c4_) (hov : (Ovr Z kc c12_)) :
    Met l mn535 y46_ 3 (some (.object c12_)) [] (Rm 1 0 0 12) Z consts_1 vm0 h0 #[(.ref it)] (fun rv vm h => rv = some (.ref s1_) ∧ Keep h0 h [it] ∧ Fld Z h it c18_ "this$0" c2_ (.ref x) ∧ Fld Z h it c18_ "cursor" "I" (.int (2 : Int32)) ∧ Fld Z h it c18_ c8_ "I" (.int mc) ∧ Fld Z h it c18_ "lastRet" "I" (.int (1 : Int32))) := by
  have hw := cx.1
  refine Met.of_walk (a0 := a0) #[vr it, un, un] (plainFor_of_name own_pn478) X00 cx.2.1 (fun _ => rfl) ?_
  intro p e s m below meth c vm hx hby hml hret hnm hC0 hW0
  have lt_it : h0.size > it := P0.lt
  have lt_x : h0.size > x := P6.lt
  have lt_d : h0.size > d := P10.lt
  refine vAN 1 d505 ?_
  refine gmV (y := mn493) (z := mn493) (oz hw 404) (oz hw 405) (nfSel (oz hw 407)) (oz hw 407) (oz hw 406) (oz hw 408) (oz hw 76) (fun O => own_cfc cx it x mc vm h0 O P1 P3 P6) 4 (argsL := []) (rest := []) P0 own_pd153 d506 ?_
  rintro _ vm1 h1 C1 z1 ⟨rfl, rfl⟩
  refine gat0 ?_
  refine vAN 5 d507 ?_
  refine gF (oz hw 99) P2 8 d508 ?_
  refine vSIN 9 #[vr it, vi (1 : Int32), un] d509 ?_
  refine vIN 10 d510 ?_
  refine vAN 11 d511 ?_
  refine gF (oz hw 81) P1 14 d512 ?_
  refine ggetF (host := c17_) hx (Or.inr (oz hw 101)) Via.refl P9 17 (hb hby d513) rfl ?_
  refine vYc 28 d514 (tlt (by decide)).1 ?_
  refine vAN 29 d515 ?_
  refine gF (oz hw 81) P1 32 d516 ?_
  refine gF (oz hw 409) P8 35 d517 ?_
  refine vSAN 36 #[vr it, vi (1 : Int32), vr d] d518 ?_
  refine vIN 37 d519 ?_
  refine vAN 38 d520 ?_
  refine glen hx P10 39 (hb hby d521) rfl ?_
  refine vYc 50 d522 (tlt (by decide)).1 ?_
  refine vAN 51 d523 ?_
  refine vIN 52 d524 ?_
  refine vKc 53 (1 : Int32) d525 ?_
  refine viadd 54 (2 : Int32) d526 ?_
  refine gputF (host := "") hx (Or.inl (oz hw 99)) Via.refl P2 P0 (Or.inl (oz hw 100)) (oz hw 75) (ty := .int) (by decide) rfl rfl P5 (fun al => Safe.exa al P0 (by decide) (by decide)) 57 (hb hby d527) rfl ?_
  intro h2 W2 C2
  have z2 := C2.2.1
  have F2 := P2.same W2
  refine vAN 58 d528 ?_
  refine vAN 59 d529 ?_
  refine vIN 60 d530 ?_
  refine gs (mkF m 61 #[vr it, vi (1 : Int32), vr d] [(.int (1 : Int32)), (.ref it), (.int (1 : Int32)), (.ref d)]) (fun _ _ A kq => XS.dupX1 A hx rfl (hb hby d531) rfl rfl rfl kq) ?_
  have f3 := (P4.other W2 (Or.inr (slot_ne (Or.inl (oz hw 85)) (Or.inl (oz hw 100)) (by decide) (t := .int) (t' := .int) (by decide) (by decide))))
  have f4 := (P0.wr W2)
  refine gputF (host := "") hx (Or.inl (oz hw 84)) Via.refl f3 f4 (Or.inl (oz hw 85)) (oz hw 75) (ty := .int) (by decide) rfl rfl P5 (fun al => Safe.exa al f4 (by decide) (by decide)) 64 (hb hby d532) rfl ?_
  intro h5 W5 C5
  have z5 := C5.2.1
  have F5 := f3.same W5
  have f6 := ((P11.wr W2).wr W5)
  have f7 := (f4.wr W5)
  have f8 := ((P10.other W2 (ne_exa f6 f7 (by decide))).other W5 (ne_exa f6 f7 (by decide)))
  refine gldR hx f8 ⟨by decide, by decide⟩ (i := 1) rfl (v := (.ref s1_)) rfl 65 (hb hby d533) rfl ?_
  have f10 := ((P1.other W2 (Or.inr (slot_ne (Or.inr (oz hw 82)) (Or.inl (oz hw 100)) (by decide) (t := (.object c17_)) (t' := .int) (by decide) (by decide)))).other W5 (Or.inr (slot_ne (Or.inr (oz hw 82)) (Or.inl (oz hw 85)) (by decide) (t := (.object c17_)) (t' := .int) (by decide) (by decide))))
  have f11 := (F2.other W5 (Or.inr (slot_ne (Or.inl (oz hw 100)) (Or.inl (oz hw 85)) (by decide) (t := .int) (t' := .int) (by decide) (by decide))))
  have f12 := ((P3.other W2 (Or.inr (slot_ne (Or.inl (oz hw 89)) (Or.inl (oz hw 100)) (by decide) (t := .int) (t' := .int) (by decide) (by decide)))).other W5 (Or.inr (slot_ne (Or.inl (oz hw 89)) (Or.inl (oz hw 85)) (by decide) (t := .int) (t' := .int) (by decide) (by decide))))
  exact gretA hx hret rfl rfl (hb hby d534) (by decide) (by decide) (fun vq Cq => ⟨rfl, (((Keep.refl h0 [it]).wr W2 (Or.inl (List.mem_of_getElem? (i := 0) rfl))).wr W5 (Or.inl (List.mem_of_getElem? (i := 0) rfl))), f10, f11, f12, F5⟩)
theorem own_next2_3 {l : Launch} {Z : State} {a0 : Array Value} (cx : Ctx Z a0) (it x : Addr) (mc lr : Int32) (d : Addr) (kc : ClassId) (s0_ s1_ s2_ : Addr) (vm0 : Vm) (h0 : Heap) (X00 : Ext Z.heap h0) (P0 : Exa Z h0 it c18_) (P1 : Fld Z h0 it c18_ "this$0" c2_ (.ref x)) (P2 : Fld Z h0 it c18_ "cursor" "I" (.int (2 : Int32))) (P3 : Fld Z h0 it c18_ c8_ "I" (.int mc)) (P4 : Fld Z h0 it c18_ "lastRet" "I" (.int lr)) (P5 : Z.heap.size ≤ it) (P6 : Fld Z h0 x c16_ "modCount" "I" (.int mc)) (P7 : Exa Z h0 x c17_) (P8 : Fld Z h0 x c17_ c7_ c4_ (.ref d)) (P9 : Fld Z h0 x c17_ "size" "I" (.int (3 : Int32))) (P10 : Arv Z h0 d kc (.object c12_) (10 : Int32) [(.ref s0_), (.ref s1_), (.ref s2_), .null, .null, .null, .null, .null, .null, .null] .null) (P11 : Exa Z h0 d c4_) (hov : (Ovr Z kc c12_)) :
    Met l mn535 y46_ 3 (some (.object c12_)) [] (Rm 1 0 0 12) Z consts_1 vm0 h0 #[(.ref it)] (fun rv vm h => rv = some (.ref s2_) ∧ Keep h0 h [it] ∧ Fld Z h it c18_ "this$0" c2_ (.ref x) ∧ Fld Z h it c18_ "cursor" "I" (.int (3 : Int32)) ∧ Fld Z h it c18_ c8_ "I" (.int mc) ∧ Fld Z h it c18_ "lastRet" "I" (.int (2 : Int32))) := by
  have hw := cx.1
  refine Met.of_walk (a0 := a0) #[vr it, un, un] (plainFor_of_name own_pn478) X00 cx.2.1 (fun _ => rfl) ?_
  intro p e s m below meth c vm hx hby hml hret hnm hC0 hW0
  have lt_it : h0.size > it := P0.lt
  have lt_x : h0.size > x := P6.lt
  have lt_d : h0.size > d := P10.lt
  refine vAN 1 d505 ?_
  refine gmV (y := mn493) (z := mn493) (oz hw 404) (oz hw 405) (nfSel (oz hw 407)) (oz hw 407) (oz hw 406) (oz hw 408) (oz hw 76) (fun O => own_cfc cx it x mc vm h0 O P1 P3 P6) 4 (argsL := []) (rest := []) P0 own_pd153 d506 ?_
  rintro _ vm1 h1 C1 z1 ⟨rfl, rfl⟩
  refine gat0 ?_
  refine vAN 5 d507 ?_
  refine gF (oz hw 99) P2 8 d508 ?_
  refine vSIN 9 #[vr it, vi (2 : Int32), un] d509 ?_
  refine vIN 10 d510 ?_
  refine vAN 11 d511 ?_
  refine gF (oz hw 81) P1 14 d512 ?_
  refine ggetF (host := c17_) hx (Or.inr (oz hw 101)) Via.refl P9 17 (hb hby d513) rfl ?_
  refine vYc 28 d514 (tlt (by decide)).1 ?_
  refine vAN 29 d515 ?_
  refine gF (oz hw 81) P1 32 d516 ?_
  refine gF (oz hw 409) P8 35 d517 ?_
  refine vSAN 36 #[vr it, vi (2 : Int32), vr d] d518 ?_
  refine vIN 37 d519 ?_
  refine vAN 38 d520 ?_
  refine glen hx P10 39 (hb hby d521) rfl ?_
  refine vYc 50 d522 (tlt (by decide)).1 ?_
  refine vAN 51 d523 ?_
  refine vIN 52 d524 ?_
  refine vKc 53 (1 : Int32) d525 ?_
  refine viadd 54 (3 : Int32) d526 ?_
  refine gputF (host := "") hx (Or.inl (oz hw 99)) Via.refl P2 P0 (Or.inl (oz hw 100)) (oz hw 75) (ty := .int) (by decide) rfl rfl P5 (fun al => Safe.exa al P0 (by decide) (by decide)) 57 (hb hby d527) rfl ?_
  intro h2 W2 C2
  have z2 := C2.2.1
  have F2 := P2.same W2
  refine vAN 58 d528 ?_
  refine vAN 59 d529 ?_
  refine vIN 60 d530 ?_
  refine gs (mkF m 61 #[vr it, vi (2 : Int32), vr d] [(.int (2 : Int32)), (.ref it), (.int (2 : Int32)), (.ref d)]) (fun _ _ A kq => XS.dupX1 A hx rfl (hb hby d531) rfl rfl rfl kq) ?_
  have f3 := (P4.other W2 (Or.inr (slot_ne (Or.inl (oz hw 85)) (Or.inl (oz hw 100)) (by decide) (t := .int) (t' := .int) (by decide) (by decide))))
  have f4 := (P0.wr W2)
  refine gputF (host := "") hx (Or.inl (oz hw 84)) Via.refl f3 f4 (Or.inl (oz hw 85)) (oz hw 75) (ty := .int) (by decide) rfl rfl P5 (fun al => Safe.exa al f4 (by decide) (by decide)) 64 (hb hby d532) rfl ?_
  intro h5 W5 C5
  have z5 := C5.2.1
  have F5 := f3.same W5
  have f6 := ((P11.wr W2).wr W5)
  have f7 := (f4.wr W5)
  have f8 := ((P10.other W2 (ne_exa f6 f7 (by decide))).other W5 (ne_exa f6 f7 (by decide)))
  refine gldR hx f8 ⟨by decide, by decide⟩ (i := 2) rfl (v := (.ref s2_)) rfl 65 (hb hby d533) rfl ?_
  have f10 := ((P1.other W2 (Or.inr (slot_ne (Or.inr (oz hw 82)) (Or.inl (oz hw 100)) (by decide) (t := (.object c17_)) (t' := .int) (by decide) (by decide)))).other W5 (Or.inr (slot_ne (Or.inr (oz hw 82)) (Or.inl (oz hw 85)) (by decide) (t := (.object c17_)) (t' := .int) (by decide) (by decide))))
  have f11 := (F2.other W5 (Or.inr (slot_ne (Or.inl (oz hw 100)) (Or.inl (oz hw 85)) (by decide) (t := .int) (t' := .int) (by decide) (by decide))))
  have f12 := ((P3.other W2 (Or.inr (slot_ne (Or.inl (oz hw 89)) (Or.inl (oz hw 100)) (by decide) (t := .int) (t' := .int) (by decide) (by decide)))).other W5 (Or.inr (slot_ne (Or.inl (oz hw 89)) (Or.inl (oz hw 85)) (by decide) (t := .int) (t' := .int) (by decide) (by decide))))
  exact gretA hx hret rfl rfl (hb hby d534) (by decide) (by decide) (fun vq Cq => ⟨rfl, (((Keep.refl h0 [it]).wr W2 (Or.inl (List.mem_of_getElem? (i := 0) rfl))).wr W5 (Or.inl (List.mem_of_getElem? (i := 0) rfl))), f10, f11, f12, F5⟩)
def own_U (Z : State) (h : Heap) (uv : Value) (d : List Int32) (f : Int32) : Prop := (f = (0 : Int32) ∧ uv = .null) ∨ (¬ f = (0 : Int32) ∧ ∃ a t : Addr, uv = .ref a ∧ Str Z h a t d)
theorem d536 : Dc y76_ 0 (.aload_n 0) 1 := by decide +kernel
theorem d537 : Dc y76_ 1 (.invokespecial 1) 3 := by decide +kernel
theorem d538 : Dc y76_ 4 (.aload_n 1) 1 := by decide +kernel
theorem d539 : Dc y76_ 5 (.ifnull 20) 3 := by decide +kernel
theorem d540 : Dc y76_ 8 (.aload_n 1) 1 := by decide +kernel
theorem d541 : Dc y76_ 9 (.invokevirtual 7) 3 := by decide +kernel
theorem d542 : Dc y76_ 12 (.ifCond .eq 13) 3 := by decide +kernel
theorem d543 : Dc y76_ 25 (.aload_n 3) 1 := by decide +kernel
theorem d544 : Dc y76_ 26 (.invokeinterface 20 1) 5 := by decide +kernel
theorem own_pd545 : parseMethodDescriptor "()Ljava/util/Iterator;" = some ⟨[], some (.object "java/util/Iterator")⟩ := by decide +kernel
abbrev mn546 : MethodName := ⟨"java/util/List", "iterator", "()Ljava/util/Iterator;"⟩
theorem d547 : Dc y76_ 31 (.astore 4) 2 := by decide +kernel
theorem d548 : Dc y76_ 33 (.aload 4) 2 := by decide +kernel
theorem d549 : Dc y76_ 35 (.invokeinterface 26 1) 5 := by decide +kernel
abbrev mn550 : MethodName := ⟨"java/util/Iterator", "hasNext", "()Z"⟩
theorem d551 : Dc y76_ 40 (.ifCond .eq 36) 3 := by decide +kernel
theorem d552 : Dc y76_ 76 (.aload_n 0) 1 := by decide +kernel
theorem d553 : Dc y76_ 77 (.aload_n 1) 1 := by decide +kernel
theorem d554 : Dc y76_ 78 (.putfield 37) 3 := by decide +kernel
theorem d555 : Dc y76_ 81 (.aload_n 0) 1 := by decide +kernel
theorem d556 : Dc y76_ 82 (.iload_n 2) 1 := by decide +kernel
theorem d557 : Dc y76_ 83 (.putfield 43) 3 := by decide +kernel
theorem d558 : Dc y76_ 86 (.aload_n 0) 1 := by decide +kernel
theorem d559 : Dc y76_ 87 (.aload_n 3) 1 := by decide +kernel
theorem d560 : Dc y76_ 88 (.invokestatic 47) 3 := by decide +kernel
theorem d561 : Dc y76_ 91 (.putfield 51) 3 := by decide +kernel
theorem d562 : Dc y76_ 94 (.return_) 1 := by decide +kernel
abbrev mn563 : MethodName := ⟨"com/example/headings_from_text/headingsfromtext/vocabulary/Concept", "<init>", "(Ljava/lang/String;ZLjava/util/List;)V"⟩
theorem own_pn564 : plainName "com/example/headings_from_text/headingsfromtext/vocabulary/Concept" = true := by first | (simp [plainName, overriddenIn]; done) | decide +kernel
theorem own_cc0 {l : Launch} {Z : State} {a0 : Array Value} (cx : Ctx Z a0) (x : Addr) (pf : Int32) (kl : Addr) (mc : Int32) (u0 : Value) (u1 : Int32) (u2 uv : Value) (fg chu : Int32) (cru : List Int32) {cdi ca : Addr} {kA : ClassId} {dz el ee em mr : Addr} {kd ke : ClassId} (vm0 : Vm) (h0 : Heap) (X00 : Ext Z.heap h0) (P0 : own_U Z h0 uv (chu :: cru) fg) (isRef_uv : (uv.isRef = true)) (P2 : (B8 chu)) (P3 : (¬ chu < (33 : Int32))) (P4 : ((0 : Int32) < Int32.ofNat (chu :: cru).length)) (P5 : Exa Z h0 x c6_) (P6 : Fld Z h0 x c6_ "ui" c1_ u0) (P7 : Fld Z h0 x c6_ "preferred" "Z" (.int u1)) (P8 : Fld Z h0 x c6_ "terms" c3_ u2) (P9 : Z.heap.size ≤ x) (b_pf : (pf = 0 ∨ pf = 1)) (P11 : Fld Z h0 kl c16_ "modCount" "I" (.int mc)) (P12 : Exa Z h0 kl c17_) (P13 : Fld Z h0 kl c17_ c7_ c4_ (.ref dz)) (P14 : Fld Z h0 kl c17_ "size" "I" (.int (0 : Int32))) (hB : (OwnB Z cdi ca kA)) (hL : (OwnL Z dz el ee em mr kd ke)) :
    Met l mn563 y76_ 6 none [] (Rm 5 1 4 68) Z consts_1 vm0 h0 #[(.ref x), uv, (.int pf), (.ref kl)] (fun rv vm h => rv = none ∧ Keep h0 h [x] ∧ Fld Z h x c6_ "ui" c1_ uv ∧ Fld Z h x c6_ "preferred" "Z" (.int pf) ∧ Fld Z h x c6_ "terms" c3_ (.ref el)) := by
  have hw := cx.1
  refine Met.of_walk (a0 := a0) #[vr x, .val uv, vi pf, vr kl, un, un] (plainFor_of_name own_pn564) X00 cx.2.1 (fun m => by rcases ref_cases isRef_uv with q | ⟨_, q⟩ <;> subst q <;> first | (simp [entryFrame, mkF, argsToLocals, Value.category]; done) | rfl) ?_
  intro p e s m below meth c vm hx hby hml hret hnm hC0 hW0
  have lt_x : h0.size > x := P5.lt
  have lt_kl : h0.size > kl := P11.lt
  refine vAN 1 d536 ?_
  refine gjoin (fun vmJ hJ gJ => gJ = (mkF m 25 #[vr x, .val uv, vi pf, vr kl, un, un] []) ∧ Keep h0 hJ [] ∧ CHq Z consts_1 vm h0 vmJ hJ) 0 0 ?_ ?_
  · rintro vm1 h1 _ ⟨rfl, K1, C1⟩
    have z1 := C1.2.1
    refine vAN 26 d543 ?_
    have f5 := (P12.keep K1)
    have f6 := (P11.keep K1 nin0)
    refine gmF (xi := mn546) (y := mn485) (oz hw 65) (oz hw 66) (fun _ _ hU => mvT hU (oz hw 67)) (oz hw 68) (oz hw 69) (oz hw 70) (oz hw 71) (oz hw 72) (oz hw 73) (oz hw 36) (fun O => own_iterator cx kl mc vm1 h1 O f5 f6) 31 (argsL := []) (rest := []) f5 own_pd545 d544 ?_
    rintro _ vm4 h4 C4 z4 ⟨it4, rfl, K4, q4_0, q4_1, q4_2, q4_3, q4_4, q4_5, q4_6⟩
    have lt_it4 : h4.size > it4 := q4_2.lt
    refine gat1 ?_
    refine vSA 33 #[vr x, .val uv, vi pf, vr kl, vr it4, un] d547 ?_
    refine vA 35 d548 ?_
    have f8 := ((P14.keep K1 nin0).keep K4 nin0)
    refine gmF (xi := mn550) (y := mn502) (oz hw 90) (oz hw 91) (fun _ _ hU => mvT hU (oz hw 92)) (oz hw 93) (oz hw 94) (oz hw 95) (oz hw 96) (oz hw 97) (oz hw 98) (oz hw 76) (fun O => own_hasE cx it4 kl ((0 : Int32)) vm4 h4 O q4_3 q4_4 f8) 40 (argsL := []) (rest := []) q4_2 own_pd43 d549 ?_
    rintro _ vm7 h7 C7 z7 ⟨rfl, rfl⟩
    refine gat1 ?_
    refine vY 76 d551 ((if0 _ _).trans (teq (by decide)).1) ?_
    refine vAN 77 d552 ?_
    refine gs (mkF m 78 #[vr x, .val uv, vi pf, vr kl, vr it4, un] [uv, (.ref x)]) (fun _ _ A kq => XS.aloadN A hx rfl (hb hby d553) rfl isRef_uv kq) ?_
    have f9 := ((P6.keep K1 nin0).keep K4 nin0)
    have f10 := ((P5.keep K1).keep K4)
    refine gputF (host := "") hx (Or.inl (oz hw 103)) Via.refl f9 f10 (Or.inr ⟨(oz hw 104), rfl, hnm⟩) (oz hw 59) (ty := (.object c13_)) (by decide) (by rcases ref_cases isRef_uv with q | ⟨_, q⟩ <;> rw [q] <;> rfl) (by rcases ref_cases isRef_uv with q | ⟨_, q⟩ <;> rw [q] <;> rfl) P9 (fun al => Safe.exa al f10 (by decide) (by decide)) 81 (hb hby d554) rfl ?_
    intro h11 W11 C11
    have z11 := C11.2.1
    have F11 := f9.same W11
    refine vAN 82 d555 ?_
    refine vIN 83 d556 ?_
    have f12 := (((P7.keep K1 nin0).keep K4 nin0).other W11 (Or.inr (slot_ne (Or.inr (oz hw 106)) (Or.inr (oz hw 104)) (by decide) (t := .boolean) (t' := (.object c13_)) (by decide) (by decide))))
    have f13 := (f10.wr W11)
    refine gputF (host := "") hx (Or.inl (oz hw 105)) Via.refl f12 f13 (Or.inr ⟨(oz hw 106), rfl, hnm⟩) (oz hw 59) (ty := .boolean) (by decide) (by rcases b_pf with q | q <;> rw [q] <;> rfl) (by rcases b_pf with q | q <;> rw [q] <;> rfl) P9 (fun al => Safe.exa al f13 (by decide) (by decide)) 86 (hb hby d557) rfl ?_
    intro h14 W14 C14
    have z14 := C14.2.1
    have F14 := f12.same W14
    refine vAN 87 d558 ?_
    refine vAN 88 d559 ?_
    have f16 := (((f5.keep K4).wr W11).wr W14)
    have f17 := (f13.wr W14)
    have f18 := ((((P13.keep K1 nin0).keep K4 nin0).other W11 (Or.inl (ne_exa f16 f17 (by decide)))).other W14 (Or.inl (ne_exa f16 f17 (by decide))))
    have f19 := ((f8.other W11 (Or.inl (ne_exa f16 f17 (by decide)))).other W14 (Or.inl (ne_exa f16 f17 (by decide))))
    refine gmS (y := mn421) (oz hw 107) (oz hw 108) (oz hw 110) (oz hw 109) (fun O => own_copy0 cx kl vm7 h14 O f16 f18 f19 (by first | assumption | decide | omega)) 91 (argsL := [(.ref kl)]) (rest := [(.ref x)]) own_pd419 d560 ?_
    rintro _ vm15 h15 C15 z15 ⟨rfl, K15⟩
    refine gat1 ?_
    have f20 := (((((P8.keep K1 nin0).keep K4 nin0).other W11 (Or.inr (slot_ne (Or.inr (oz hw 136)) (Or.inr (oz hw 104)) (by decide) (t := (.object c24_)) (t' := (.object c13_)) (by decide) (by decide)))).other W14 (Or.inr (slot_ne (Or.inr (oz hw 136)) (Or.inr (oz hw 106)) (by decide) (t := (.object c24_)) (t' := .boolean) (by decide) (by decide)))).keep K15 nin0)
    have f21 := (f17.keep K15)
    refine gputF (host := "") hx (Or.inl (oz hw 135)) Via.refl f20 f21 (Or.inr ⟨(oz hw 136), rfl, hnm⟩) (oz hw 59) (ty := (.object c24_)) (by decide) rfl rfl P9 (fun al => Safe.exa al f21 (by decide) (by decide)) 94 (hb hby d561) rfl ?_
    intro h22 W22 C22
    have z22 := C22.2.1
    have F22 := f20.same W22
    have f24 := (((F11.other W14 (Or.inr (slot_ne (Or.inr (oz hw 104)) (Or.inr (oz hw 106)) (by decide) (t := (.object c13_)) (t' := .boolean) (by decide) (by decide)))).keep K15 nin0).other W22 (Or.inr (slot_ne (Or.inr (oz hw 104)) (Or.inr (oz hw 136)) (by decide) (t := (.object c13_)) (t' := (.object c24_)) (by decide) (by decide))))
    have f25 := ((F14.keep K15 nin0).other W22 (Or.inr (slot_ne (Or.inr (oz hw 106)) (Or.inr (oz hw 136)) (by decide) (t := .boolean) (t' := (.object c24_)) (by decide) (by decide))))
    exact gretV hx hret (hb hby d562) (by decide) (by decide) (fun vq Cq => ⟨rfl, (((((((Keep.refl h0 [x]).trans K1 all0).trans K4 all0).wr W11 (Or.inl (List.mem_of_getElem? (i := 0) rfl))).wr W14 (Or.inl (List.mem_of_getElem? (i := 0) rfl))).trans K15 all0).wr W22 (Or.inl (List.mem_of_getElem? (i := 0) rfl))), f24, f25, F22⟩)
  · intro J1
    refine ginitO hx (oz hw 64) (oz hw 16) (oz hw 17) 4 (W := 0) (Nat.le_of_eq rfl) (by rw [hml]; rfl) (hb hby d537) rfl (by decide) (by decide) ?_
    rcases P0 with ⟨e5, rfl⟩ | ⟨e5, ui, tu, rfl, Su⟩
    · refine vAN 5 d538 ?_
      refine vY0 25 d539 ?_
      refine ginfo fun _ Hq _ => ?_
      exact gmono (by decide) (by decide) (J1 _ _ _ ⟨rfl, (Keep.refl h0 []), (CHq.refl Hq)⟩)
    · have lt_ui : h0.size > ui := Su.1.lt
      have lt_tu : h0.size > tu := Su.tlt
      refine vAN 5 d538 ?_
      refine vN0 8 d539 ?_
      refine vAN 9 d540 ?_
      refine gmV (y := mn145) (z := mn145) (oz hw 335) (oz hw 336) (nfSel (oz hw 338)) (oz hw 338) (oz hw 337) (oz hw 339) (oz hw 6) (fun O => own_isblank cx ui tu chu cru vm h0 O Su (by first | assumption | decide | omega) (by first | assumption | decide | omega) (by first | assumption | decide | omega) (by first | assumption | decide | omega)) 12 (argsL := []) (rest := []) Su.1 own_pd43 d541 ?_
      rintro _ vm3 h3 C3 z3 ⟨rfl, rfl⟩
      refine gat1 ?_
      refine vY 25 d542 ((if0 _ _).trans (teq (by decide)).1) ?_
      exact gmono (by decide) (by decide) (J1 _ _ _ ⟨rfl, (Keep.refl h0 []), C3⟩)
theorem d565 : Dc y76_ 43 (.aload 4) 2 := by decide +kernel
theorem d566 : Dc y76_ 45 (.invokeinterface 31 1) 5 := by decide +kernel
theorem own_pd567 : parseMethodDescriptor "()Ljava/lang/Object;" = some ⟨[], some (.object "java/lang/Object")⟩ := by decide +kernel
abbrev mn568 : MethodName := ⟨"java/util/Iterator", "next", "()Ljava/lang/Object;"⟩
theorem d569 : Dc y76_ 50 (.checkcast 8) 3 := by decide +kernel
theorem d570 : Dc y76_ 53 (.astore 5) 2 := by decide +kernel
theorem d571 : Dc y76_ 55 (.aload 5) 2 := by decide +kernel
theorem d572 : Dc y76_ 57 (.invokevirtual 7) 3 := by decide +kernel
theorem d573 : Dc y76_ 60 (.ifCond .eq 13) 3 := by decide +kernel
theorem d574 : Dc y76_ 73 (.goto (-40)) 3 := by decide +kernel
theorem own_cc1 {l : Launch} {Z : State} {a0 : Array Value} (cx : Ctx Z a0) (x : Addr) (pf : Int32) (kl : Addr) (mc : Int32) (u0 : Value) (u1 : Int32) (u2 uv : Value) (fg chu : Int32) (cru : List Int32) (d : Addr) (kc : ClassId) (s0_ t0_ : Addr) (ch0 : Int32) (cr0 : List Int32) {cdi ca : Addr} {kA : ClassId} {dz el ee em mr : Addr} {kd ke : ClassId} (vm0 : Vm) (h0 : Heap) (X00 : Ext Z.heap h0) (P0 : own_U Z h0 uv (chu :: cru) fg) (isRef_uv : (uv.isRef = true)) (P2 : (B8 chu)) (P3 : (¬ chu < (33 : Int32))) (P4 : ((0 : Int32) < Int32.ofNat (chu :: cru).length)) (P5 : Exa Z h0 x c6_) (P6 : Fld Z h0 x c6_ "ui" c1_ u0) (P7 : Fld Z h0 x c6_ "preferred" "Z" (.int u1)) (P8 : Fld Z h0 x c6_ "terms" c3_ u2) (P9 : Z.heap.size ≤ x) (b_pf : (pf = 0 ∨ pf = 1)) (P11 : Fld Z h0 kl c16_ "modCount" "I" (.int mc)) (P12 : Exa Z h0 kl c17_) (P13 : Fld Z h0 kl c17_ c7_ c4_ (.ref d)) (P14 : Fld Z h0 kl c17_ "size" "I" (.int (1 : Int32))) (P15 : Arv Z h0 d kc (.object c12_) (10 : Int32) [(.ref s0_), .null, .null, .null, .null, .null, .null, .null, .null, .null] .null) (P16 : Exa Z h0 d c4_) (hov : (Ovr Z kc c12_)) (P18 : Str Z h0 s0_ t0_ (ch0 :: cr0)) (P19 : (B8 ch0)) (P20 : (¬ ch0 < (33 : Int32))) (P21 : ((0 : Int32) < Int32.ofNat (ch0 :: cr0).length)) (hB : (OwnB Z cdi ca kA)) (hL : (OwnL Z dz el ee em mr kd ke)) :
    Met l mn563 y76_ 6 none [] (Rm 8 3 7 101) Z consts_1 vm0 h0 #[(.ref x), uv, (.int pf), (.ref kl)] (fun rv vm h => ∃ (r : Addr), rv = none ∧ Keep h0 h [x] ∧ Fld Z h x c6_ "ui" c1_ uv ∧ Fld Z h x c6_ "preferred" "Z" (.int pf) ∧ Fld Z h x c6_ "terms" c3_ (.ref r) ∧ Exa Z h r c20_ ∧ Fld Z h r c20_ "e0" c0_ (.ref s0_) ∧ Fld Z h r c20_ "e1" c0_ (.ref em)) := by
  have hw := cx.1
  refine Met.of_walk (a0 := a0) #[vr x, .val uv, vi pf, vr kl, un, un] (plainFor_of_name own_pn564) X00 cx.2.1 (fun m => by rcases ref_cases isRef_uv with q | ⟨_, q⟩ <;> subst q <;> first | (simp [entryFrame, mkF, argsToLocals, Value.category]; done) | rfl) ?_
  intro p e s m below meth c vm hx hby hml hret hnm hC0 hW0
  have lt_x : h0.size > x := P5.lt
  have lt_kl : h0.size > kl := P11.lt
  have lt_d : h0.size > d := P15.lt
  have lt_s0_ : h0.size > s0_ := P18.1.lt
  have lt_t0_ : h0.size > t0_ := P18.tlt
  refine vAN 1 d536 ?_
  refine gjoin (fun vmJ hJ gJ => gJ = (mkF m 25 #[vr x, .val uv, vi pf, vr kl, un, un] []) ∧ Keep h0 hJ [] ∧ CHq Z consts_1 vm h0 vmJ hJ) 0 0 ?_ ?_
  · rintro vm1 h1 _ ⟨rfl, K1, C1⟩
    have z1 := C1.2.1
    refine vAN 26 d543 ?_
    have f5 := (P12.keep K1)
    have f6 := (P11.keep K1 nin0)
    refine gmF (xi := mn546) (y := mn485) (oz hw 65) (oz hw 66) (fun _ _ hU => mvT hU (oz hw 67)) (oz hw 68) (oz hw 69) (oz hw 70) (oz hw 71) (oz hw 72) (oz hw 73) (oz hw 36) (fun O => own_iterator cx kl mc vm1 h1 O f5 f6) 31 (argsL := []) (rest := []) f5 own_pd545 d544 ?_
    rintro _ vm4 h4 C4 z4 ⟨it4, rfl, K4, q4_0, q4_1, q4_2, q4_3, q4_4, q4_5, q4_6⟩
    have lt_it4 : h4.size > it4 := q4_2.lt
    refine gat1 ?_
    refine vSA 33 #[vr x, .val uv, vi pf, vr kl, vr it4, un] d547 ?_
    refine vA 35 d548 ?_
    have f8 := ((P14.keep K1 nin0).keep K4 nin0)
    refine gmF (xi := mn550) (y := mn502) (oz hw 90) (oz hw 91) (fun _ _ hU => mvT hU (oz hw 92)) (oz hw 93) (oz hw 94) (oz hw 95) (oz hw 96) (oz hw 97) (oz hw 98) (oz hw 76) (fun O => own_hasN cx it4 kl ((0 : Int32)) ((1 : Int32)) vm4 h4 O q4_3 q4_4 f8 (by first | assumption | decide | omega)) 40 (argsL := []) (rest := []) q4_2 own_pd43 d549 ?_
    rintro _ vm7 h7 C7 z7 ⟨rfl, rfl⟩
    refine gat1 ?_
    refine vN 43 d551 ((if0 _ _).trans (feq (by decide)).1) ?_
    refine vA 45 d565 ?_
    have f10 := (f6.keep K4 nin0)
    have f11 := (f5.keep K4)
    have f12 := ((P13.keep K1 nin0).keep K4 nin0)
    have f13 := ((P15.keep K1 nin0).keep K4 nin0)
    have f14 := ((P16.keep K1).keep K4)
    refine gmF (xi := mn568) (y := mn535) (oz hw 396) (oz hw 397) (fun _ _ hU => mvT hU (oz hw 398)) (oz hw 399) (oz hw 400) (oz hw 401) (oz hw 402) (oz hw 97) (oz hw 403) (oz hw 76) (fun O => own_next0_1 cx it4 kl mc ((-1 : Int32)) d kc s0_ vm7 h4 O q4_2 q4_3 q4_4 q4_5 q4_6 q4_1 f10 f11 f12 f8 f13 f14 (by first | assumption | decide | omega)) 50 (argsL := []) (rest := []) q4_2 own_pd567 d566 ?_
    rintro _ vm9 h9 C9 z9 ⟨rfl, K9, q9_0, q9_1, q9_2, q9_3⟩
    refine gat1 ?_
    refine gcast hx (oz hw 410) (Ins.self (((P18.1.keep K1).keep K4).keep K9)) 53 (hb hby d569) rfl ?_
    refine vSA 55 #[vr x, .val uv, vi pf, vr kl, vr it4, vr s0_] d570 ?_
    refine vA 57 d571 ?_
    have f16 := (((P18.keep K1 nin0 nin0).keep K4 nin0 nin0).keep K9 nL nL)
    refine gmV (y := mn145) (z := mn145) (oz hw 335) (oz hw 336) (nfSel (oz hw 338)) (oz hw 338) (oz hw 337) (oz hw 339) (oz hw 6) (fun O => own_isblank cx s0_ t0_ ch0 cr0 vm9 h9 O f16 (by first | assumption | decide | omega) (by first | assumption | decide | omega) (by first | assumption | decide | omega) (by first | assumption | decide | omega)) 60 (argsL := []) (rest := []) f16.1 own_pd43 d572 ?_
    rintro _ vm15 h15 C15 z15 ⟨rfl, rfl⟩
    refine gat1 ?_
    refine vY 73 d573 ((if0 _ _).trans (teq (by decide)).1) ?_
    refine vG 33 d574 ?_
    refine vA 35 d548 ?_
    have f18 := (f8.keep K9 nL)
    have f19 := (q4_2.keep K9)
    refine gmF (xi := mn550) (y := mn502) (oz hw 90) (oz hw 91) (fun _ _ hU => mvT hU (oz hw 92)) (oz hw 93) (oz hw 94) (oz hw 95) (oz hw 96) (oz hw 97) (oz hw 98) (oz hw 76) (fun O => own_hasE cx it4 kl ((1 : Int32)) vm15 h9 O q9_0 q9_1 f18) 40 (argsL := []) (rest := []) f19 own_pd43 d549 ?_
    rintro _ vm17 h17 C17 z17 ⟨rfl, rfl⟩
    refine gat1 ?_
    refine vY 76 d551 ((if0 _ _).trans (teq (by decide)).1) ?_
    refine vAN 77 d552 ?_
    refine gs (mkF m 78 #[vr x, .val uv, vi pf, vr kl, vr it4, vr s0_] [uv, (.ref x)]) (fun _ _ A kq => XS.aloadN A hx rfl (hb hby d553) rfl isRef_uv kq) ?_
    have f20 := (((P6.keep K1 nin0).keep K4 nin0).keep K9 nL)
    have f21 := (((P5.keep K1).keep K4).keep K9)
    refine gputF (host := "") hx (Or.inl (oz hw 103)) Via.refl f20 f21 (Or.inr ⟨(oz hw 104), rfl, hnm⟩) (oz hw 59) (ty := (.object c13_)) (by decide) (by rcases ref_cases isRef_uv with q | ⟨_, q⟩ <;> rw [q] <;> rfl) (by rcases ref_cases isRef_uv with q | ⟨_, q⟩ <;> rw [q] <;> rfl) P9 (fun al => Safe.exa al f21 (by decide) (by decide)) 81 (hb hby d554) rfl ?_
    intro h22 W22 C22
    have z22 := C22.2.1
    have F22 := f20.same W22
    refine vAN 82 d555 ?_
    refine vIN 83 d556 ?_
    have f23 := ((((P7.keep K1 nin0).keep K4 nin0).keep K9 nL).other W22 (Or.inr (slot_ne (Or.inr (oz hw 106)) (Or.inr (oz hw 104)) (by decide) (t := .boolean) (t' := (.object c13_)) (by decide) (by decide))))
    have f24 := (f21.wr W22)
    refine gputF (host := "") hx (Or.inl (oz hw 105)) Via.refl f23 f24 (Or.inr ⟨(oz hw 106), rfl, hnm⟩) (oz hw 59) (ty := .boolean) (by decide) (by rcases b_pf with q | q <;> rw [q] <;> rfl) (by rcases b_pf with q | q <;> rw [q] <;> rfl) P9 (fun al => Safe.exa al f24 (by decide) (by decide)) 86 (hb hby d557) rfl ?_
    intro h25 W25 C25
    have z25 := C25.2.1
    have F25 := f23.same W25
    refine vAN 87 d558 ?_
    refine vAN 88 d559 ?_
    have f27 := (((f11.keep K9).wr W22).wr W25)
    have f28 := (f24.wr W25)
    have f29 := (((f12.keep K9 nL).other W22 (Or.inl (ne_exa f27 f28 (by decide)))).other W25 (Or.inl (ne_exa f27 f28 (by decide))))
    have f30 := ((f18.other W22 (Or.inl (ne_exa f27 f28 (by decide)))).other W25 (Or.inl (ne_exa f27 f28 (by decide))))
    have f31 := (((f14.keep K9).wr W22).wr W25)
    have f32 := (((f13.keep K9 nL).other W22 (ne_exa f31 f28 (by decide))).other W25 (ne_exa f31 f28 (by decide)))
    refine gmS (y := mn421) (oz hw 107) (oz hw 108) (oz hw 110) (oz hw 109) (fun O => own_copy1 cx kl d kc s0_ vm17 h25 O f27 f29 f30 f32 f31 (by first | assumption | decide | omega) ((f16.1.wr W22).wr W25) (by first | assumption | decide | omega)) 91 (argsL := [(.ref kl)]) (rest := [(.ref x)]) own_pd419 d560 ?_
    rintro _ vm26 h26 C26 z26 ⟨r26, rfl, K26, q26_0, q26_1, q26_2, q26_3⟩
    have lt_r26 : h26.size > r26 := q26_1.lt
    refine gat1 ?_
    have f33 := ((((((P8.keep K1 nin0).keep K4 nin0).keep K9 nL).other W22 (Or.inr (slot_ne (Or.inr (oz hw 136)) (Or.inr (oz hw 104)) (by decide) (t := (.object c24_)) (t' := (.object c13_)) (by decide) (by decide)))).other W25 (Or.inr (slot_ne (Or.inr (oz hw 136)) (Or.inr (oz hw 106)) (by decide) (t := (.object c24_)) (t' := .boolean) (by decide) (by decide)))).keep K26 nin0)
    have f34 := (f28.keep K26)
    refine gputF (host := "") hx (Or.inl (oz hw 135)) Via.refl f33 f34 (Or.inr ⟨(oz hw 136), rfl, hnm⟩) (oz hw 59) (ty := (.object c24_)) (by decide) rfl rfl P9 (fun al => Safe.exa al f34 (by decide) (by decide)) 94 (hb hby d561) rfl ?_
    intro h35 W35 C35
    have z35 := C35.2.1
    have F35 := f33.same W35
    have f37 := (((F22.other W25 (Or.inr (slot_ne (Or.inr (oz hw 104)) (Or.inr (oz hw 106)) (by decide) (t := (.object c13_)) (t' := .boolean) (by decide) (by decide)))).keep K26 nin0).other W35 (Or.inr (slot_ne (Or.inr (oz hw 104)) (Or.inr (oz hw 136)) (by decide) (t := (.object c13_)) (t' := (.object c24_)) (by decide) (by decide))))
    have f38 := ((F25.keep K26 nin0).other W35 (Or.inr (slot_ne (Or.inr (oz hw 106)) (Or.inr (oz hw 136)) (by decide) (t := .boolean) (t' := (.object c24_)) (by decide) (by decide))))
    have f39 := (q26_1.wr W35)
    have f40 := (q26_2.other W35 (Or.inl (Nat.ne_of_gt (by omega))))
    have f41 := (q26_3.other W35 (Or.inl (Nat.ne_of_gt (by omega))))
    exact gretV hx hret (hb hby d562) (by decide) (by decide) (fun vq Cq => ⟨r26, rfl, ((((((((Keep.refl h0 [x]).trans K1 all0).trans K4 all0).trans K9 (allS (Or.inr (by omega)) all0)).wr W22 (Or.inl (List.mem_of_getElem? (i := 0) rfl))).wr W25 (Or.inl (List.mem_of_getElem? (i := 0) rfl))).trans K26 all0).wr W35 (Or.inl (List.mem_of_getElem? (i := 0) rfl))), f37, f38, F35, f39, f40, f41⟩)
  · intro J1
    refine ginitO hx (oz hw 64) (oz hw 16) (oz hw 17) 4 (W := 0) (Nat.le_of_eq rfl) (by rw [hml]; rfl) (hb hby d537) rfl (by decide) (by decide) ?_
    rcases P0 with ⟨e5, rfl⟩ | ⟨e5, ui, tu, rfl, Su⟩
    · refine vAN 5 d538 ?_
      refine vY0 25 d539 ?_
      refine ginfo fun _ Hq _ => ?_
      exact gmono (by decide) (by decide) (J1 _ _ _ ⟨rfl, (Keep.refl h0 []), (CHq.refl Hq)⟩)
    · have lt_ui : h0.size > ui := Su.1.lt
      have lt_tu : h0.size > tu := Su.tlt
      refine vAN 5 d538 ?_
      refine vN0 8 d539 ?_
      refine vAN 9 d540 ?_
      refine gmV (y := mn145) (z := mn145) (oz hw 335) (oz hw 336) (nfSel (oz hw 338)) (oz hw 338) (oz hw 337) (oz hw 339) (oz hw 6) (fun O => own_isblank cx ui tu chu cru vm h0 O Su (by first | assumption | decide | omega) (by first | assumption | decide | omega) (by first | assumption | decide | omega) (by first | assumption | decide | omega)) 12 (argsL := []) (rest := []) Su.1 own_pd43 d541 ?_
      rintro _ vm3 h3 C3 z3 ⟨rfl, rfl⟩
      refine gat1 ?_
      refine vY 25 d542 ((if0 _ _).trans (teq (by decide)).1) ?_
      exact gmono (by decide) (by decide) (J1 _ _ _ ⟨rfl, (Keep.refl h0 []), C3⟩)
theorem own_cc2 {l : Launch} {Z : State} {a0 : Array Value} (cx : Ctx Z a0) (x : Addr) (pf : Int32) (kl : Addr) (mc : Int32) (u0 : Value) (u1 : Int32) (u2 uv : Value) (fg chu : Int32) (cru : List Int32) (d : Addr) (kc : ClassId) (s0_ s1_ t0_ : Addr) (ch0 : Int32) (cr0 : List Int32) (t1_ : Addr) (ch1 : Int32) (cr1 : List Int32) {cdi ca : Addr} {kA : ClassId} {dz el ee em mr : Addr} {kd ke : ClassId} (vm0 : Vm) (h0 : Heap) (X00 : Ext Z.heap h0) (P0 : own_U Z h0 uv (chu :: cru) fg) (isRef_uv : (uv.isRef = true)) (P2 : (B8 chu)) (P3 : (¬ chu < (33 : Int32))) (P4 : ((0 : Int32) < Int32.ofNat (chu :: cru).length)) (P5 : Exa Z h0 x c6_) (P6 : Fld Z h0 x c6_ "ui" c1_ u0) (P7 : Fld Z h0 x c6_ "preferred" "Z" (.int u1)) (P8 : Fld Z h0 x c6_ "terms" c3_ u2) (P9 : Z.heap.size ≤ x) (b_pf : (pf = 0 ∨ pf = 1)) (P11 : Fld Z h0 kl c16_ "modCount" "I" (.int mc)) (P12 : Exa Z h0 kl c17_) (P13 : Fld Z h0 kl c17_ c7_ c4_ (.ref d)) (P14 : Fld Z h0 kl c17_ "size" "I" (.int (2 : Int32))) (P15 : Arv Z h0 d kc (.object c12_) (10 : Int32) [(.ref s0_), (.ref s1_), .null, .null, .null, .null, .null, .null, .null, .null] .null) (P16 : Exa Z h0 d c4_) (hov : (Ovr Z kc c12_)) (P18 : Str Z h0 s0_ t0_ (ch0 :: cr0)) (P19 : (B8 ch0)) (P20 : (¬ ch0 < (33 : Int32))) (P21 : ((0 : Int32) < Int32.ofNat (ch0 :: cr0).length)) (P22 : Str Z h0 s1_ t1_ (ch1 :: cr1)) (P23 : (B8 ch1)) (P24 : (¬ ch1 < (33 : Int32))) (P25 : ((0 : Int32) < Int32.ofNat (ch1 :: cr1).length)) (hB : (OwnB Z cdi ca kA)) (hL : (OwnL Z dz el ee em mr kd ke)) :
    Met l mn563 y76_ 6 none [] (Rm 8 3 8 102) Z consts_1 vm0 h0 #[(.ref x), uv, (.int pf), (.ref kl)] (fun rv vm h => ∃ (r : Addr), rv = none ∧ Keep h0 h [x] ∧ Fld Z h x c6_ "ui" c1_ uv ∧ Fld Z h x c6_ "preferred" "Z" (.int pf) ∧ Fld Z h x c6_ "terms" c3_ (.ref r) ∧ Exa Z h r c20_ ∧ Fld Z h r c20_ "e0" c0_ (.ref s0_) ∧ Fld Z h r c20_ "e1" c0_ (.ref s1_)) := by
  have hw := cx.1
  refine Met.of_walk (a0 := a0) #[vr x, .val uv, vi pf, vr kl, un, un] (plainFor_of_name own_pn564) X00 cx.2.1 (fun m => by rcases ref_cases isRef_uv with q | ⟨_, q⟩ <;> subst q <;> first | (simp [entryFrame, mkF, argsToLocals, Value.category]; done) | rfl) ?_
  intro p e s m below meth c vm hx hby hml hret hnm hC0 hW0
  have lt_x : h0.size > x := P5.lt
  have lt_kl : h0.size > kl := P11.lt
  have lt_d : h0.size > d := P15.lt
  have lt_s0_ : h0.size > s0_ := P18.1.lt
  have lt_t0_ : h0.size > t0_ := P18.tlt
  have lt_s1_ : h0.size > s1_ := P22.1.lt
  have lt_t1_ : h0.size > t1_ := P22.tlt
  refine vAN 1 d536 ?_
  refine gjoin (fun vmJ hJ gJ => gJ = (mkF m 25 #[vr x, .val uv, vi pf, vr kl, un, un] []) ∧ Keep h0 hJ [] ∧ CHq Z consts_1 vm h0 vmJ hJ) 0 0 ?_ ?_
  · rintro vm1 h1 _ ⟨rfl, K1, C1⟩
    have z1 := C1.2.1
    refine vAN 26 d543 ?_
    have f5 := (P12.keep K1)
    have f6 := (P11.keep K1 nin0)
    refine gmF (xi := mn546) (y := mn485) (oz hw 65) (oz hw 66) (fun _ _ hU => mvT hU (oz hw 67)) (oz hw 68) (oz hw 69) (oz hw 70) (oz hw 71) (oz hw 72) (oz hw 73) (oz hw 36) (fun O => own_iterator cx kl mc vm1 h1 O f5 f6) 31 (argsL := []) (rest := []) f5 own_pd545 d544 ?_
    rintro _ vm4 h4 C4 z4 ⟨it4, rfl, K4, q4_0, q4_1, q4_2, q4_3, q4_4, q4_5, q4_6⟩
    have lt_it4 : h4.size > it4 := q4_2.lt
    refine gat1 ?_
    refine vSA 33 #[vr x, .val uv, vi pf, vr kl, vr it4, un] d547 ?_
    refine vA 35 d548 ?_
    have f8 := ((P14.keep K1 nin0).keep K4 nin0)
    refine gmF (xi := mn550) (y := mn502) (oz hw 90) (oz hw 91) (fun _ _ hU => mvT hU (oz hw 92)) (oz hw 93) (oz hw 94) (oz hw 95) (oz hw 96) (oz hw 97) (oz hw 98) (oz hw 76) (fun O => own_hasN cx it4 kl ((0 : Int32)) ((2 : Int32)) vm4 h4 O q4_3 q4_4 f8 (by first | assumption | decide | omega)) 40 (argsL := []) (rest := []) q4_2 own_pd43 d549 ?_
    rintro _ vm7 h7 C7 z7 ⟨rfl, rfl⟩
    refine gat1 ?_
    refine vN 43 d551 ((if0 _ _).trans (feq (by decide)).1) ?_
    refine vA 45 d565 ?_
    have f10 := (f6.keep K4 nin0)
    have f11 := (f5.keep K4)
    have f12 := ((P13.keep K1 nin0).keep K4 nin0)
    have f13 := ((P15.keep K1 nin0).keep K4 nin0)
    have f14 := ((P16.keep K1).keep K4)
    refine gmF (xi := mn568) (y := mn535) (oz hw 396) (oz hw 397) (fun _ _ hU => mvT hU (oz hw 398)) (oz hw 399) (oz hw 400) (oz hw 401) (oz hw 402) (oz hw 97) (oz hw 403) (oz hw 76) (fun O => own_next0_2 cx it4 kl mc ((-1 : Int32)) d kc s0_ s1_ vm7 h4 O q4_2 q4_3 q4_4 q4_5 q4_6 q4_1 f10 f11 f12 f8 f13 f14 (by first | assumption | decide | omega)) 50 (argsL := []) (rest := []) q4_2 own_pd567 d566 ?_
    rintro _ vm9 h9 C9 z9 ⟨rfl, K9, q9_0, q9_1, q9_2, q9_3⟩
    refine gat1 ?_
    refine gcast hx (oz hw 410) (Ins.self (((P18.1.keep K1).keep K4).keep K9)) 53 (hb hby d569) rfl ?_
    refine vSA 55 #[vr x, .val uv, vi pf, vr kl, vr it4, vr s0_] d570 ?_
    refine vA 57 d571 ?_
    have f16 := (((P18.keep K1 nin0 nin0).keep K4 nin0 nin0).keep K9 nL nL)
    refine gmV (y := mn145) (z := mn145) (oz hw 335) (oz hw 336) (nfSel (oz hw 338)) (oz hw 338) (oz hw 337) (oz hw 339) (oz hw 6) (fun O => own_isblank cx s0_ t0_ ch0 cr0 vm9 h9 O f16 (by first | assumption | decide | omega) (by first | assumption | decide | omega) (by first | assumption | decide | omega) (by first | assumption | decide | omega)) 60 (argsL := []) (rest := []) f16.1 own_pd43 d572 ?_
    rintro _ vm15 h15 C15 z15 ⟨rfl, rfl⟩
    refine gat1 ?_
    refine vY 73 d573 ((if0 _ _).trans (teq (by decide)).1) ?_
    refine vG 33 d574 ?_
    refine vA 35 d548 ?_
    have f18 := (f8.keep K9 nL)
    have f19 := (q4_2.keep K9)
    refine gmF (xi := mn550) (y := mn502) (oz hw 90) (oz hw 91) (fun _ _ hU => mvT hU (oz hw 92)) (oz hw 93) (oz hw 94) (oz hw 95) (oz hw 96) (oz hw 97) (oz hw 98) (oz hw 76) (fun O => own_hasN cx it4 kl ((1 : Int32)) ((2 : Int32)) vm15 h9 O q9_0 q9_1 f18 (by first | assumption | decide | omega)) 40 (argsL := []) (rest := []) f19 own_pd43 d549 ?_
    rintro _ vm17 h17 C17 z17 ⟨rfl, rfl⟩
    refine gat1 ?_
    refine vN 43 d551 ((if0 _ _).trans (feq (by decide)).1) ?_
    refine vA 45 d565 ?_
    have f21 := (f10.keep K9 nL)
    have f22 := (f11.keep K9)
    have f23 := (f12.keep K9 nL)
    have f24 := (f13.keep K9 nL)
    have f25 := (f14.keep K9)
    refine gmF (xi := mn568) (y := mn535) (oz hw 396) (oz hw 397) (fun _ _ hU => mvT hU (oz hw 398)) (oz hw 399) (oz hw 400) (oz hw 401) (oz hw 402) (oz hw 97) (oz hw 403) (oz hw 76) (fun O => own_next1_2 cx it4 kl mc ((0 : Int32)) d kc s0_ s1_ vm17 h9 O f19 q9_0 q9_1 q9_2 q9_3 q4_1 f21 f22 f23 f18 f24 f25 (by first | assumption | decide | omega)) 50 (argsL := []) (rest := []) f19 own_pd567 d566 ?_
    rintro _ vm20 h20 C20 z20 ⟨rfl, K20, q20_0, q20_1, q20_2, q20_3⟩
    refine gat1 ?_
    refine gcast hx (oz hw 410) (Ins.self ((((P22.1.keep K1).keep K4).keep K9).keep K20)) 53 (hb hby d569) rfl ?_
    refine vSA 55 #[vr x, .val uv, vi pf, vr kl, vr it4, vr s1_] d570 ?_
    refine vA 57 d571 ?_
    have f27 := ((((P22.keep K1 nin0 nin0).keep K4 nin0 nin0).keep K9 nL nL).keep K20 nL nL)
    refine gmV (y := mn145) (z := mn145) (oz hw 335) (oz hw 336) (nfSel (oz hw 338)) (oz hw 338) (oz hw 337) (oz hw 339) (oz hw 6) (fun O => own_isblank cx s1_ t1_ ch1 cr1 vm20 h20 O f27 (by first | assumption | decide | omega) (by first | assumption | decide | omega) (by first | assumption | decide | omega) (by first | assumption | decide | omega)) 60 (argsL := []) (rest := []) f27.1 own_pd43 d572 ?_
    rintro _ vm26 h26 C26 z26 ⟨rfl, rfl⟩
    refine gat1 ?_
    refine vY 73 d573 ((if0 _ _).trans (teq (by decide)).1) ?_
    refine vG 33 d574 ?_
    refine vA 35 d548 ?_
    have f29 := (f18.keep K20 nL)
    have f30 := (f19.keep K20)
    refine gmF (xi := mn550) (y := mn502) (oz hw 90) (oz hw 91) (fun _ _ hU => mvT hU (oz hw 92)) (oz hw 93) (oz hw 94) (oz hw 95) (oz hw 96) (oz hw 97) (oz hw 98) (oz hw 76) (fun O => own_hasE cx it4 kl ((2 : Int32)) vm26 h20 O q20_0 q20_1 f29) 40 (argsL := []) (rest := []) f30 own_pd43 d549 ?_
    rintro _ vm28 h28 C28 z28 ⟨rfl, rfl⟩
    refine gat1 ?_
    refine vY 76 d551 ((if0 _ _).trans (teq (by decide)).1) ?_
    refine vAN 77 d552 ?_
    refine gs (mkF m 78 #[vr x, .val uv, vi pf, vr kl, vr it4, vr s1_] [uv, (.ref x)]) (fun _ _ A kq => XS.aloadN A hx rfl (hb hby d553) rfl isRef_uv kq) ?_
    have f31 := ((((P6.keep K1 nin0).keep K4 nin0).keep K9 nL).keep K20 nL)
    have f32 := ((((P5.keep K1).keep K4).keep K9).keep K20)
    refine gputF (host := "") hx (Or.inl (oz hw 103)) Via.refl f31 f32 (Or.inr ⟨(oz hw 104), rfl, hnm⟩) (oz hw 59) (ty := (.object c13_)) (by decide) (by rcases ref_cases isRef_uv with q | ⟨_, q⟩ <;> rw [q] <;> rfl) (by rcases ref_cases isRef_uv with q | ⟨_, q⟩ <;> rw [q] <;> rfl) P9 (fun al => Safe.exa al f32 (by decide) (by decide)) 81 (hb hby d554) rfl ?_
    intro h33 W33 C33
    have z33 := C33.2.1
    have F33 := f31.same W33
    refine vAN 82 d555 ?_
    refine vIN 83 d556 ?_
    have f34 := (((((P7.keep K1 nin0).keep K4 nin0).keep K9 nL).keep K20 nL).other W33 (Or.inr (slot_ne (Or.inr (oz hw 106)) (Or.inr (oz hw 104)) (by decide) (t := .boolean) (t' := (.object c13_)) (by decide) (by decide))))
    have f35 := (f32.wr W33)
    refine gputF (host := "") hx (Or.inl (oz hw 105)) Via.refl f34 f35 (Or.inr ⟨(oz hw 106), rfl, hnm⟩) (oz hw 59) (ty := .boolean) (by decide) (by rcases b_pf with q | q <;> rw [q] <;> rfl) (by rcases b_pf with q | q <;> rw [q] <;> rfl) P9 (fun al => Safe.exa al f35 (by decide) (by decide)) 86 (hb hby d557) rfl ?_
    intro h36 W36 C36
    have z36 := C36.2.1
    have F36 := f34.same W36
    refine vAN 87 d558 ?_
    refine vAN 88 d559 ?_
    have f38 := (((f22.keep K20).wr W33).wr W36)
    have f39 := (f35.wr W36)
    have f40 := (((f23.keep K20 nL).other W33 (Or.inl (ne_exa f38 f39 (by decide)))).other W36 (Or.inl (ne_exa f38 f39 (by decide))))
    have f41 := ((f29.other W33 (Or.inl (ne_exa f38 f39 (by decide)))).other W36 (Or.inl (ne_exa f38 f39 (by decide))))
    have f42 := (((f25.keep K20).wr W33).wr W36)
    have f43 := (((f24.keep K20 nL).other W33 (ne_exa f42 f39 (by decide))).other W36 (ne_exa f42 f39 (by decide)))
    refine gmS (y := mn421) (oz hw 107) (oz hw 108) (oz hw 110) (oz hw 109) (fun O => own_copy2 cx kl d kc s0_ s1_ vm28 h36 O f38 f40 f41 f43 f42 (by first | assumption | decide | omega) (((f16.1.keep K20).wr W33).wr W36) ((f27.1.wr W33).wr W36) (by first | assumption | decide | omega)) 91 (argsL := [(.ref kl)]) (rest := [(.ref x)]) own_pd419 d560 ?_
    rintro _ vm37 h37 C37 z37 ⟨r37, rfl, K37, q37_0, q37_1, q37_2, q37_3⟩
    have lt_r37 : h37.size > r37 := q37_1.lt
    refine gat1 ?_
    have f44 := (((((((P8.keep K1 nin0).keep K4 nin0).keep K9 nL).keep K20 nL).other W33 (Or.inr (slot_ne (Or.inr (oz hw 136)) (Or.inr (oz hw 104)) (by decide) (t := (.object c24_)) (t' := (.object c13_)) (by decide) (by decide)))).other W36 (Or.inr (slot_ne (Or.inr (oz hw 136)) (Or.inr (oz hw 106)) (by decide) (t := (.object c24_)) (t' := .boolean) (by decide) (by decide)))).keep K37 nin0)
    have f45 := (f39.keep K37)
    refine gputF (host := "") hx (Or.inl (oz hw 135)) Via.refl f44 f45 (Or.inr ⟨(oz hw 136), rfl, hnm⟩) (oz hw 59) (ty := (.object c24_)) (by decide) rfl rfl P9 (fun al => Safe.exa al f45 (by decide) (by decide)) 94 (hb hby d561) rfl ?_
    intro h46 W46 C46
    have z46 := C46.2.1
    have F46 := f44.same W46
    have f48 := (((F33.other W36 (Or.inr (slot_ne (Or.inr (oz hw 104)) (Or.inr (oz hw 106)) (by decide) (t := (.object c13_)) (t' := .boolean) (by decide) (by decide)))).keep K37 nin0).other W46 (Or.inr (slot_ne (Or.inr (oz hw 104)) (Or.inr (oz hw 136)) (by decide) (t := (.object c13_)) (t' := (.object c24_)) (by decide) (by decide))))
    have f49 := ((F36.keep K37 nin0).other W46 (Or.inr (slot_ne (Or.inr (oz hw 106)) (Or.inr (oz hw 136)) (by decide) (t := .boolean) (t' := (.object c24_)) (by decide) (by decide))))
    have f50 := (q37_1.wr W46)
    have f51 := (q37_2.other W46 (Or.inl (Nat.ne_of_gt (by omega))))
    have f52 := (q37_3.other W46 (Or.inl (Nat.ne_of_gt (by omega))))
    exact gretV hx hret (hb hby d562) (by decide) (by decide) (fun vq Cq => ⟨r37, rfl, (((((((((Keep.refl h0 [x]).trans K1 all0).trans K4 all0).trans K9 (allS (Or.inr (by omega)) all0)).trans K20 (allS (Or.inr (by omega)) all0)).wr W33 (Or.inl (List.mem_of_getElem? (i := 0) rfl))).wr W36 (Or.inl (List.mem_of_getElem? (i := 0) rfl))).trans K37 all0).wr W46 (Or.inl (List.mem_of_getElem? (i := 0) rfl))), f48, f49, F46, f50, f51, f52⟩)
  · intro J1
    refine ginitO hx (oz hw 64) (oz hw 16) (oz hw 17) 4 (W := 0) (Nat.le_of_eq rfl) (by rw [hml]; rfl) (hb hby d537) rfl (by decide) (by decide) ?_
    rcases P0 with ⟨e5, rfl⟩ | ⟨e5, ui, tu, rfl, Su⟩
    · refine vAN 5 d538 ?_
      refine vY0 25 d539 ?_
      refine ginfo fun _ Hq _ => ?_
      exact gmono (by decide) (by decide) (J1 _ _ _ ⟨rfl, (Keep.refl h0 []), (CHq.refl Hq)⟩)
    · have lt_ui : h0.size > ui := Su.1.lt
      have lt_tu : h0.size > tu := Su.tlt
      refine vAN 5 d538 ?_
      refine vN0 8 d539 ?_
      refine vAN 9 d540 ?_
      refine gmV (y := mn145) (z := mn145) (oz hw 335) (oz hw 336) (nfSel (oz hw 338)) (oz hw 338) (oz hw 337) (oz hw 339) (oz hw 6) (fun O => own_isblank cx ui tu chu cru vm h0 O Su (by first | assumption | decide | omega) (by first | assumption | decide | omega) (by first | assumption | decide | omega) (by first | assumption | decide | omega)) 12 (argsL := []) (rest := []) Su.1 own_pd43 d541 ?_
      rintro _ vm3 h3 C3 z3 ⟨rfl, rfl⟩
      refine gat1 ?_
      refine vY 25 d542 ((if0 _ _).trans (teq (by decide)).1) ?_
      exact gmono (by decide) (by decide) (J1 _ _ _ ⟨rfl, (Keep.refl h0 []), C3⟩)
theorem own_cc3 {l : Launch} {Z : State} {a0 : Array Value} (cx : Ctx Z a0) (x : Addr) (pf : Int32) (kl : Addr) (mc : Int32) (u0 : Value) (u1 : Int32) (u2 uv : Value) (fg chu : Int32) (cru : List Int32) (d : Addr) (kc : ClassId) (s0_ s1_ s2_ t0_ : Addr) (ch0 : Int32) (cr0 : List Int32) (t1_ : Addr) (ch1 : Int32) (cr1 : List Int32) (t2_ : Addr) (ch2 : Int32) (cr2 : List Int32) {cdi ca : Addr} {kA : ClassId} {dz el ee em mr : Addr} {kd ke : ClassId} (vm0 : Vm) (h0 : Heap) (X00 : Ext Z.heap h0) (P0 : own_U Z h0 uv (chu :: cru) fg) (isRef_uv : (uv.isRef = true)) (P2 : (B8 chu)) (P3 : (¬ chu < (33 : Int32))) (P4 : ((0 : Int32) < Int32.ofNat (chu :: cru).length)) (P5 : Exa Z h0 x c6_) (P6 : Fld Z h0 x c6_ "ui" c1_ u0) (P7 : Fld Z h0 x c6_ "preferred" "Z" (.int u1)) (P8 : Fld Z h0 x c6_ "terms" c3_ u2) (P9 : Z.heap.size ≤ x) (b_pf : (pf = 0 ∨ pf = 1)) (P11 : Fld Z h0 kl c16_ "modCount" "I" (.int mc)) (P12 : Exa Z h0 kl c17_) (P13 : Fld Z h0 kl c17_ c7_ c4_ (.ref d)) (P14 : Fld Z h0 kl c17_ "size" "I" (.int (3 : Int32))) (P15 : Arv Z h0 d kc (.object c12_) (10 : Int32) [(.ref s0_), (.ref s1_), (.ref s2_), .null, .null, .null, .null, .null, .null, .null] .null) (P16 : Exa Z h0 d c4_) (hov : (Ovr Z kc c12_)) (P18 : Str Z h0 s0_ t0_ (ch0 :: cr0)) (P19 : (B8 ch0)) (P20 : (¬ ch0 < (33 : Int32))) (P21 : ((0 : Int32) < Int32.ofNat (ch0 :: cr0).length)) (P22 : Str Z h0 s1_ t1_ (ch1 :: cr1)) (P23 : (B8 ch1)) (P24 : (¬ ch1 < (33 : Int32))) (P25 : ((0 : Int32) < Int32.ofNat (ch1 :: cr1).length)) (P26 : Str Z h0 s2_ t2_ (ch2 :: cr2)) (P27 : (B8 ch2)) (P28 : (¬ ch2 < (33 : Int32))) (P29 : ((0 : Int32) < Int32.ofNat (ch2 :: cr2).length)) (hB : (OwnB Z cdi ca kA)) (hL : (OwnL Z dz el ee em mr kd ke)) :
    Met l mn563 y76_ 6 none [] (Rm 9 4 12 116) Z consts_1 vm0 h0 #[(.ref x), uv, (.int pf), (.ref kl)] (fun rv vm h => ∃ (r : Addr), ∃ (g : Addr), ∃ (kg : ClassId), rv = none ∧ Keep h0 h [x] ∧ Fld Z h x c6_ "ui" c1_ uv ∧ Fld Z h x c6_ "preferred" "Z" (.int pf) ∧ Fld Z h x c6_ "terms" c3_ (.ref r) ∧ Exa Z h r c22_ ∧ Fld Z h r c22_ "elements" c4_ (.ref g) ∧ Arv Z h g kg (.object c12_) (3 : Int32) [(.ref s0_), (.ref s1_), (.ref s2_)] .null) := by
  have hw := cx.1
  refine Met.of_walk (a0 := a0) #[vr x, .val uv, vi pf, vr kl, un, un] (plainFor_of_name own_pn564) X00 cx.2.1 (fun m => by rcases ref_cases isRef_uv with q | ⟨_, q⟩ <;> subst q <;> first | (simp [entryFrame, mkF, argsToLocals, Value.category]; done) | rfl) ?_
  intro p e s m below meth c vm hx hby hml hret hnm hC0 hW0
  have lt_x : h0.size > x := P5.lt
  have lt_kl : h0.size > kl := P11.lt
  have lt_d : h0.size > d := P15.lt
  have lt_s0_ : h0.size > s0_ := P18.1.lt
  have lt_t0_ : h0.size > t0_ := P18.tlt
  have lt_s1_ : h0.size > s1_ := P22.1.lt
  have lt_t1_ : h0.size > t1_ := P22.tlt
  have lt_s2_ : h0.size > s2_ := P26.1.lt
  have lt_t2_ : h0.size > t2_ := P26.tlt
  refine vAN 1 d536 ?_
  refine gjoin (fun vmJ hJ gJ => gJ = (mkF m 25 #[vr x, .val uv, vi pf, vr kl, un, un] []) ∧ Keep h0 hJ [] ∧ CHq Z consts_1 vm h0 vmJ hJ) 0 0 ?_ ?_
  · rintro vm1 h1 _ ⟨rfl, K1, C1⟩
    have z1 := C1.2.1
    refine vAN 26 d543 ?_
    have f5 := (P12.keep K1)
    have f6 := (P11.keep K1 nin0)
    refine gmF (xi := mn546) (y := mn485) (oz hw 65) (oz hw 66) (fun _ _ hU => mvT hU (oz hw 67)) (oz hw 68) (oz hw 69) (oz hw 70) (oz hw 71) (oz hw 72) (oz hw 73) (oz hw 36) (fun O => own_iterator cx kl mc vm1 h1 O f5 f6) 31 (argsL := []) (rest := []) f5 own_pd545 d544 ?_
    rintro _ vm4 h4 C4 z4 ⟨it4, rfl, K4, q4_0, q4_1, q4_2, q4_3, q4_4, q4_5, q4_6⟩
    have lt_it4 : h4.size > it4 := q4_2.lt
    refine gat1 ?_
    refine vSA 33 #[vr x, .val uv, vi pf, vr kl, vr it4, un] d547 ?_
    refine vA 35 d548 ?_
    have f8 := ((P14.keep K1 nin0).keep K4 nin0)
    refine gmF (xi := mn550) (y := mn502) (oz hw 90) (oz hw 91) (fun _ _ hU => mvT hU (oz hw 92)) (oz hw 93) (oz hw 94) (oz hw 95) (oz hw 96) (oz hw 97) (oz hw 98) (oz hw 76) (fun O => own_hasN cx it4 kl ((0 : Int32)) ((3 : Int32)) vm4 h4 O q4_3 q4_4 f8 (by first | assumption | decide | omega)) 40 (argsL := []) (rest := []) q4_2 own_pd43 d549 ?_
    rintro _ vm7 h7 C7 z7 ⟨rfl, rfl⟩
    refine gat1 ?_
    refine vN 43 d551 ((if0 _ _).trans (feq (by decide)).1) ?_
    refine vA 45 d565 ?_
    have f10 := (f6.keep K4 nin0)
    have f11 := (f5.keep K4)
    have f12 := ((P13.keep K1 nin0).keep K4 nin0)
    have f13 := ((P15.keep K1 nin0).keep K4 nin0)
    have f14 := ((P16.keep K1).keep K4)
    refine gmF (xi := mn568) (y := mn535) (oz hw 396) (oz hw 397) (fun _ _ hU => mvT hU (oz hw 398)) (oz hw 399) (oz hw 400) (oz hw 401) (oz hw 402) (oz hw 97) (oz hw 403) (oz hw 76) (fun O => own_next0_3 cx it4 kl mc ((-1 : Int32)) d kc s0_ s1_ s2_ vm7 h4 O q4_2 q4_3 q4_4 q4_5 q4_6 q4_1 f10 f11 f12 f8 f13 f14 (by first | assumption | decide | omega)) 50 (argsL := []) (rest := []) q4_2 own_pd567 d566 ?_
    rintro _ vm9 h9 C9 z9 ⟨rfl, K9, q9_0, q9_1, q9_2, q9_3⟩
    refine gat1 ?_
    refine gcast hx (oz hw 410) (Ins.self (((P18.1.keep K1).keep K4).keep K9)) 53 (hb hby d569) rfl ?_
    refine vSA 55 #[vr x, .val uv, vi pf, vr kl, vr it4, vr s0_] d570 ?_
    refine vA 57 d571 ?_
    have f16 := (((P18.keep K1 nin0 nin0).keep K4 nin0 nin0).keep K9 nL nL)
    refine gmV (y := mn145) (z := mn145) (oz hw 335) (oz hw 336) (nfSel (oz hw 338)) (oz hw 338) (oz hw 337) (oz hw 339) (oz hw 6) (fun O => own_isblank cx s0_ t0_ ch0 cr0 vm9 h9 O f16 (by first | assumption | decide | omega) (by first | assumption | decide | omega) (by first | assumption | decide | omega) (by first | assumption | decide | omega)) 60 (argsL := []) (rest := []) f16.1 own_pd43 d572 ?_
    rintro _ vm15 h15 C15 z15 ⟨rfl, rfl⟩
    refine gat1 ?_
    refine vY 73 d573 ((if0 _ _).trans (teq (by decide)).1) ?_
    refine vG 33 d574 ?_
    refine vA 35 d548 ?_
    have f18 := (f8.keep K9 nL)
    have f19 := (q4_2.keep K9)
    refine gmF (xi := mn550) (y := mn502) (oz hw 90) (oz hw 91) (fun _ _ hU => mvT hU (oz hw 92)) (oz hw 93) (oz hw 94) (oz hw 95) (oz hw 96) (oz hw 97) (oz hw 98) (oz hw 76) (fun O => own_hasN cx it4 kl ((1 : Int32)) ((3 : Int32)) vm15 h9 O q9_0 q9_1 f18 (by first | assumption | decide | omega)) 40 (argsL := []) (rest := []) f19 own_pd43 d549 ?_
    rintro _ vm17 h17 C17 z17 ⟨rfl, rfl⟩
    refine gat1 ?_
    refine vN 43 d551 ((if0 _ _).trans (feq (by decide)).1) ?_
    refine vA 45 d565 ?_
    have f21 := (f10.keep K9 nL)
    have f22 := (f11.keep K9)
    have f23 := (f12.keep K9 nL)
    have f24 := (f13.keep K9 nL)
    have f25 := (f14.keep K9)
    refine gmF (xi := mn568) (y := mn535) (oz hw 396) (oz hw 397) (fun _ _ hU => mvT hU (oz hw 398)) (oz hw 399) (oz hw 400) (oz hw 401) (oz hw 402) (oz hw 97) (oz hw 403) (oz hw 76) (fun O => own_next1_3 cx it4 kl mc ((0 : Int32)) d kc s0_ s1_ s2_ vm17 h9 O f19 q9_0 q9_1 q9_2 q9_3 q4_1 f21 f22 f23 f18 f24 f25 (by first | assumption | decide | omega)) 50 (argsL := []) (rest := []) f19 own_pd567 d566 ?_
    rintro _ vm20 h20 C20 z20 ⟨rfl, K20, q20_0, q20_1, q20_2, q20_3⟩
    refine gat1 ?_
    refine gcast hx (oz hw 410) (Ins.self ((((P22.1.keep K1).keep K4).keep K9).keep K20)) 53 (hb hby d569) rfl ?_
    refine vSA 55 #[vr x, .val uv, vi pf, vr kl, vr it4, vr s1_] d570 ?_
    refine vA 57 d571 ?_
    have f27 := ((((P22.keep K1 nin0 nin0).keep K4 nin0 nin0).keep K9 nL nL).keep K20 nL nL)
    refine gmV (y := mn145) (z := mn145) (oz hw 335) (oz hw 336) (nfSel (oz hw 338)) (oz hw 338) (oz hw 337) (oz hw 339) (oz hw 6) (fun O => own_isblank cx s1_ t1_ ch1 cr1 vm20 h20 O f27 (by first | assumption | decide | omega) (by first | assumption | decide | omega) (by first | assumption | decide | omega) (by first | assumption | decide | omega)) 60 (argsL := []) (rest := []) f27.1 own_pd43 d572 ?_
    rintro _ vm26 h26 C26 z26 ⟨rfl, rfl⟩
    refine gat1 ?_
    refine vY 73 d573 ((if0 _ _).trans (teq (by decide)).1) ?_
    refine vG 33 d574 ?_
    refine vA 35 d548 ?_
    have f29 := (f18.keep K20 nL)
    have f30 := (f19.keep K20)
    refine gmF (xi := mn550) (y := mn502) (oz hw 90) (oz hw 91) (fun _ _ hU => mvT hU (oz hw 92)) (oz hw 93) (oz hw 94) (oz hw 95) (oz hw 96) (oz hw 97) (oz hw 98) (oz hw 76) (fun O => own_hasN cx it4 kl ((2 : Int32)) ((3 : Int32)) vm26 h20 O q20_0 q20_1 f29 (by first | assumption | decide | omega)) 40 (argsL := []) (rest := []) f30 own_pd43 d549 ?_
    rintro _ vm28 h28 C28 z28 ⟨rfl, rfl⟩
    refine gat1 ?_
    refine vN 43 d551 ((if0 _ _).trans (feq (by decide)).1) ?_
    refine vA 45 d565 ?_
    have f32 := (f21.keep K20 nL)
    have f33 := (f22.keep K20)
    have f34 := (f23.keep K20 nL)
    have f35 := (f24.keep K20 nL)
    have f36 := (f25.keep K20)
    refine gmF (xi := mn568) (y := mn535) (oz hw 396) (oz hw 397) (fun _ _ hU => mvT hU (oz hw 398)) (oz hw 399) (oz hw 400) (oz hw 401) (oz hw 402) (oz hw 97) (oz hw 403) (oz hw 76) (fun O => own_next2_3 cx it4 kl mc ((1 : Int32)) d kc s0_ s1_ s2_ vm28 h20 O f30 q20_0 q20_1 q20_2 q20_3 q4_1 f32 f33 f34 f29 f35 f36 (by first | assumption | decide | omega)) 50 (argsL := []) (rest := []) f30 own_pd567 d566 ?_
    rintro _ vm31 h31 C31 z31 ⟨rfl, K31, q31_0, q31_1, q31_2, q31_3⟩
    refine gat1 ?_
    refine gcast hx (oz hw 410) (Ins.self (((((P26.1.keep K1).keep K4).keep K9).keep K20).keep K31)) 53 (hb hby d569) rfl ?_
    refine vSA 55 #[vr x, .val uv, vi pf, vr kl, vr it4, vr s2_] d570 ?_
    refine vA 57 d571 ?_
    have f38 := (((((P26.keep K1 nin0 nin0).keep K4 nin0 nin0).keep K9 nL nL).keep K20 nL nL).keep K31 nL nL)
    refine gmV (y := mn145) (z := mn145) (oz hw 335) (oz hw 336) (nfSel (oz hw 338)) (oz hw 338) (oz hw 337) (oz hw 339) (oz hw 6) (fun O => own_isblank cx s2_ t2_ ch2 cr2 vm31 h31 O f38 (by first | assumption | decide | omega) (by first | assumption | decide | omega) (by first | assumption | decide | omega) (by first | assumption | decide | omega)) 60 (argsL := []) (rest := []) f38.1 own_pd43 d572 ?_
    rintro _ vm37 h37 C37 z37 ⟨rfl, rfl⟩
    refine gat1 ?_
    refine vY 73 d573 ((if0 _ _).trans (teq (by decide)).1) ?_
    refine vG 33 d574 ?_
    refine vA 35 d548 ?_
    have f40 := (f29.keep K31 nL)
    have f41 := (f30.keep K31)
    refine gmF (xi := mn550) (y := mn502) (oz hw 90) (oz hw 91) (fun _ _ hU => mvT hU (oz hw 92)) (oz hw 93) (oz hw 94) (oz hw 95) (oz hw 96) (oz hw 97) (oz hw 98) (oz hw 76) (fun O => own_hasE cx it4 kl ((3 : Int32)) vm37 h31 O q31_0 q31_1 f40) 40 (argsL := []) (rest := []) f41 own_pd43 d549 ?_
    rintro _ vm39 h39 C39 z39 ⟨rfl, rfl⟩
    refine gat1 ?_
    refine vY 76 d551 ((if0 _ _).trans (teq (by decide)).1) ?_
    refine vAN 77 d552 ?_
    refine gs (mkF m 78 #[vr x, .val uv, vi pf, vr kl, vr it4, vr s2_] [uv, (.ref x)]) (fun _ _ A kq => XS.aloadN A hx rfl (hb hby d553) rfl isRef_uv kq) ?_
    have f42 := (((((P6.keep K1 nin0).keep K4 nin0).keep K9 nL).keep K20 nL).keep K31 nL)
    have f43 := (((((P5.keep K1).keep K4).keep K9).keep K20).keep K31)
    refine gputF (host := "") hx (Or.inl (oz hw 103)) Via.refl f42 f43 (Or.inr ⟨(oz hw 104), rfl, hnm⟩) (oz hw 59) (ty := (.object c13_)) (by decide) (by rcases ref_cases isRef_uv with q | ⟨_, q⟩ <;> rw [q] <;> rfl) (by rcases ref_cases isRef_uv with q | ⟨_, q⟩ <;> rw [q] <;> rfl) P9 (fun al => Safe.exa al f43 (by decide) (by decide)) 81 (hb hby d554) rfl ?_
    intro h44 W44 C44
    have z44 := C44.2.1
    have F44 := f42.same W44
    refine vAN 82 d555 ?_
    refine vIN 83 d556 ?_
    have f45 := ((((((P7.keep K1 nin0).keep K4 nin0).keep K9 nL).keep K20 nL).keep K31 nL).other W44 (Or.inr (slot_ne (Or.inr (oz hw 106)) (Or.inr (oz hw 104)) (by decide) (t := .boolean) (t' := (.object c13_)) (by decide) (by decide))))
    have f46 := (f43.wr W44)
    refine gputF (host := "") hx (Or.inl (oz hw 105)) Via.refl f45 f46 (Or.inr ⟨(oz hw 106), rfl, hnm⟩) (oz hw 59) (ty := .boolean) (by decide) (by rcases b_pf with q | q <;> rw [q] <;> rfl) (by rcases b_pf with q | q <;> rw [q] <;> rfl) P9 (fun al => Safe.exa al f46 (by decide) (by decide)) 86 (hb hby d557) rfl ?_
    intro h47 W47 C47
    have z47 := C47.2.1
    have F47 := f45.same W47
    refine vAN 87 d558 ?_
    refine vAN 88 d559 ?_
    have f49 := (((f33.keep K31).wr W44).wr W47)
    have f50 := (f46.wr W47)
    have f51 := (((f34.keep K31 nL).other W44 (Or.inl (ne_exa f49 f50 (by decide)))).other W47 (Or.inl (ne_exa f49 f50 (by decide))))
    have f52 := ((f40.other W44 (Or.inl (ne_exa f49 f50 (by decide)))).other W47 (Or.inl (ne_exa f49 f50 (by decide))))
    have f53 := (((f36.keep K31).wr W44).wr W47)
    have f54 := (((f35.keep K31 nL).other W44 (ne_exa f53 f50 (by decide))).other W47 (ne_exa f53 f50 (by decide)))
    refine gmS (y := mn421) (oz hw 107) (oz hw 108) (oz hw 110) (oz hw 109) (fun O => own_copy3 cx kl d kc s0_ s1_ s2_ vm39 h47 O f49 f51 f52 f54 f53 (by first | assumption | decide | omega) ((((f16.1.keep K20).keep K31).wr W44).wr W47) (((f27.1.keep K31).wr W44).wr W47) ((f38.1.wr W44).wr W47) (by first | assumption | decide | omega)) 91 (argsL := [(.ref kl)]) (rest := [(.ref x)]) own_pd419 d560 ?_
    rintro _ vm48 h48 C48 z48 ⟨r48, g48, kg48, rfl, K48, q48_0, q48_1, q48_2, q48_3⟩
    have lt_r48 : h48.size > r48 := q48_1.lt
    have lt_g48 : h48.size > g48 := q48_3.lt
    refine gat1 ?_
    have f55 := ((((((((P8.keep K1 nin0).keep K4 nin0).keep K9 nL).keep K20 nL).keep K31 nL).other W44 (Or.inr (slot_ne (Or.inr (oz hw 136)) (Or.inr (oz hw 104)) (by decide) (t := (.object c24_)) (t' := (.object c13_)) (by decide) (by decide)))).other W47 (Or.inr (slot_ne (Or.inr (oz hw 136)) (Or.inr (oz hw 106)) (by decide) (t := (.object c24_)) (t' := .boolean) (by decide) (by decide)))).keep K48 nin0)
    have f56 := (f50.keep K48)
    refine gputF (host := "") hx (Or.inl (oz hw 135)) Via.refl f55 f56 (Or.inr ⟨(oz hw 136), rfl, hnm⟩) (oz hw 59) (ty := (.object c24_)) (by decide) rfl rfl P9 (fun al => Safe.exa al f56 (by decide) (by decide)) 94 (hb hby d561) rfl ?_
    intro h57 W57 C57
    have z57 := C57.2.1
    have F57 := f55.same W57
    have f59 := (((F44.other W47 (Or.inr (slot_ne (Or.inr (oz hw 104)) (Or.inr (oz hw 106)) (by decide) (t := (.object c13_)) (t' := .boolean) (by decide) (by decide)))).keep K48 nin0).other W57 (Or.inr (slot_ne (Or.inr (oz hw 104)) (Or.inr (oz hw 136)) (by decide) (t := (.object c13_)) (t' := (.object c24_)) (by decide) (by decide))))
    have f60 := ((F47.keep K48 nin0).other W57 (Or.inr (slot_ne (Or.inr (oz hw 106)) (Or.inr (oz hw 136)) (by decide) (t := .boolean) (t' := (.object c24_)) (by decide) (by decide))))
    have f61 := (q48_1.wr W57)
    have f62 := (q48_2.other W57 (Or.inl (Nat.ne_of_gt (by omega))))
    have f63 := (q48_3.other W57 (Ne.symm (Exa.neArv f56 q48_3 (oz hw 59))))
    exact gretV hx hret (hb hby d562) (by decide) (by decide) (fun vq Cq => ⟨r48, g48, kg48, rfl, ((((((((((Keep.refl h0 [x]).trans K1 all0).trans K4 all0).trans K9 (allS (Or.inr (by omega)) all0)).trans K20 (allS (Or.inr (by omega)) all0)).trans K31 (allS (Or.inr (by omega)) all0)).wr W44 (Or.inl (List.mem_of_getElem? (i := 0) rfl))).wr W47 (Or.inl (List.mem_of_getElem? (i := 0) rfl))).trans K48 all0).wr W57 (Or.inl (List.mem_of_getElem? (i := 0) rfl))), f59, f60, F57, f61, f62, f63⟩)
  · intro J1
    refine ginitO hx (oz hw 64) (oz hw 16) (oz hw 17) 4 (W := 0) (Nat.le_of_eq rfl) (by rw [hml]; rfl) (hb hby d537) rfl (by decide) (by decide) ?_
    rcases P0 with ⟨e5, rfl⟩ | ⟨e5, ui, tu, rfl, Su⟩
    · refine vAN 5 d538 ?_
      refine vY0 25 d539 ?_
      refine ginfo fun _ Hq _ => ?_
      exact gmono (by decide) (by decide) (J1 _ _ _ ⟨rfl, (Keep.refl h0 []), (CHq.refl Hq)⟩)
    · have lt_ui : h0.size > ui := Su.1.lt
      have lt_tu : h0.size > tu := Su.tlt
      refine vAN 5 d538 ?_
      refine vN0 8 d539 ?_
      refine vAN 9 d540 ?_
      refine gmV (y := mn145) (z := mn145) (oz hw 335) (oz hw 336) (nfSel (oz hw 338)) (oz hw 338) (oz hw 337) (oz hw 339) (oz hw 6) (fun O => own_isblank cx ui tu chu cru vm h0 O Su (by first | assumption | decide | omega) (by first | assumption | decide | omega) (by first | assumption | decide | omega) (by first | assumption | decide | omega)) 12 (argsL := []) (rest := []) Su.1 own_pd43 d541 ?_
      rintro _ vm3 h3 C3 z3 ⟨rfl, rfl⟩
      refine gat1 ?_
      refine vY 25 d542 ((if0 _ _).trans (teq (by decide)).1) ?_
      exact gmono (by decide) (by decide) (J1 _ _ _ ⟨rfl, (Keep.refl h0 []), C3⟩)
theorem d575 : Dc y65_ 0 (.aload_n 0) 1 := by decide +kernel
theorem d576 : Dc y65_ 1 (.invokespecial 3) 3 := by decide +kernel
theorem d577 : Dc y65_ 4 (.getstatic 18) 3 := by decide +kernel
theorem d578 : Dc y65_ 7 (.ifCond .eq 18) 3 := by decide +kernel
theorem d579 : Dc y65_ 10 (.aload_n 0) 1 := by decide +kernel
theorem d580 : Dc y65_ 11 (.iload_n 1) 1 := by decide +kernel
theorem d581 : Dc y65_ 12 (.newarray .byte) 2 := by decide +kernel
theorem d582 : Dc y65_ 14 (.putfield 15) 3 := by decide +kernel
theorem d583 : Dc y65_ 17 (.aload_n 0) 1 := by decide +kernel
theorem d584 : Dc y65_ 18 (.iconst 0) 1 := by decide +kernel
theorem d585 : Dc y65_ 19 (.putfield 22) 3 := by decide +kernel
theorem d586 : Dc y65_ 22 (.goto 16) 3 := by decide +kernel
theorem d587 : Dc y65_ 38 (.return_) 1 := by decide +kernel
abbrev mn588 : MethodName := ⟨"java/lang/AbstractStringBuilder", "<init>", "(I)V"⟩
theorem own_pn589 : plainName "java/lang/AbstractStringBuilder" = true := by first | (simp [plainName, overriddenIn]; done) | decide +kernel
theorem own_asbinit {l : Launch} {Z : State} {a0 : Array Value} (cx : Ctx Z a0) (x : Addr) (v0 c0 : Value) (vm0 : Vm) (h0 : Heap) (X00 : Ext Z.heap h0) (P0 : Exa Z h0 x c14_) (P1 : Fld Z h0 x c10_ "value" "[B" v0) (P2 : Fld Z h0 x c10_ "coder" "B" c0) (P3 : Fld Z h0 x c10_ "count" "I" (.int (0 : Int32))) (P4 : Z.heap.size ≤ x) :
    Met l mn588 y65_ 2 none [] (Rm 1 1 16 12) Z consts_1 vm0 h0 #[(.ref x), (.int (16 : Int32))] (fun rv vm h => ∃ (v : Addr), ∃ (kb : ClassId), rv = none ∧ Keep h0 h [x] ∧ Fld Z h x c10_ "value" "[B" (.ref v) ∧ Fld Z h x c10_ "coder" "B" (.int (0 : Int32)) ∧ Fld Z h x c10_ "count" "I" (.int (0 : Int32)) ∧ h0.size ≤ v ∧ Z.heap.size ≤ v ∧ Safe Z consts_1 vm h v ∧ Arv Z h v kb .byte (16 : Int32) [(.int (0 : Int32)), (.int (0 : Int32)), (.int (0 : Int32)), (.int (0 : Int32)), (.int (0 : Int32)), (.int (0 : Int32)), (.int (0 : Int32)), (.int (0 : Int32)), (.int (0 : Int32)), (.int (0 : Int32)), (.int (0 : Int32)), (.int (0 : Int32)), (.int (0 : Int32)), (.int (0 : Int32)), (.int (0 : Int32)), (.int (0 : Int32))] (.int (0 : Int32)) ∧ Exa Z h v "[B") := by
  obtain ⟨hw, hEL, ⟨zc, Scs, hzc⟩, ⟨fm, Sfm, hfm⟩, hL0, hB0⟩ := id cx
  refine Met.of_walk (a0 := a0) #[vr x, vi (16 : Int32)] (plainFor_of_name own_pn589) X00 hEL (fun _ => rfl) ?_
  intro p e s m below meth c vm hx hby hml hret hnm hC0 hW0
  have lt_x : h0.size > x := P0.lt
  refine vAN 1 d575 ?_
  refine ginitO hx (oz hw 154) (oz hw 16) (oz hw 17) 4 (W := 0) (Nat.le_of_eq rfl) (by rw [hml]; rfl) (hb hby d576) rfl (by decide) (by decide) ?_
  refine ggetS (host := "") hx (Or.inl (oz hw 155)) Via.refl Scs 7 (hb hby d577) rfl ?_
  refine vN 10 d578 ((if0 _ _).trans (feq hzc).1) ?_
  refine vAN 11 d579 ?_
  refine vIN 12 d580 ?_
  refine gnewPE hx (oz hw 23) (n := (16 : Int32)) (by decide) (cap := 16) (by decide) (by decide) (ad := "[B") (by decide) 14 (hb hby d581) rfl (by decide) (by decide) ?_
  intro b2 h2 k2 g2 E2 C2 V2 A2 n2 L2
  have z2 := C2.2.1
  have V2 : Arv Z h2 b2 k2 .byte (16 : Int32) [(.int (0 : Int32)), (.int (0 : Int32)), (.int (0 : Int32)), (.int (0 : Int32)), (.int (0 : Int32)), (.int (0 : Int32)), (.int (0 : Int32)), (.int (0 : Int32)), (.int (0 : Int32)), (.int (0 : Int32)), (.int (0 : Int32)), (.int (0 : Int32)), (.int (0 : Int32)), (.int (0 : Int32)), (.int (0 : Int32)), (.int (0 : Int32))] (.int (0 : Int32)) := V2.pad (pad_rep [] (.int (0 : Int32)) 16)
  have lt_b2 : h2.size > b2 := V2.lt
  have f3 := (P1.ext E2)
  have f4 := (P0.ext E2)
  refine gputF (host := "") hx (Or.inl (oz hw 156)) Via.refl f3 f4 (Or.inl (oz hw 157)) (oz hw 143) (ty := (.array .byte)) (by decide) rfl rfl P4 (fun al => Safe.exa al f4 (by decide) (by decide)) 17 (hb hby d582) rfl ?_
  intro h5 W5 C5
  have z5 := C5.2.1
  have F5 := f3.same W5
  refine vAN 18 d583 ?_
  refine vKc 19 (0 : Int32) d584 ?_
  have f6 := ((P2.ext E2).other W5 (Or.inr (slot_ne (Or.inl (oz hw 159)) (Or.inl (oz hw 157)) (by decide) (t := .byte) (t' := (.array .byte)) (by decide) (by decide))))
  have f7 := (f4.wr W5)
  refine gputF (host := "") hx (Or.inl (oz hw 158)) Via.refl f6 f7 (Or.inl (oz hw 159)) (oz hw 143) (ty := .byte) (by decide) rfl rfl P4 (fun al => Safe.exa al f7 (by decide) (by decide)) 22 (hb hby d585) rfl ?_
  intro h8 W8 C8
  have z8 := C8.2.1
  have F8 := f6.same W8
  refine vG 38 d586 ?_
  have f10 := (F5.other W8 (Or.inr (slot_ne (Or.inl (oz hw 157)) (Or.inl (oz hw 159)) (by decide) (t := (.array .byte)) (t' := .byte) (by decide) (by decide))))
  have f11 := (((P3.ext E2).other W5 (Or.inr (slot_ne (Or.inl (oz hw 184)) (Or.inl (oz hw 157)) (by decide) (t := .int) (t' := (.array .byte)) (by decide) (by decide)))).other W8 (Or.inr (slot_ne (Or.inl (oz hw 184)) (Or.inl (oz hw 159)) (by decide) (t := .int) (t' := .byte) (by decide) (by decide))))
  have f12 := (C8.sf (C5.sf L2))
  have f13 := ((V2.other W5 (Nat.ne_of_gt (by omega))).other W8 (Nat.ne_of_gt (by omega)))
  have f14 := ((A2.wr W5).wr W8)
  exact gretV hx hret (hb hby d587) (by decide) (by decide) (fun vq Cq => ⟨b2, k2, rfl, ((((Keep.refl h0 [x]).ext E2).wr W5 (Or.inl (List.mem_of_getElem? (i := 0) rfl))).wr W8 (Or.inl (List.mem_of_getElem? (i := 0) rfl))), f10, F8, f11, (by omega), n2, (Cq.sf f12), f13, f14⟩)
theorem d590 : Dc y59_ 0 (.aload_n 0) 1 := by decide +kernel
theorem d591 : Dc y59_ 1 (.bipush 16) 2 := by decide +kernel
theorem d592 : Dc y59_ 3 (.invokespecial 1) 3 := by decide +kernel
theorem own_pd593 : parseMethodDescriptor "(I)V" = some ⟨[.int], none⟩ := by decide +kernel
theorem d594 : Dc y59_ 6 (.return_) 1 := by decide +kernel
abbrev mn595 : MethodName := ⟨"java/lang/StringBuilder", "<init>", "()V"⟩
theorem own_pn596 : plainName "java/lang/StringBuilder" = true := by first | (simp [plainName, overriddenIn]; done) | decide +kernel
theorem own_sbinit {l : Launch} {Z : State} {a0 : Array Value} (cx : Ctx Z a0) (x : Addr) (v0 c0 : Value) (vm0 : Vm) (h0 : Heap) (X00 : Ext Z.heap h0) (P0 : Exa Z h0 x c14_) (P1 : Fld Z h0 x c10_ "value" "[B" v0) (P2 : Fld Z h0 x c10_ "coder" "B" c0) (P3 : Fld Z h0 x c10_ "count" "I" (.int (0 : Int32))) (P4 : Z.heap.size ≤ x) :
    Met l mn595 y59_ 1 none [] (Rm 2 1 16 25) Z consts_1 vm0 h0 #[(.ref x)] (fun rv vm h => ∃ (v : Addr), rv = none ∧ Keep h0 h [x] ∧ SBd Z h x v 16 ([] : List Int32) ∧ h0.size ≤ v ∧ Z.heap.size ≤ v ∧ Safe Z consts_1 vm h v ∧ Exa Z h v "[B") := by
  have hw := cx.1
  refine Met.of_walk (a0 := a0) #[vr x] (plainFor_of_name own_pn596) X00 cx.2.1 (fun _ => rfl) ?_
  intro p e s m below meth c vm hx hby hml hret hnm hC0 hW0
  have lt_x : h0.size > x := P0.lt
  refine vAN 1 d590 ?_
  refine vKb 3 (16 : Int32) d591 ?_
  refine gmI (y := mn588) rfl (oz hw 148) (oz hw 149) (oz hw 153) (oz hw 152) (fun O => own_asbinit cx x v0 c0 vm h0 O P0 P1 P2 P3 P4) 6 (argsL := [(.int (16 : Int32))]) (rest := []) (a := x) own_pd593 d592 ?_
  rintro _ vm1 h1 C1 z1 ⟨v1, kb1, rfl, K1, q1_0, q1_1, q1_2, q1_3, q1_4, q1_5, q1_6, q1_7⟩
  have lt_v1 : h1.size > v1 := q1_6.lt
  refine gat0 ?_
  have f2 := (P0.keep K1)
  exact gretV hx hret (hb hby d594) (by decide) (by decide) (fun vq Cq => ⟨v1, rfl, ((Keep.refl h0 [x]).trans K1 (allS (Or.inl (List.mem_of_getElem? (i := 0) rfl)) all0)), ⟨f2, q1_0, q1_1, q1_2, ⟨_, _, q1_6, rfl⟩, bnil, by decide⟩, (by omega), q1_4, (Cq.sf q1_5), q1_7⟩)
theorem own_scoder {l : Launch} {Z : State} {a0 : Array Value} (cx : Ctx Z a0) (x t : Addr) (cs : List Int32) (vm0 : Vm) (h0 : Heap) (X00 : Ext Z.heap h0) (P0 : Str Z h0 x t cs) :
    Met l mn58 y24_ 1 (some .byte) [] (Rm 0 0 0 0) Z consts_1 vm0 h0 #[(.ref x)] (fun rv vm h => rv = some (.int (0 : Int32)) ∧ h0 = h) := by
  obtain ⟨hw, hEL, ⟨zc, Scs, hzc⟩, ⟨fm, Sfm, hfm⟩, hL0, hB0⟩ := id cx
  refine Met.of_walk (a0 := a0) #[vr x] (plainFor_of_name own_pn17) X00 hEL (fun _ => rfl) ?_
  intro p e s m below meth c vm hx hby hml hret hnm hC0 hW0
  have lt_x : h0.size > x := P0.1.lt
  have lt_t : h0.size > t := P0.tlt
  refine ggetS (host := "") hx (Or.inl (oz hw 18)) Via.refl Scs 3 (hb hby d52) rfl ?_
  refine vN 6 d53 ((if0 _ _).trans (feq hzc).1) ?_
  refine vAN 7 d54 ?_
  refine gF (oz hw 30) P0.2.1 10 d55 ?_
  refine vG 14 d56 ?_
  exact gretN (t := .byte) hx hret (by simp) (hb hby d57) (by decide) (by decide) (fun vq Cq => ⟨rfl, rfl⟩)
theorem d597 : Dc y70_ 0 (.getstatic 18) 3 := by decide +kernel
theorem d598 : Dc y70_ 3 (.ifCond .eq 18) 3 := by decide +kernel
theorem d599 : Dc y70_ 6 (.aload_n 0) 1 := by decide +kernel
theorem d600 : Dc y70_ 7 (.getfield 22) 3 := by decide +kernel
theorem d601 : Dc y70_ 10 (.aload_n 1) 1 := by decide +kernel
theorem d602 : Dc y70_ 11 (.invokevirtual 40) 3 := by decide +kernel
theorem d603 : Dc y70_ 14 (.if_icmp .eq 7) 3 := by decide +kernel
theorem d604 : Dc y70_ 21 (.return_) 1 := by decide +kernel
abbrev mn605 : MethodName := ⟨"java/lang/AbstractStringBuilder", "inflateIfNeededFor", "(Ljava/lang/String;)V"⟩
theorem own_inflate {l : Launch} {Z : State} {a0 : Array Value} (cx : Ctx Z a0) (x y t : Addr) (cs : List Int32) (vm0 : Vm) (h0 : Heap) (X00 : Ext Z.heap h0) (P0 : Fld Z h0 x c10_ "coder" "B" (.int (0 : Int32))) (P1 : Str Z h0 y t cs) :
    Met l mn605 y70_ 2 none [] (Rm 1 0 0 13) Z consts_1 vm0 h0 #[(.ref x), (.ref y)] (fun rv vm h => rv = none ∧ h0 = h) := by
  obtain ⟨hw, hEL, ⟨zc, Scs, hzc⟩, ⟨fm, Sfm, hfm⟩, hL0, hB0⟩ := id cx
  refine Met.of_walk (a0 := a0) #[vr x, vr y] (plainFor_of_name own_pn589) X00 hEL (fun _ => rfl) ?_
  intro p e s m below meth c vm hx hby hml hret hnm hC0 hW0
  have lt_x : h0.size > x := P0.lt
  have lt_y : h0.size > y := P1.1.lt
  have lt_t : h0.size > t := P1.tlt
  refine ggetS (host := "") hx (Or.inl (oz hw 155)) Via.refl Scs 3 (hb hby d597) rfl ?_
  refine vN 6 d598 ((if0 _ _).trans (feq hzc).1) ?_
  refine vAN 7 d599 ?_
  refine gF (oz hw 158) P0 10 d600 ?_
  refine vAN 11 d601 ?_
  refine gmV (y := mn58) (z := mn58) (oz hw 200) (oz hw 179) (nfSel (oz hw 181)) (oz hw 181) (oz hw 180) (oz hw 182) (oz hw 6) (fun O => own_scoder cx y t cs vm h0 O P1) 14 (argsL := []) (rest := [(.int (0 : Int32))]) P1.1 own_pd64 d602 ?_
  rintro _ vm1 h1 C1 z1 ⟨rfl, rfl⟩
  refine gat1 ?_
  refine vYc 21 d603 (teq (by decide)).1 ?_
  exact gretV hx hret (hb hby d604) (by decide) (by decide) (fun vq Cq => ⟨rfl, rfl⟩)
theorem d606 : Dc y22_ 0 (.aload_n 0) 1 := by decide +kernel
theorem d607 : Dc y22_ 1 (.invokevirtual 335) 3 := by decide +kernel
theorem d608 : Dc y22_ 4 (.iload_n 3) 1 := by decide +kernel
theorem d609 : Dc y22_ 5 (.if_icmp .ne 23) 3 := by decide +kernel
theorem d610 : Dc y22_ 8 (.aload_n 0) 1 := by decide +kernel
theorem d611 : Dc y22_ 9 (.getfield 9) 3 := by decide +kernel
theorem d612 : Dc y22_ 12 (.iconst 0) 1 := by decide +kernel
theorem d613 : Dc y22_ 13 (.aload_n 1) 1 := by decide +kernel
theorem d614 : Dc y22_ 14 (.iload_n 2) 1 := by decide +kernel
theorem d615 : Dc y22_ 15 (.iload_n 3) 1 := by decide +kernel
theorem d616 : Dc y22_ 16 (.ishl) 1 := by decide +kernel
theorem d617 : Dc y22_ 17 (.aload_n 0) 1 := by decide +kernel
theorem d618 : Dc y22_ 18 (.getfield 9) 3 := by decide +kernel
theorem d619 : Dc y22_ 21 (.arraylength) 1 := by decide +kernel
theorem d620 : Dc y22_ 22 (.invokestatic 212) 3 := by decide +kernel
theorem d621 : Dc y22_ 25 (.goto 18) 3 := by decide +kernel
theorem d622 : Dc y22_ 43 (.return_) 1 := by decide +kernel
abbrev mn623 : MethodName := ⟨"java/lang/String", "getBytes", "([BIB)V"⟩
theorem own_getBytes {l : Launch} {Z : State} {a0 : Array Value} (cx : Ctx Z a0) (x b : Addr) (j : Nat) (t : Addr) (ds : List Int32) (kb : ClassId) (M : Nat) (vd : List Value) (vm0 : Vm) (h0 : Heap) (X00 : Ext Z.heap h0) (P0 : Str Z h0 x t ds) (P1 : Arv Z h0 b kb .byte (Int32.ofNat M) vd (.int (0 : Int32))) (P2 : Z.heap.size ≤ b) (P3 : Safe Z consts_1 vm0 h0 b) (hj : (j + ds.length ≤ M)) (hM : (M ≤ 4000)) (hvd : (vd.length = M)) :
    Met l mn623 y22_ 4 none [] (Rm 1 0 0 18) Z consts_1 vm0 h0 #[(.ref x), (.ref b), (.int (Int32.ofNat j)), (.int (0 : Int32))] (fun rv vm h => rv = none ∧ Keep h0 h [b] ∧ Arv Z h b kb .byte (Int32.ofNat M) (vd.take j ++ ((lo8s ds).drop 0).take ds.length ++ vd.drop (j + ds.length)) (.int (0 : Int32)) ∧ Safe Z consts_1 vm h b) := by
  have hw := cx.1
  refine Met.of_walk (a0 := a0) #[vr x, vr b, vi (Int32.ofNat j), vi (0 : Int32)] (plainFor_of_name own_pn17) X00 cx.2.1 (fun _ => rfl) ?_
  intro p e s m below meth c vm hx hby hml hret hnm hC0 hW0
  have lt_x : h0.size > x := P0.1.lt
  have lt_t : h0.size > t := P0.tlt
  have lt_b : h0.size > b := P1.lt
  have L3 := hC0.safe lt_b P3
  obtain ⟨ks, eS⟩ := P0.2.2.2.1
  refine vAN 1 d606 ?_
  refine gmV (y := mn58) (z := mn58) (oz hw 178) (oz hw 179) (nfSel (oz hw 181)) (oz hw 181) (oz hw 180) (oz hw 182) (oz hw 6) (fun O => own_scoder cx x t ds vm h0 O P0) 4 (argsL := []) (rest := []) P0.1 own_pd64 d607 ?_
  rintro _ vm1 h1 C1 z1 ⟨rfl, rfl⟩
  refine gat1 ?_
  refine vIN 5 d608 ?_
  refine vNc 8 d609 (teq (by decide)).2 ?_
  refine vAN 9 d610 ?_
  refine gF (oz hw 32) P0.2.2.1 12 d611 ?_
  refine vKc 13 (0 : Int32) d612 ?_
  refine vAN 14 d613 ?_
  refine vIN 15 d614 ?_
  refine vIN 16 d615 ?_
  refine gs (mkF m 17 #[vr x, vr b, vi (Int32.ofNat j), vi (0 : Int32)] [(.int ((Int32.ofNat j) <<< ((0 : Int32) &&& 31))), (.ref b), (.int (0 : Int32)), (.ref t)]) (fun _ _ A kq => XS.ishl A hx rfl (hb hby d616) rfl kq) ?_
  refine gat (mkF m 17 #[vr x, vr b, vi (Int32.ofNat j), vi (0 : Int32)] [(.int (Int32.ofNat j)), (.ref b), (.int (0 : Int32)), (.ref t)]) (by rw [shl0 (by omega)]) ?_
  refine vAN 18 d617 ?_
  refine gF (oz hw 32) P0.2.2.1 21 d618 ?_
  refine glen hx eS 22 (hb hby d619) rfl ?_
  have f3 := (C1.sf L3)
  refine gcopyN hx (oz hw 206) (oz hw 209) (oz hw 207) (oz hw 208) (0) (j) (ds.length) (ds.length) (M) eS P1 rfl rfl rfl rfl rfl (by omega) (by omega) (by omega) hj (lo8s_len _) hvd P2 (fun _ => f3) 25 (W := 0) (Nat.le_of_eq rfl) (by rw [hml]; rfl) (hb hby d620) rfl (by decide) (by decide) ?_
  intro h2 K2 C2 V2
  have z2 := C2.2.1
  rw [show (0 : Nat) = 0 from rfl] at V2
  refine vG 43 d621 ?_
  have f5 := (C2.sf f3)
  exact gretV hx hret (hb hby d622) (by decide) (by decide) (fun vq Cq => ⟨rfl, ((Keep.refl h0 [b]).trans K2 (allS (Or.inl (List.mem_of_getElem? (i := 0) rfl)) all0)), V2, (Cq.sf f5)⟩)
theorem d624 : Dc y71_ 0 (.aload_n 0) 1 := by decide +kernel
theorem d625 : Dc y71_ 1 (.aload_n 2) 1 := by decide +kernel
theorem d626 : Dc y71_ 2 (.invokevirtual 397) 3 := by decide +kernel
theorem own_pd627 : parseMethodDescriptor "(Ljava/lang/String;)V" = some ⟨[(.object "java/lang/String")], none⟩ := by decide +kernel
theorem d628 : Dc y71_ 5 (.aload_n 2) 1 := by decide +kernel
theorem d629 : Dc y71_ 6 (.aload_n 0) 1 := by decide +kernel
theorem d630 : Dc y71_ 7 (.getfield 15) 3 := by decide +kernel
theorem d631 : Dc y71_ 10 (.iload_n 1) 1 := by decide +kernel
theorem d632 : Dc y71_ 11 (.aload_n 0) 1 := by decide +kernel
theorem d633 : Dc y71_ 12 (.getfield 22) 3 := by decide +kernel
theorem d634 : Dc y71_ 15 (.invokevirtual 399) 3 := by decide +kernel
theorem own_pd635 : parseMethodDescriptor "([BIB)V" = some ⟨[(.array .byte), .int, .byte], none⟩ := by decide +kernel
theorem d636 : Dc y71_ 18 (.return_) 1 := by decide +kernel
abbrev mn637 : MethodName := ⟨"java/lang/AbstractStringBuilder", "putStringAt", "(ILjava/lang/String;)V"⟩
theorem own_putAt {l : Launch} {Z : State} {a0 : Array Value} (cx : Ctx Z a0) (x : Addr) (j : Nat) (y b t : Addr) (ds : List Int32) (kb : ClassId) (M : Nat) (vd : List Value) (vm0 : Vm) (h0 : Heap) (X00 : Ext Z.heap h0) (P0 : Exa Z h0 x c14_) (P1 : Fld Z h0 x c10_ "value" "[B" (.ref b)) (P2 : Fld Z h0 x c10_ "coder" "B" (.int (0 : Int32))) (P3 : Str Z h0 y t ds) (P4 : Arv Z h0 b kb .byte (Int32.ofNat M) vd (.int (0 : Int32))) (P5 : Z.heap.size ≤ b) (P6 : Safe Z consts_1 vm0 h0 b) (hj : (j + ds.length ≤ M)) (hM : (M ≤ 4000)) (hvd : (vd.length = M)) :
    Met l mn637 y71_ 3 none [] (Rm 2 0 0 33) Z consts_1 vm0 h0 #[(.ref x), (.int (Int32.ofNat j)), (.ref y)] (fun rv vm h => rv = none ∧ Keep h0 h [b] ∧ Arv Z h b kb .byte (Int32.ofNat M) (vd.take j ++ ((lo8s ds).drop 0).take ds.length ++ vd.drop (j + ds.length)) (.int (0 : Int32)) ∧ Safe Z consts_1 vm h b) := by
  have hw := cx.1
  refine Met.of_walk (a0 := a0) #[vr x, vi (Int32.ofNat j), vr y] (plainFor_of_name own_pn589) X00 cx.2.1 (fun _ => rfl) ?_
  intro p e s m below meth c vm hx hby hml hret hnm hC0 hW0
  have lt_x : h0.size > x := P0.lt
  have lt_y : h0.size > y := P3.1.lt
  have lt_t : h0.size > t := P3.tlt
  have lt_b : h0.size > b := P4.lt
  have L6 := hC0.safe lt_b P6
  refine vAN 1 d624 ?_
  refine vAN 2 d625 ?_
  refine ginfo fun _ _ O1 => ?_
  refine gcallQ (y := mn605) hx (oz hw 195) (oz hw 196) (oz hw 198) (oz hw 197) (oz hw 199) (by decide) (fun hZ H hEL => Pay.of_met (W := 0) (own_inflate cx x y t ds vm h0 O1 P2 P3) (oz hw 199) (oz hw 152) (by decide) (by decide) hZ H hEL) 5 (argsL := [(.ref y)]) (rest := []) P0 (lenOf own_pd627 rfl) rfl rfl (Nat.le_of_eq rfl) (by rw [hml]; rfl) (hb hby d626) rfl (by decide) (by decide) ?_
  rintro _ vm1 h1 C1 ⟨rfl, rfl⟩
  have z1 := C1.2.1
  refine gat0 ?_
  refine vAN 6 d628 ?_
  refine vAN 7 d629 ?_
  refine gF (oz hw 156) P1 10 d630 ?_
  refine vIN 11 d631 ?_
  refine vAN 12 d632 ?_
  refine gF (oz hw 158) P2 15 d633 ?_
  have f3 := (C1.sf L6)
  refine gmV (y := mn623) (z := mn623) (oz hw 201) (oz hw 202) (nfSel (oz hw 204)) (oz hw 204) (oz hw 203) (oz hw 205) (oz hw 6) (fun O => own_getBytes cx y b j t ds kb M vd vm1 h0 O P3 P4 P5 f3 (by first | assumption | decide | omega) (by first | assumption | decide | omega) (by first | assumption | decide | omega)) 18 (argsL := [(.ref b), (.int (Int32.ofNat j)), (.int (0 : Int32))]) (rest := []) P3.1 own_pd635 d634 ?_
  rintro _ vm2 h2 C2 z2 ⟨rfl, K2, q2_0, q2_1⟩
  refine gat0 ?_
  exact gretV hx hret (hb hby d636) (by decide) (by decide) (fun vq Cq => ⟨rfl, ((Keep.refl h0 [b]).trans K2 (allS (Or.inl (List.mem_of_getElem? (i := 0) rfl)) all0)), q2_0, (Cq.sf q2_1)⟩)
theorem d638 : Dc y72_ 0 (.aload_n 0) 1 := by decide +kernel
theorem d639 : Dc y72_ 1 (.getfield 15) 3 := by decide +kernel
theorem d640 : Dc y72_ 4 (.arraylength) 1 := by decide +kernel
theorem d641 : Dc y72_ 5 (.aload_n 0) 1 := by decide +kernel
theorem d642 : Dc y72_ 6 (.getfield 22) 3 := by decide +kernel
theorem d643 : Dc y72_ 9 (.ishr) 1 := by decide +kernel
theorem d644 : Dc y72_ 10 (.istore_n 2) 1 := by decide +kernel
theorem d645 : Dc y72_ 11 (.iload_n 1) 1 := by decide +kernel
theorem d646 : Dc y72_ 12 (.iload_n 2) 1 := by decide +kernel
theorem d647 : Dc y72_ 13 (.isub) 1 := by decide +kernel
theorem d648 : Dc y72_ 14 (.ifCond .le 24) 3 := by decide +kernel
theorem d649 : Dc y72_ 38 (.return_) 1 := by decide +kernel
abbrev mn650 : MethodName := ⟨"java/lang/AbstractStringBuilder", "ensureCapacityInternal", "(I)V"⟩
theorem own_ensure {l : Launch} {Z : State} {a0 : Array Value} (cx : Ctx Z a0) (x : Addr) (k : Nat) (v : Addr) (kb : ClassId) (M : Nat) (vd : List Value) (vm0 : Vm) (h0 : Heap) (X00 : Ext Z.heap h0) (P0 : Fld Z h0 x c10_ "value" "[B" (.ref v)) (P1 : Fld Z h0 x c10_ "coder" "B" (.int (0 : Int32))) (P2 : Arv Z h0 v kb .byte (Int32.ofNat M) vd (.int (0 : Int32))) (hk : (k ≤ M)) (hM : (M ≤ 4000)) :
    Met l mn650 y72_ 3 none [] (Rm 0 0 0 0) Z consts_1 vm0 h0 #[(.ref x), (.int (Int32.ofNat k))] (fun rv vm h => rv = none ∧ h0 = h) := by
  have hw := cx.1
  refine Met.of_walk (a0 := a0) #[vr x, vi (Int32.ofNat k), un] (plainFor_of_name own_pn589) X00 cx.2.1 (fun _ => rfl) ?_
  intro p e s m below meth c vm hx hby hml hret hnm hC0 hW0
  have lt_x : h0.size > x := P0.lt
  have lt_v : h0.size > v := P2.lt
  refine vAN 1 d638 ?_
  refine gF (oz hw 156) P0 4 d639 ?_
  refine glen hx P2 5 (hb hby d640) rfl ?_
  refine vAN 6 d641 ?_
  refine gF (oz hw 158) P1 9 d642 ?_
  refine gs (mkF m 10 #[vr x, vi (Int32.ofNat k), un] [(.int ((Int32.ofNat M) >>> ((0 : Int32) &&& 31)))]) (fun _ _ A kq => XS.ishr A hx rfl (hb hby d643) rfl kq) ?_
  refine gat (mkF m 10 #[vr x, vi (Int32.ofNat k), un] [(.int (Int32.ofNat M))]) (by rw [shr0 hM]) ?_
  refine vSIN 11 #[vr x, vi (Int32.ofNat k), vi (Int32.ofNat M)] d644 ?_
  refine vIN 12 d645 ?_
  refine vIN 13 d646 ?_
  refine visub 14 ((Int32.ofNat k) - (Int32.ofNat M)) d647 ?_
  refine vY 38 d648 ((if0 _ _).trans (flt (subLe (by omega) hM hk)).2.2.2) ?_
  exact gretV hx hret (hb hby d649) (by decide) (by decide) (fun vq Cq => ⟨rfl, rfl⟩)
theorem d651 : Dc y64_ 0 (.aload_n 1) 1 := by decide +kernel
theorem d652 : Dc y64_ 1 (.ifnonnull 8) 3 := by decide +kernel
theorem d653 : Dc y64_ 9 (.aload_n 1) 1 := by decide +kernel
theorem d654 : Dc y64_ 10 (.invokevirtual 32) 3 := by decide +kernel
theorem d655 : Dc y64_ 13 (.istore_n 2) 1 := by decide +kernel
theorem d656 : Dc y64_ 14 (.aload_n 0) 1 := by decide +kernel
theorem d657 : Dc y64_ 15 (.aload_n 0) 1 := by decide +kernel
theorem d658 : Dc y64_ 16 (.getfield 79) 3 := by decide +kernel
theorem d659 : Dc y64_ 19 (.iload_n 2) 1 := by decide +kernel
theorem d660 : Dc y64_ 20 (.iadd) 1 := by decide +kernel
theorem d661 : Dc y64_ 21 (.invokevirtual 100) 3 := by decide +kernel
theorem d662 : Dc y64_ 24 (.aload_n 0) 1 := by decide +kernel
theorem d663 : Dc y64_ 25 (.aload_n 0) 1 := by decide +kernel
theorem d664 : Dc y64_ 26 (.getfield 79) 3 := by decide +kernel
theorem d665 : Dc y64_ 29 (.aload_n 1) 1 := by decide +kernel
theorem d666 : Dc y64_ 30 (.invokevirtual 208) 3 := by decide +kernel
theorem own_pd667 : parseMethodDescriptor "(ILjava/lang/String;)V" = some ⟨[.int, (.object "java/lang/String")], none⟩ := by decide +kernel
theorem d668 : Dc y64_ 33 (.aload_n 0) 1 := by decide +kernel
theorem d669 : Dc y64_ 34 (.dup) 1 := by decide +kernel
theorem d670 : Dc y64_ 35 (.getfield 79) 3 := by decide +kernel
theorem d671 : Dc y64_ 38 (.iload_n 2) 1 := by decide +kernel
theorem d672 : Dc y64_ 39 (.iadd) 1 := by decide +kernel
theorem d673 : Dc y64_ 40 (.putfield 79) 3 := by decide +kernel
theorem d674 : Dc y64_ 43 (.aload_n 0) 1 := by decide +kernel
theorem d675 : Dc y64_ 44 (.areturn) 1 := by decide +kernel
abbrev mn676 : MethodName := ⟨"java/lang/AbstractStringBuilder", "append", "(Ljava/lang/String;)Ljava/lang/AbstractStringBuilder;"⟩
theorem own_asbappend {l : Launch} {Z : State} {a0 : Array Value} (cx : Ctx Z a0) (b y v : Addr) (cap : Nat) (cs : List Int32) (t : Addr) (ds : List Int32) (vm0 : Vm) (h0 : Heap) (X00 : Ext Z.heap h0) (P0 : SBd Z h0 b v cap cs) (P1 : Str Z h0 y t ds) (P2 : Z.heap.size ≤ b) (P3 : Z.heap.size ≤ v) (P4 : Safe Z consts_1 vm0 h0 v) (hcd : (cs.length + ds.length ≤ cap)) (hvt : (v ≠ t)) :
    Met l mn676 y64_ 3 (some (.object c10_)) [] (Rm 3 0 0 47) Z consts_1 vm0 h0 #[(.ref b), (.ref y)] (fun rv vm h => rv = some (.ref b) ∧ Keep h0 h [b, v] ∧ SBd Z h b v cap (cs ++ ds) ∧ Safe Z consts_1 vm h v) := by
  have hw := cx.1
  refine Met.of_walk (a0 := a0) #[vr b, vr y, un] (plainFor_of_name own_pn589) X00 cx.2.1 (fun _ => rfl) ?_
  intro p e s m below meth c vm hx hby hml hret hnm hC0 hW0
  have lt_v : h0.size > v := P0.vlt
  have lt_b : h0.size > b := P0.1.lt
  have lt_y : h0.size > y := P1.1.lt
  have lt_t : h0.size > t := P1.tlt
  have L4 := hC0.safe lt_v P4
  obtain ⟨eE, eV, eC, eN, ⟨kz, zs, eA, ez⟩, eb, ecap⟩ := P0
  refine vAN 1 d651 ?_
  refine vY1 9 d652 ?_
  refine vAN 10 d653 ?_
  refine gmV (y := mn67) (z := mn67) (oz hw 173) (oz hw 174) (nfSel (oz hw 176)) (oz hw 176) (oz hw 175) (oz hw 177) (oz hw 6) (fun O => own_slen cx y t ds vm h0 O P1) 13 (argsL := []) (rest := []) P1.1 own_pd139 d654 ?_
  rintro _ vm1 h1 C1 z1 ⟨rfl, rfl⟩
  refine gat1 ?_
  refine vSIN 14 #[vr b, vr y, vi (Int32.ofNat ds.length)] d655 ?_
  refine vAN 15 d656 ?_
  refine vAN 16 d657 ?_
  refine gF (oz hw 183) eN 19 d658 ?_
  refine vIN 20 d659 ?_
  refine viadd 21 ((Int32.ofNat (cs).length) + (Int32.ofNat ds.length)) d660 ?_
  refine gat (mkF m 21 #[vr b, vr y, vi (Int32.ofNat ds.length)] [(.int (Int32.ofNat (cs.length + ds.length))), (.ref b)]) (by rw [addOf (by omega)]) ?_
  refine ginfo fun _ _ O2 => ?_
  refine gcallQ (y := mn650) hx (oz hw 185) (oz hw 186) (oz hw 188) (oz hw 187) (oz hw 189) (by decide) (fun hZ H hEL => Pay.of_met (W := 0) (own_ensure cx b (cs.length + ds.length) v kz cap ((lo8s cs ++ zs)) vm1 h0 O2 eV eC eA (by first | assumption | decide | omega) (by first | assumption | decide | omega)) (oz hw 189) (oz hw 152) (by decide) (by decide) hZ H hEL) 24 (argsL := [(.int (Int32.ofNat (cs.length + ds.length)))]) (rest := []) eE (lenOf own_pd593 rfl) rfl rfl (Nat.le_of_eq rfl) (by rw [hml]; rfl) (hb hby d661) rfl (by decide) (by decide) ?_
  rintro _ vm2 h2 C2 ⟨rfl, rfl⟩
  have z2 := C2.2.1
  refine gat0 ?_
  refine vAN 25 d662 ?_
  refine vAN 26 d663 ?_
  refine gF (oz hw 183) eN 29 d664 ?_
  refine vAN 30 d665 ?_
  have f4 := (C2.sf (C1.sf L4))
  refine ginfo fun _ _ O3 => ?_
  refine gcallQ (y := mn637) hx (oz hw 190) (oz hw 191) (oz hw 193) (oz hw 192) (oz hw 194) (by decide) (fun hZ H hEL => Pay.of_met (W := 0) (own_putAt cx b (cs.length) y v t ds kz cap ((lo8s cs ++ zs)) vm2 h0 O3 eE eV eC P1 eA P3 f4 (by first | assumption | decide | omega) (by first | assumption | decide | omega) (by simp only [List.length_append, lo8s_len]; exact ez)) (oz hw 194) (oz hw 152) (by decide) (by decide) hZ H hEL) 33 (argsL := [(.int (Int32.ofNat (cs).length)), (.ref y)]) (rest := []) eE (lenOf own_pd667 rfl) rfl rfl (Nat.le_of_eq rfl) (by rw [hml]; rfl) (hb hby d666) rfl (by decide) (by decide) ?_
  rintro _ vm3 h3 C3 ⟨rfl, K3, q3_0, q3_1⟩
  have z3 := C3.2.1
  refine gat0 ?_
  have VL := q3_0
  rw [put_list] at VL
  refine vAN 34 d668 ?_
  refine vD 35 d669 ?_
  have f5 := (eN.keep K3 (ninS (Exa.neArv (eE.keep K3) VL (oz hw 143)) nin0))
  refine gF (oz hw 183) f5 38 d670 ?_
  refine vIN 39 d671 ?_
  refine viadd 40 ((Int32.ofNat (cs).length) + (Int32.ofNat ds.length)) d672 ?_
  refine gat (mkF m 40 #[vr b, vr y, vi (Int32.ofNat ds.length)] [(.int (Int32.ofNat (cs.length + ds.length))), (.ref b)]) (by rw [addOf (by omega)]) ?_
  have f6 := (eE.keep K3)
  refine gputF (host := "") hx (Or.inl (oz hw 183)) Via.refl f5 f6 (Or.inl (oz hw 184)) (oz hw 143) (ty := .int) (by decide) rfl rfl P2 (fun al => Safe.exa al f6 (by decide) (by decide)) 43 (hb hby d673) rfl ?_
  intro h7 W7 C7
  have z7 := C7.2.1
  have F7 := f5.same W7
  refine vAN 44 d674 ?_
  have N8 : Fld Z h7 b c10_ "count" "I" (.int (Int32.ofNat (cs ++ ds).length)) := by rw [List.length_append]; exact F7
  have f9 := (f6.wr W7)
  have f10 := ((eV.keep K3 (ninS (Exa.neArv f6 VL (oz hw 143)) nin0)).other W7 (Or.inr (slot_ne (Or.inl (oz hw 157)) (Or.inl (oz hw 184)) (by decide) (t := (.array .byte)) (t' := .int) (by decide) (by decide))))
  have f11 := ((eC.keep K3 (ninS (Exa.neArv f6 VL (oz hw 143)) nin0)).other W7 (Or.inr (slot_ne (Or.inl (oz hw 159)) (Or.inl (oz hw 184)) (by decide) (t := .byte) (t' := .int) (by decide) (by decide))))
  have f12 := (VL.other W7 (Ne.symm (Exa.neArv f6 VL (oz hw 143))))
  have f14 := (C7.sf q3_1)
  exact gretA hx hret rfl rfl (hb hby d675) (by decide) (by decide) (fun vq Cq => ⟨rfl, (((Keep.refl h0 [b, v]).trans K3 (allS (Or.inl (List.mem_of_getElem? (i := 1) rfl)) all0)).wr W7 (Or.inl (List.mem_of_getElem? (i := 0) rfl))), ⟨f9, f10, f11, N8, ⟨_, _, f12, by simp only [List.length_append, List.length_drop]; omega⟩, bapp eb P1.2.2.2.2.1, ecap⟩, (Cq.sf f14)⟩)
theorem d677 : Dc y62_ 0 (.aload_n 0) 1 := by decide +kernel
theorem d678 : Dc y62_ 1 (.aload_n 1) 1 := by decide +kernel
theorem d679 : Dc y62_ 2 (.invokespecial 29) 3 := by decide +kernel
theorem own_pd680 : parseMethodDescriptor "(Ljava/lang/String;)Ljava/lang/AbstractStringBuilder;" = some ⟨[(.object "java/lang/String")], some (.object "java/lang/AbstractStringBuilder")⟩ := by decide +kernel
theorem d681 : Dc y62_ 5 (.pop) 1 := by decide +kernel
theorem d682 : Dc y62_ 6 (.aload_n 0) 1 := by decide +kernel
theorem d683 : Dc y62_ 7 (.areturn) 1 := by decide +kernel
abbrev mn684 : MethodName := ⟨"java/lang/StringBuilder", "append", "(Ljava/lang/String;)Ljava/lang/StringBuilder;"⟩
theorem own_sbappend {l : Launch} {Z : State} {a0 : Array Value} (cx : Ctx Z a0) (b y v : Addr) (cap : Nat) (cs : List Int32) (t : Addr) (ds : List Int32) (vm0 : Vm) (h0 : Heap) (X00 : Ext Z.heap h0) (P0 : SBd Z h0 b v cap cs) (P1 : Str Z h0 y t ds) (P2 : Z.heap.size ≤ b) (P3 : Z.heap.size ≤ v) (P4 : Safe Z consts_1 vm0 h0 v) (hcd : (cs.length + ds.length ≤ cap)) (hvt : (v ≠ t)) :
    Met l mn684 y62_ 2 (some (.object c14_)) [] (Rm 4 0 0 61) Z consts_1 vm0 h0 #[(.ref b), (.ref y)] (fun rv vm h => rv = some (.ref b) ∧ Keep h0 h [b, v] ∧ SBd Z h b v cap (cs ++ ds) ∧ Safe Z consts_1 vm h v) := by
  have hw := cx.1
  refine Met.of_walk (a0 := a0) #[vr b, vr y] (plainFor_of_name own_pn596) X00 cx.2.1 (fun _ => rfl) ?_
  intro p e s m below meth c vm hx hby hml hret hnm hC0 hW0
  have lt_v : h0.size > v := P0.vlt
  have lt_b : h0.size > b := P0.1.lt
  have lt_y : h0.size > y := P1.1.lt
  have lt_t : h0.size > t := P1.tlt
  have L4 := hC0.safe lt_v P4
  have eE := P0.1
  refine vAN 1 d677 ?_
  refine vAN 2 d678 ?_
  refine ginfo fun _ _ O1 => ?_
  refine gcallU (y := mn676) hx (oz hw 168) (smOf (y := mn676) (oz hw 169) (nfSame (y' := mn650) (oz hw 188) (oz hw 186) rfl) (by decide)) (oz hw 169) (oz hw 170) (by decide) (oz hw 172) (fun hZ H hEL => Pay.of_met (W := 0) (own_asbappend cx b y v cap cs t ds vm h0 O1 P0 P1 P2 P3 L4 (by first | assumption | decide | omega) (by first | assumption | decide | omega)) (oz hw 172) (oz hw 152) (by decide) (by decide) hZ H hEL) 5 (argsL := [(.ref y)]) (rest := []) (Ins.self eE) (lenOf own_pd680 rfl) rfl rfl (Nat.le_of_eq rfl) (by rw [hml]; rfl) (hb hby d679) rfl (by decide) (by decide) ?_
  rintro _ vm1 h1 C1 ⟨rfl, K1, q1_0, q1_1⟩
  have z1 := C1.2.1
  refine gat1 ?_
  refine vP 6 d681 ?_
  refine vAN 7 d682 ?_
  exact gretA hx hret rfl rfl (hb hby d683) (by decide) (by decide) (fun vq Cq => ⟨rfl, ((Keep.refl h0 [b, v]).trans K1 (allS (Or.inl (List.mem_of_getElem? (i := 0) rfl)) (allS (Or.inl (List.mem_of_getElem? (i := 1) rfl)) all0))), q1_0, (Cq.sf q1_1)⟩)
theorem d685 : Dc y67_ 0 (.aload_n 0) 1 := by decide +kernel
theorem d686 : Dc y67_ 1 (.getfield 15) 3 := by decide +kernel
theorem d687 : Dc y67_ 4 (.areturn) 1 := by decide +kernel
abbrev mn688 : MethodName := ⟨"java/lang/AbstractStringBuilder", "getValue", "()[B"⟩
theorem own_getValue {l : Launch} {Z : State} {a0 : Array Value} (cx : Ctx Z a0) (x v : Addr) (vm0 : Vm) (h0 : Heap) (X00 : Ext Z.heap h0) (P0 : Fld Z h0 x c10_ "value" "[B" (.ref v)) :
    Met l mn688 y67_ 1 (some (.array .byte)) [] (Rm 0 0 0 0) Z consts_1 vm0 h0 #[(.ref x)] (fun rv vm h => rv = some (.ref v) ∧ h0 = h) := by
  have hw := cx.1
  refine Met.of_walk (a0 := a0) #[vr x] (plainFor_of_name own_pn589) X00 cx.2.1 (fun _ => rfl) ?_
  intro p e s m below meth c vm hx hby hml hret hnm hC0 hW0
  have lt_x : h0.size > x := P0.lt
  refine vAN 1 d685 ?_
  refine gF (oz hw 156) P0 4 d686 ?_
  exact gretA hx hret rfl rfl (hb hby d687) (by decide) (by decide) (fun vq Cq => ⟨rfl, rfl⟩)
theorem d689 : Dc y69_ 0 (.aload_n 0) 1 := by decide +kernel
theorem d690 : Dc y69_ 1 (.getfield 79) 3 := by decide +kernel
theorem d691 : Dc y69_ 4 (.ireturn) 1 := by decide +kernel
abbrev mn692 : MethodName := ⟨"java/lang/AbstractStringBuilder", "length", "()I"⟩
theorem own_asblen {l : Launch} {Z : State} {a0 : Array Value} (cx : Ctx Z a0) (x : Addr) (n : Int32) (vm0 : Vm) (h0 : Heap) (X00 : Ext Z.heap h0) (P0 : Fld Z h0 x c10_ "count" "I" (.int n)) :
    Met l mn692 y69_ 1 (some .int) [] (Rm 0 0 0 0) Z consts_1 vm0 h0 #[(.ref x)] (fun rv vm h => rv = some (.int n) ∧ h0 = h) := by
  have hw := cx.1
  refine Met.of_walk (a0 := a0) #[vr x] (plainFor_of_name own_pn589) X00 cx.2.1 (fun _ => rfl) ?_
  intro p e s m below meth c vm hx hby hml hret hnm hC0 hW0
  have lt_x : h0.size > x := P0.lt
  refine vAN 1 d689 ?_
  refine gF (oz hw 183) P0 4 d690 ?_
  exact gretI hx hret (hb hby d691) (by decide) (by decide) (fun vq Cq => ⟨rfl, rfl⟩)
theorem d693 : Dc y63_ 0 (.aload_n 0) 1 := by decide +kernel
theorem d694 : Dc y63_ 1 (.invokespecial 343) 3 := by decide +kernel
theorem d695 : Dc y63_ 4 (.ireturn) 1 := by decide +kernel
abbrev mn696 : MethodName := ⟨"java/lang/StringBuilder", "length", "()I"⟩
theorem own_sblen {l : Launch} {Z : State} {a0 : Array Value} (cx : Ctx Z a0) (x : Addr) (n : Int32) (vm0 : Vm) (h0 : Heap) (X00 : Ext Z.heap h0) (P0 : Exa Z h0 x c14_) (P1 : Fld Z h0 x c10_ "count" "I" (.int n)) :
    Met l mn696 y63_ 1 (some .int) [] (Rm 1 0 0 12) Z consts_1 vm0 h0 #[(.ref x)] (fun rv vm h => rv = some (.int n) ∧ h0 = h) := by
  have hw := cx.1
  refine Met.of_walk (a0 := a0) #[vr x] (plainFor_of_name own_pn596) X00 cx.2.1 (fun _ => rfl) ?_
  intro p e s m below meth c vm hx hby hml hret hnm hC0 hW0
  have lt_x : h0.size > x := P0.lt
  refine vAN 1 d693 ?_
  refine ginfo fun _ _ O1 => ?_
  refine gcallU (y := mn692) hx (oz hw 287) (smOf (y := mn692) (oz hw 283) (nfSame (y' := mn650) (oz hw 188) (oz hw 186) rfl) (by decide)) (oz hw 283) (oz hw 170) (by decide) (oz hw 288) (fun hZ H hEL => Pay.of_met (W := 0) (own_asblen cx x n vm h0 O1 P1) (oz hw 288) (oz hw 152) (by decide) (by decide) hZ H hEL) 4 (argsL := []) (rest := []) (Ins.self P0) (lenOf own_pd139 rfl) rfl rfl (Nat.le_of_eq rfl) (by rw [hml]; rfl) (hb hby d694) rfl (by decide) (by decide) ?_
  rintro _ vm1 h1 C1 ⟨rfl, rfl⟩
  have z1 := C1.2.1
  refine gat1 ?_
  exact gretI hx hret (hb hby d695) (by decide) (by decide) (fun vq Cq => ⟨rfl, rfl⟩)
theorem d697 : Dc y68_ 0 (.getstatic 18) 3 := by decide +kernel
theorem d698 : Dc y68_ 3 (.ifCond .eq 14) 3 := by decide +kernel
theorem d699 : Dc y68_ 6 (.aload_n 0) 1 := by decide +kernel
theorem d700 : Dc y68_ 7 (.getfield 22) 3 := by decide +kernel
theorem d701 : Dc y68_ 10 (.ifCond .ne 7) 3 := by decide +kernel
theorem d702 : Dc y68_ 13 (.iconst 1) 1 := by decide +kernel
theorem d703 : Dc y68_ 14 (.goto 4) 3 := by decide +kernel
theorem d704 : Dc y68_ 18 (.ireturn) 1 := by decide +kernel
abbrev mn705 : MethodName := ⟨"java/lang/AbstractStringBuilder", "isLatin1", "()Z"⟩
theorem own_asblat {l : Launch} {Z : State} {a0 : Array Value} (cx : Ctx Z a0) (x : Addr) (vm0 : Vm) (h0 : Heap) (X00 : Ext Z.heap h0) (P0 : Fld Z h0 x c10_ "coder" "B" (.int (0 : Int32))) :
    Met l mn705 y68_ 1 (some .boolean) [] (Rm 0 0 0 0) Z consts_1 vm0 h0 #[(.ref x)] (fun rv vm h => rv = some (.int (1 : Int32)) ∧ h0 = h) := by
  obtain ⟨hw, hEL, ⟨zc, Scs, hzc⟩, ⟨fm, Sfm, hfm⟩, hL0, hB0⟩ := id cx
  refine Met.of_walk (a0 := a0) #[vr x] (plainFor_of_name own_pn589) X00 hEL (fun _ => rfl) ?_
  intro p e s m below meth c vm hx hby hml hret hnm hC0 hW0
  have lt_x : h0.size > x := P0.lt
  refine ggetS (host := "") hx (Or.inl (oz hw 155)) Via.refl Scs 3 (hb hby d697) rfl ?_
  refine vN 6 d698 ((if0 _ _).trans (feq hzc).1) ?_
  refine vAN 7 d699 ?_
  refine gF (oz hw 158) P0 10 d700 ?_
  refine vN 13 d701 ((if0 _ _).trans (teq (by decide)).2) ?_
  refine vKc 14 (1 : Int32) d702 ?_
  refine vG 18 d703 ?_
  exact gretN (t := .boolean) hx hret (by simp) (hb hby d704) (by decide) (by decide) (fun vq Cq => ⟨rfl, rfl⟩)
theorem d706 : Dc y55_ 0 (.iload_n 1) 1 := by decide +kernel
theorem d707 : Dc y55_ 1 (.iload_n 0) 1 := by decide +kernel
theorem d708 : Dc y55_ 2 (.if_icmp .ge 35) 3 := by decide +kernel
theorem d709 : Dc y55_ 37 (.return_) 1 := by decide +kernel
abbrev mn710 : MethodName := ⟨"java/util/Arrays", "checkLength", "(II)V"⟩
theorem own_checkLength {l : Launch} {Z : State} {a0 : Array Value} (cx : Ctx Z a0) (x y : Int32) (vm0 : Vm) (h0 : Heap) (X00 : Ext Z.heap h0) (hxy : (¬ y < x)) :
    Met l mn710 y55_ 2 none [] (Rm 0 0 0 0) Z consts_1 vm0 h0 #[(.int x), (.int y)] (fun rv vm h => rv = none ∧ h0 = h) := by
  have hw := cx.1
  refine Met.of_walk (a0 := a0) #[vi x, vi y] (plainFor_of_name own_pn331) X00 cx.2.1 (fun _ => rfl) ?_
  intro p e s m below meth c vm hx hby hml hret hnm hC0 hW0
  refine vIN 1 d706 ?_
  refine vIN 2 d707 ?_
  refine vYc 37 d708 (flt hxy).2.1 ?_
  exact gretV hx hret (hb hby d709) (by decide) (by decide) (fun vq Cq => ⟨rfl, rfl⟩)
theorem own_min {l : Launch} {Z : State} {a0 : Array Value} (cx : Ctx Z a0) (x y : Int32) (vm0 : Vm) (h0 : Heap) (X00 : Ext Z.heap h0) (hyx : (y < x)) :
    Met l mn310 y5_ 2 (some .int) [] (Rm 0 0 0 0) Z consts_1 vm0 h0 #[(.int x), (.int y)] (fun rv vm h => rv = some (.int y) ∧ h0 = h) := by
  have hw := cx.1
  refine Met.of_walk (a0 := a0) #[vi x, vi y] own_pn311 X00 cx.2.1 (fun _ => rfl) ?_
  intro p e s m below meth c vm hx hby hml hret hnm hC0 hW0
  refine vIN 1 d305 ?_
  refine vIN 2 d306 ?_
  refine vYc 9 d307 (tlt hyx).2.2.1 ?_
  refine vIN 10 d308 ?_
  exact gretI hx hret (hb hby d309) (by decide) (by decide) (fun vq Cq => ⟨rfl, rfl⟩)
theorem d711 : Dc y57_ 0 (.iload_n 1) 1 := by decide +kernel
theorem d712 : Dc y57_ 1 (.iload_n 2) 1 := by decide +kernel
theorem d713 : Dc y57_ 2 (.invokestatic 343) 3 := by decide +kernel
theorem d714 : Dc y57_ 5 (.iload_n 2) 1 := by decide +kernel
theorem d715 : Dc y57_ 6 (.iload_n 1) 1 := by decide +kernel
theorem d716 : Dc y57_ 7 (.isub) 1 := by decide +kernel
theorem d717 : Dc y57_ 8 (.istore_n 3) 1 := by decide +kernel
theorem d718 : Dc y57_ 9 (.iload_n 3) 1 := by decide +kernel
theorem d719 : Dc y57_ 10 (.newarray .byte) 2 := by decide +kernel
theorem d720 : Dc y57_ 12 (.astore 4) 2 := by decide +kernel
theorem d721 : Dc y57_ 14 (.aload_n 0) 1 := by decide +kernel
theorem d722 : Dc y57_ 15 (.iload_n 1) 1 := by decide +kernel
theorem d723 : Dc y57_ 16 (.aload 4) 2 := by decide +kernel
theorem d724 : Dc y57_ 18 (.iconst 0) 1 := by decide +kernel
theorem d725 : Dc y57_ 19 (.aload_n 0) 1 := by decide +kernel
theorem d726 : Dc y57_ 20 (.arraylength) 1 := by decide +kernel
theorem d727 : Dc y57_ 21 (.iload_n 1) 1 := by decide +kernel
theorem d728 : Dc y57_ 22 (.isub) 1 := by decide +kernel
theorem d729 : Dc y57_ 23 (.iload_n 3) 1 := by decide +kernel
theorem d730 : Dc y57_ 24 (.invokestatic 304) 3 := by decide +kernel
theorem d731 : Dc y57_ 27 (.invokestatic 150) 3 := by decide +kernel
theorem d732 : Dc y57_ 30 (.aload 4) 2 := by decide +kernel
theorem d733 : Dc y57_ 32 (.areturn) 1 := by decide +kernel
abbrev mn734 : MethodName := ⟨"java/util/Arrays", "copyOfRangeByte", "([BII)[B"⟩
theorem own_corb {l : Launch} {Z : State} {a0 : Array Value} (cx : Ctx Z a0) (a : Addr) (ka : ClassId) (cs : List Int32) (zs : List Value) (cap : Nat) (vm0 : Vm) (h0 : Heap) (X00 : Ext Z.heap h0) (P0 : Arv Z h0 a ka .byte (Int32.ofNat cap) (lo8s cs ++ zs) (.int (0 : Int32))) (hz : (cs.length + zs.length = cap)) (hlt : (cs.length < cap)) (h32 : (cs.length ≤ 32)) (hcap : (cap ≤ 4000)) :
    Met l mn734 y57_ 5 (some (.array .byte)) [] (Rm 1 1 32 18) Z consts_1 vm0 h0 #[(.ref a), (.int (0 : Int32)), (.int (Int32.ofNat cs.length))] (fun rv vm h => ∃ (r : Addr), ∃ (kb : ClassId), rv = some (.ref r) ∧ Keep h0 h [] ∧ h0.size ≤ r ∧ Arv Z h r kb .byte (Int32.ofNat cs.length) (lo8s cs) (.int (0 : Int32))) := by
  have hw := cx.1
  refine Met.of_walk (a0 := a0) #[vr a, vi (0 : Int32), vi (Int32.ofNat cs.length), un, un] (plainFor_of_name own_pn331) X00 cx.2.1 (fun _ => rfl) ?_
  intro p e s m below meth c vm hx hby hml hret hnm hC0 hW0
  have lt_a : h0.size > a := P0.lt
  refine vIN 1 d711 ?_
  refine vIN 2 d712 ?_
  refine gmS (y := mn710) (oz hw 301) (oz hw 302) (oz hw 303) (oz hw 296) (fun O => own_checkLength cx ((0 : Int32)) ((Int32.ofNat cs.length)) vm h0 O (nn0 (by omega))) 5 (argsL := [(.int (0 : Int32)), (.int (Int32.ofNat cs.length))]) (rest := []) own_pd22 d713 ?_
  rintro _ vm1 h1 C1 z1 ⟨rfl, rfl⟩
  refine gat0 ?_
  refine vIN 6 d714 ?_
  refine vIN 7 d715 ?_
  refine visub 8 ((Int32.ofNat cs.length) - (0 : Int32)) d716 ?_
  refine gat (mkF m 8 #[vr a, vi (0 : Int32), vi (Int32.ofNat cs.length), un, un] [(.int (Int32.ofNat cs.length))]) (by rw [subOf0 (by omega)]) ?_
  refine vSIN 9 #[vr a, vi (0 : Int32), vi (Int32.ofNat cs.length), vi (Int32.ofNat cs.length), un] d717 ?_
  refine vIN 10 d718 ?_
  refine gnewPE hx (oz hw 23) (n := (Int32.ofNat cs.length)) (nn0 (by omega)) (cap := 32) (by rw [tn (by omega)]; exact h32) (by decide) (ad := "[B") (by decide) 12 (hb hby d719) rfl (by decide) (by decide) ?_
  intro b2 h2 k2 g2 E2 C2 V2 A2 n2 L2
  have z2 := C2.2.1
  have V2 : Arv Z h2 b2 k2 .byte (Int32.ofNat cs.length) (List.replicate cs.length (.int (0 : Int32))) (.int (0 : Int32)) := V2.pad (pad_rep [] (.int (0 : Int32)) cs.length)
  have lt_b2 : h2.size > b2 := V2.lt
  refine vSA 14 #[vr a, vi (0 : Int32), vi (Int32.ofNat cs.length), vi (Int32.ofNat cs.length), vr b2] d720 ?_
  refine vAN 15 d721 ?_
  refine vIN 16 d722 ?_
  refine vA 18 d723 ?_
  refine vKc 19 (0 : Int32) d724 ?_
  refine vAN 20 d725 ?_
  have f3 := (P0.ext E2)
  refine glen hx f3 21 (hb hby d726) rfl ?_
  refine vIN 22 d727 ?_
  refine visub 23 ((Int32.ofNat cap) - (0 : Int32)) d728 ?_
  refine gat (mkF m 23 #[vr a, vi (0 : Int32), vi (Int32.ofNat cs.length), vi (Int32.ofNat cs.length), vr b2] [(.int (Int32.ofNat cap)), (.int (0 : Int32)), (.ref b2), (.int (0 : Int32)), (.ref a)]) (by rw [subOf0 hcap]) ?_
  refine vIN 24 d729 ?_
  refine gmS (y := mn310) (oz hw 304) (oz hw 305) (oz hw 307) (oz hw 306) (fun O => own_min cx ((Int32.ofNat cap)) ((Int32.ofNat cs.length)) vm1 h2 O ((ltOf (by omega) hcap).mpr hlt)) 27 (argsL := [(.int (Int32.ofNat cap)), (.int (Int32.ofNat cs.length))]) (rest := [(.int (0 : Int32)), (.ref b2), (.int (0 : Int32)), (.ref a)]) own_pd190 d730 ?_
  rintro _ vm4 h4 C4 z4 ⟨rfl, rfl⟩
  refine gat1 ?_
  have f6 := (C4.sf L2)
  refine gcopyN hx (oz hw 308) (oz hw 209) (oz hw 207) (oz hw 208) (0) (0) (cs.length) (cap) (cs.length) f3 V2 rfl rfl rfl rfl rfl (by omega) (by omega) (by omega) (by omega) (by simp only [List.length_append, lo8s_len]; exact hz) (by simp) n2 (fun _ => f6) 30 (W := 0) (Nat.le_of_eq rfl) (by rw [hml]; rfl) (hb hby d731) rfl (by decide) (by decide) ?_
  intro h5 K5 C5 V5
  have z5 := C5.2.1
  rw [pre_list] at V5
  refine vA 32 d732 ?_
  exact gretA hx hret rfl rfl (hb hby d733) (by decide) (by decide) (fun vq Cq => ⟨b2, k2, rfl, (((Keep.refl h0 []).ext E2).trans K5 (allS (Or.inr (by omega)) all0)), (by omega), V5⟩)
theorem d735 : Dc y56_ 0 (.iload_n 1) 1 := by decide +kernel
theorem d736 : Dc y56_ 1 (.ifCond .ne 9) 3 := by decide +kernel
theorem d737 : Dc y56_ 4 (.iload_n 2) 1 := by decide +kernel
theorem d738 : Dc y56_ 5 (.aload_n 0) 1 := by decide +kernel
theorem d739 : Dc y56_ 6 (.arraylength) 1 := by decide +kernel
theorem d740 : Dc y56_ 7 (.if_icmp .eq 10) 3 := by decide +kernel
theorem d741 : Dc y56_ 10 (.aload_n 0) 1 := by decide +kernel
theorem d742 : Dc y56_ 11 (.iload_n 1) 1 := by decide +kernel
theorem d743 : Dc y56_ 12 (.iload_n 2) 1 := by decide +kernel
theorem d744 : Dc y56_ 13 (.invokestatic 339) 3 := by decide +kernel
theorem own_pd745 : parseMethodDescriptor "([BII)[B" = some ⟨[(.array .byte), .int, .int], some (.array .byte)⟩ := by decide +kernel
theorem d746 : Dc y56_ 16 (.areturn) 1 := by decide +kernel
abbrev mn747 : MethodName := ⟨"java/util/Arrays", "copyOfRange", "([BII)[B"⟩
theorem own_cor {l : Launch} {Z : State} {a0 : Array Value} (cx : Ctx Z a0) (a : Addr) (ka : ClassId) (cs : List Int32) (zs : List Value) (cap : Nat) (vm0 : Vm) (h0 : Heap) (X00 : Ext Z.heap h0) (P0 : Arv Z h0 a ka .byte (Int32.ofNat cap) (lo8s cs ++ zs) (.int (0 : Int32))) (hz : (cs.length + zs.length = cap)) (hlt : (cs.length < cap)) (h32 : (cs.length ≤ 32)) (hcap : (cap ≤ 4000)) :
    Met l mn747 y56_ 3 (some (.array .byte)) [] (Rm 2 1 32 34) Z consts_1 vm0 h0 #[(.ref a), (.int (0 : Int32)), (.int (Int32.ofNat cs.length))] (fun rv vm h => ∃ (r : Addr), ∃ (kb : ClassId), rv = some (.ref r) ∧ Keep h0 h [] ∧ h0.size ≤ r ∧ Arv Z h r kb .byte (Int32.ofNat cs.length) (lo8s cs) (.int (0 : Int32))) := by
  have hw := cx.1
  refine Met.of_walk (a0 := a0) #[vr a, vi (0 : Int32), vi (Int32.ofNat cs.length)] (plainFor_of_name own_pn331) X00 cx.2.1 (fun _ => rfl) ?_
  intro p e s m below meth c vm hx hby hml hret hnm hC0 hW0
  have lt_a : h0.size > a := P0.lt
  refine vIN 1 d735 ?_
  refine vN 4 d736 ((if0 _ _).trans (teq (by decide)).2) ?_
  refine vIN 5 d737 ?_
  refine vAN 6 d738 ?_
  refine glen hx P0 7 (hb hby d739) rfl ?_
  refine vNc 10 d740 (feq (fun q => absurd ((eqOf (by omega) hcap).mp q) (by omega))).1 ?_
  refine vAN 11 d741 ?_
  refine vIN 12 d742 ?_
  refine vIN 13 d743 ?_
  refine gmS (y := mn734) (oz hw 298) (oz hw 299) (oz hw 300) (oz hw 296) (fun O => own_corb cx a ka cs zs cap vm h0 O P0 (by first | assumption | decide | omega) (by first | assumption | decide | omega) (by first | assumption | decide | omega) (by first | assumption | decide | omega)) 16 (argsL := [(.ref a), (.int (0 : Int32)), (.int (Int32.ofNat cs.length))]) (rest := []) own_pd745 d744 ?_
  rintro _ vm1 h1 C1 z1 ⟨r1, kb1, rfl, K1, q1_0, q1_1⟩
  have lt_r1 : h1.size > r1 := q1_1.lt
  refine gat1 ?_
  exact gretA hx hret rfl rfl (hb hby d746) (by decide) (by decide) (fun vq Cq => ⟨r1, kb1, rfl, ((Keep.refl h0 []).trans K1 all0), (by omega), q1_1⟩)
theorem d748 : Dc y23_ 0 (.aload_n 0) 1 := by decide +kernel
theorem d749 : Dc y23_ 1 (.invokespecial 1) 3 := by decide +kernel
theorem d750 : Dc y23_ 4 (.aload_n 1) 1 := by decide +kernel
theorem d751 : Dc y23_ 5 (.invokevirtual 552) 3 := by decide +kernel
theorem own_pd752 : parseMethodDescriptor "()[B" = some ⟨[], some (.array .byte)⟩ := by decide +kernel
theorem d753 : Dc y23_ 8 (.astore_n 3) 1 := by decide +kernel
theorem d754 : Dc y23_ 9 (.aload_n 1) 1 := by decide +kernel
theorem d755 : Dc y23_ 10 (.invokevirtual 549) 3 := by decide +kernel
theorem d756 : Dc y23_ 13 (.istore 4) 2 := by decide +kernel
theorem d757 : Dc y23_ 15 (.aload_n 1) 1 := by decide +kernel
theorem d758 : Dc y23_ 16 (.invokevirtual 1047) 3 := by decide +kernel
theorem d759 : Dc y23_ 19 (.ifCond .eq 22) 3 := by decide +kernel
theorem d760 : Dc y23_ 22 (.aload_n 0) 1 := by decide +kernel
theorem d761 : Dc y23_ 23 (.iconst 0) 1 := by decide +kernel
theorem d762 : Dc y23_ 24 (.putfield 15) 3 := by decide +kernel
theorem d763 : Dc y23_ 27 (.aload_n 0) 1 := by decide +kernel
theorem d764 : Dc y23_ 28 (.aload_n 3) 1 := by decide +kernel
theorem d765 : Dc y23_ 29 (.iconst 0) 1 := by decide +kernel
theorem d766 : Dc y23_ 30 (.iload 4) 2 := by decide +kernel
theorem d767 : Dc y23_ 32 (.invokestatic 54) 3 := by decide +kernel
theorem d768 : Dc y23_ 35 (.putfield 9) 3 := by decide +kernel
theorem d769 : Dc y23_ 38 (.goto 59) 3 := by decide +kernel
theorem d770 : Dc y23_ 97 (.return_) 1 := by decide +kernel
abbrev mn771 : MethodName := ⟨"java/lang/String", "<init>", "(Ljava/lang/AbstractStringBuilder;Ljava/lang/Void;)V"⟩
theorem own_sinit5 {l : Launch} {Z : State} {a0 : Array Value} (cx : Ctx Z a0) (x b : Addr) (v0 c0 : Value) (v : Addr) (cap : Nat) (cs : List Int32) (vm0 : Vm) (h0 : Heap) (X00 : Ext Z.heap h0) (P0 : Exa Z h0 x c13_) (P1 : Fld Z h0 x c13_ "value" "[B" v0) (P2 : Fld Z h0 x c13_ "coder" "B" c0) (P3 : Z.heap.size ≤ x) (P4 : Safe Z consts_1 vm0 h0 x) (P5 : SBd Z h0 b v cap cs) (hlt : (cs.length < cap)) (h32 : (cs.length ≤ 32)) :
    Met l mn771 y23_ 5 none [] (Rm 3 1 32 49) Z consts_1 vm0 h0 #[(.ref x), (.ref b), .null] (fun rv vm h => ∃ (t : Addr), rv = none ∧ Keep h0 h [x] ∧ h0.size ≤ t ∧ Str Z h x t cs ∧ Safe Z consts_1 vm h x) := by
  have hw := cx.1
  refine Met.of_walk (a0 := a0) #[vr x, vr b, .val .null, un, un] (plainFor_of_name own_pn17) X00 cx.2.1 (fun _ => rfl) ?_
  intro p e s m below meth c vm hx hby hml hret hnm hC0 hW0
  have lt_x : h0.size > x := P0.lt
  have L4 := hC0.safe lt_x P4
  have lt_v : h0.size > v := P5.vlt
  have lt_b : h0.size > b := P5.1.lt
  refine vAN 1 d748 ?_
  refine ginitO hx (oz hw 15) (oz hw 16) (oz hw 17) 4 (W := 0) (Nat.le_of_eq rfl) (by rw [hml]; rfl) (hb hby d749) rfl (by decide) (by decide) ?_
  obtain ⟨eE, eV, eC, eN, ⟨kz, zs, eA, ez⟩, eb, ecap⟩ := P5
  refine vAN 5 d750 ?_
  refine gmV (y := mn688) (z := mn688) (oz hw 276) (oz hw 277) (nfSel (oz hw 279)) (oz hw 279) (oz hw 278) (oz hw 280) (oz hw 152) (fun O => own_getValue cx b v vm h0 O eV) 8 (argsL := []) (rest := []) eE own_pd752 d751 ?_
  rintro _ vm2 h2 C2 z2 ⟨rfl, rfl⟩
  refine gat1 ?_
  refine vSAN 9 #[vr x, vr b, .val .null, vr v, un] d753 ?_
  refine vAN 10 d754 ?_
  refine gmV (y := mn692) (z := mn696) (oz hw 281) (oz hw 282) (nfSame (y' := mn650) (oz hw 188) (oz hw 186) rfl) (oz hw 284) (oz hw 285) (oz hw 286) (oz hw 144) (fun O => own_sblen cx b ((Int32.ofNat (cs).length)) vm2 h0 O eE eN) 13 (argsL := []) (rest := []) eE own_pd139 d755 ?_
  rintro _ vm3 h3 C3 z3 ⟨rfl, rfl⟩
  refine gat1 ?_
  refine vSI 15 #[vr x, vr b, .val .null, vr v, vi (Int32.ofNat (cs).length)] d756 ?_
  refine vAN 16 d757 ?_
  refine gmV (y := mn705) (z := mn705) (oz hw 289) (oz hw 290) (nfSel (oz hw 292)) (oz hw 292) (oz hw 291) (oz hw 293) (oz hw 152) (fun O => own_asblat cx b vm3 h0 O eC) 19 (argsL := []) (rest := []) eE own_pd43 d758 ?_
  rintro _ vm4 h4 C4 z4 ⟨rfl, rfl⟩
  refine gat1 ?_
  refine vN 22 d759 ((if0 _ _).trans (feq (by decide)).1) ?_
  refine vAN 23 d760 ?_
  refine vKc 24 (0 : Int32) d761 ?_
  have f5 := (C4.sf (C3.sf (C2.sf L4)))
  refine gputF (host := "") hx (Or.inl (oz hw 30)) Via.refl P2 P0 (Or.inr ⟨(oz hw 31), rfl, hnm⟩) (oz hw 5) (ty := .byte) (by decide) rfl rfl P3 (fun _ => f5) 27 (hb hby d762) rfl ?_
  intro h6 W6 C6
  have z6 := C6.2.1
  have F6 := P2.same W6
  refine vAN 28 d763 ?_
  refine vAN 29 d764 ?_
  refine vKc 30 (0 : Int32) d765 ?_
  refine vI 32 d766 ?_
  have f8 := (eA.other W6 (Ne.symm (Exa.neArv P0 eA (oz hw 5))))
  refine gmS (y := mn747) (oz hw 294) (oz hw 295) (oz hw 297) (oz hw 296) (fun O => own_cor cx v kz cs zs cap vm4 h6 O f8 ez (by first | assumption | decide | omega) (by first | assumption | decide | omega) ecap) 35 (argsL := [(.ref v), (.int (0 : Int32)), (.int (Int32.ofNat (cs).length))]) (rest := [(.ref x)]) own_pd745 d767 ?_
  rintro _ vm7 h7 C7 z7 ⟨r7, kb7, rfl, K7, q7_0, q7_1⟩
  have lt_r7 : h7.size > r7 := q7_1.lt
  refine gat1 ?_
  have f9 := ((P1.other W6 (Or.inr (slot_ne (Or.inr (oz hw 33)) (Or.inr (oz hw 31)) (by decide) (t := (.array .byte)) (t' := .byte) (by decide) (by decide)))).keep K7 nin0)
  have f10 := ((P0.wr W6).keep K7)
  have f11 := (C7.sf (C6.sf f5))
  refine gputF (host := "") hx (Or.inl (oz hw 32)) Via.refl f9 f10 (Or.inr ⟨(oz hw 33), rfl, hnm⟩) (oz hw 5) (ty := (.array .byte)) (by decide) rfl rfl P3 (fun _ => f11) 38 (hb hby d768) rfl ?_
  intro h12 W12 C12
  have z12 := C12.2.1
  have F12 := f9.same W12
  refine vG 97 d769 ?_
  have f13 := (f10.wr W12)
  have f14 := ((F6.keep K7 nin0).other W12 (Or.inr (slot_ne (Or.inr (oz hw 31)) (Or.inr (oz hw 33)) (by decide) (t := .byte) (t' := (.array .byte)) (by decide) (by decide))))
  have f15 := (q7_1.other W12 (Nat.ne_of_gt (by omega)))
  have f17 := (C12.sf f11)
  exact gretV hx hret (hb hby d770) (by decide) (by decide) (fun vq Cq => ⟨r7, rfl, ((((Keep.refl h0 [x]).wr W6 (Or.inl (List.mem_of_getElem? (i := 0) rfl))).trans K7 all0).wr W12 (Or.inl (List.mem_of_getElem? (i := 0) rfl))), (by omega), ⟨f13, f14, F12, ⟨_, f15⟩, eb, by omega⟩, (Cq.sf f17)⟩)
theorem d772 : Dc y27_ 0 (.aload_n 0) 1 := by decide +kernel
theorem d773 : Dc y27_ 1 (.aload_n 1) 1 := by decide +kernel
theorem d774 : Dc y27_ 2 (.aconst_null) 1 := by decide +kernel
theorem d775 : Dc y27_ 3 (.invokespecial 489) 3 := by decide +kernel
theorem own_pd776 : parseMethodDescriptor "(Ljava/lang/AbstractStringBuilder;Ljava/lang/Void;)V" = some ⟨[(.object "java/lang/AbstractStringBuilder"), (.object "java/lang/Void")], none⟩ := by decide +kernel
theorem d777 : Dc y27_ 6 (.return_) 1 := by decide +kernel
abbrev mn778 : MethodName := ⟨"java/lang/String", "<init>", "(Ljava/lang/StringBuilder;)V"⟩
theorem own_sinit3 {l : Launch} {Z : State} {a0 : Array Value} (cx : Ctx Z a0) (x b : Addr) (v0 c0 : Value) (v : Addr) (cap : Nat) (cs : List Int32) (vm0 : Vm) (h0 : Heap) (X00 : Ext Z.heap h0) (P0 : Exa Z h0 x c13_) (P1 : Fld Z h0 x c13_ "value" "[B" v0) (P2 : Fld Z h0 x c13_ "coder" "B" c0) (P3 : Z.heap.size ≤ x) (P4 : Safe Z consts_1 vm0 h0 x) (P5 : SBd Z h0 b v cap cs) (hlt : (cs.length < cap)) (h32 : (cs.length ≤ 32)) :
    Met l mn778 y27_ 2 none [] (Rm 4 1 32 65) Z consts_1 vm0 h0 #[(.ref x), (.ref b)] (fun rv vm h => ∃ (t : Addr), rv = none ∧ Keep h0 h [x] ∧ h0.size ≤ t ∧ Str Z h x t cs ∧ Safe Z consts_1 vm h x) := by
  have hw := cx.1
  refine Met.of_walk (a0 := a0) #[vr x, vr b] (plainFor_of_name own_pn17) X00 cx.2.1 (fun _ => rfl) ?_
  intro p e s m below meth c vm hx hby hml hret hnm hC0 hW0
  have lt_x : h0.size > x := P0.lt
  have L4 := hC0.safe lt_x P4
  have lt_v : h0.size > v := P5.vlt
  have lt_b : h0.size > b := P5.1.lt
  refine vAN 1 d772 ?_
  refine vAN 2 d773 ?_
  refine vU 3 d774 ?_
  refine gmI (y := mn771) rfl (oz hw 273) (oz hw 274) (oz hw 275) (oz hw 6) (fun O => own_sinit5 cx x b v0 c0 v cap cs vm h0 O P0 P1 P2 P3 L4 P5 (by first | assumption | decide | omega) (by first | assumption | decide | omega)) 6 (argsL := [(.ref b), .null]) (rest := []) (a := x) own_pd776 d775 ?_
  rintro _ vm1 h1 C1 z1 ⟨t1, rfl, K1, q1_0, q1_1, q1_2⟩
  have lt_t1 : h1.size > t1 := q1_1.tlt
  refine gat0 ?_
  exact gretV hx hret (hb hby d777) (by decide) (by decide) (fun vq Cq => ⟨t1, rfl, ((Keep.refl h0 [x]).trans K1 (allS (Or.inl (List.mem_of_getElem? (i := 0) rfl)) all0)), (by omega), q1_1, (Cq.sf q1_2)⟩)
theorem d779 : Dc y60_ 0 (.new 18) 3 := by decide +kernel
theorem d780 : Dc y60_ 3 (.dup) 1 := by decide +kernel
theorem d781 : Dc y60_ 4 (.aload_n 0) 1 := by decide +kernel
theorem d782 : Dc y60_ 5 (.invokespecial 137) 3 := by decide +kernel
theorem own_pd783 : parseMethodDescriptor "(Ljava/lang/StringBuilder;)V" = some ⟨[(.object "java/lang/StringBuilder")], none⟩ := by decide +kernel
theorem d784 : Dc y60_ 8 (.areturn) 1 := by decide +kernel
abbrev mn785 : MethodName := ⟨"java/lang/StringBuilder", "toString", "()Ljava/lang/String;"⟩
theorem own_sbtostring {l : Launch} {Z : State} {a0 : Array Value} (cx : Ctx Z a0) (b v : Addr) (cap : Nat) (cs : List Int32) (vm0 : Vm) (h0 : Heap) (X00 : Ext Z.heap h0) (P0 : SBd Z h0 b v cap cs) (hlt : (cs.length < cap)) (h32 : (cs.length ≤ 32)) :
    Met l mn785 y60_ 1 (some (.object c13_)) [] (Rm 5 2 36 79) Z consts_1 vm0 h0 #[(.ref b)] (fun rv vm h => ∃ (r : Addr), ∃ (t : Addr), rv = some (.ref r) ∧ Keep h0 h [] ∧ h0.size ≤ r ∧ h0.size ≤ t ∧ Str Z h r t cs) := by
  have hw := cx.1
  refine Met.of_walk (a0 := a0) #[vr b] (plainFor_of_name own_pn596) X00 cx.2.1 (fun _ => rfl) ?_
  intro p e s m below meth c vm hx hby hml hret hnm hC0 hW0
  have lt_v : h0.size > v := P0.vlt
  have lt_b : h0.size > b := P0.1.lt
  have eE := P0.1
  refine gnewO hx (oz hw 269) (oz hw 5) (oz hw 6) 3 (hb hby d779) rfl (by decide) (by decide) ?_
  intro b1 h1 g1 E1 C1 A1 D1 n1 L1
  have z1 := C1.2.1
  have lt_b1 : h1.size > b1 := A1.lt
  have F1_coder : Fld Z h1 b1 c13_ "coder" "B" (.int (0 : Int32)) := D1 (Or.inr (oz hw 31)) (ty := .byte) (by decide)
  have F1_value : Fld Z h1 b1 c13_ "value" "[B" .null := D1 (Or.inr (oz hw 33)) (ty := (.array .byte)) (by decide)
  refine vD 4 d780 ?_
  refine vAN 5 d781 ?_
  have f3 := (P0.ext E1)
  refine gmI (y := mn778) rfl (oz hw 270) (oz hw 271) (oz hw 272) (oz hw 6) (fun O => own_sinit3 cx b1 b (.null) ((.int (0 : Int32))) v cap cs vm h1 O A1 F1_value F1_coder n1 L1 f3 (by first | assumption | decide | omega) (by first | assumption | decide | omega)) 8 (argsL := [(.ref b)]) (rest := [(.ref b1)]) (a := b1) own_pd783 d782 ?_
  rintro _ vm2 h2 C2 z2 ⟨t2, rfl, K2, q2_0, q2_1, q2_2⟩
  have lt_t2 : h2.size > t2 := q2_1.tlt
  refine gat0 ?_
  exact gretA hx hret rfl rfl (hb hby d784) (by decide) (by decide) (fun vq Cq => ⟨b1, t2, rfl, (((Keep.refl h0 []).ext E1).trans K2 (allS (Or.inr (by omega)) all0)), (by omega), (by omega), q2_1⟩)
def own_fst (x : Int32) : Int32 := (33 : Int32) + ((x &&& (255 : Int32)) % (223 : Int32))
def own_snd (x : Int32) : Int32 := ((x.toUInt32 >>> ((8 : Int32) &&& 31).toUInt32).toInt32) &&& (255 : Int32)
def own_tl (k x : Int32) : List Int32 := if k = (1 : Int32) then [] else [own_snd x]
theorem own_fstB (x : Int32) : B8 (own_fst x) ∧ ¬ own_fst x < (33 : Int32) := by
  have h := c_mask x 255 8 (by decide) (by decide)
  have m := (c_irem (x &&& 255) 223 223 rfl).1 (by omega)
  have e0 : (0 : Int32).toInt = 0 := rfl
  have e1 : (255 : Int32).toInt = 255 := rfl
  have e3 : (33 : Int32).toInt = 33 := rfl
  have s := c_iadd 33 ((x &&& 255) % 223)
  have r := rng32 (33 + ((x &&& 255) % 223))
  rw [e3, m] at s
  unfold own_fst B8
  simp only [Int32.lt_iff_toInt_lt, e0, e1, e3]
  omega
theorem own_sndB (x : Int32) : B8 (own_snd x) := b255 _
theorem own_narf (x : Int32) : nar .char (own_fst x) = own_fst x := own_b8c (own_fstB x).1
theorem own_nars (x : Int32) : nar .char (own_snd x) = own_snd x := narC _
theorem own_hpos (k x : Int32) : (0 : Int32) < Int32.ofNat (own_fst x :: own_tl k x).length := by
  unfold own_tl
  split
  · exact (by decide : (0 : Int32) < (1 : Int32))
  · exact (by decide : (0 : Int32) < (2 : Int32))
theorem own_tll (k x : Int32) : (own_tl k x).length ≤ 1 := by unfold own_tl; split <;> simp
theorem own_addo {a : Nat} (h2 : a ≤ 3999) : Int32.ofNat a + (1 : Int32) = Int32.ofNat (a + 1) := addOf (b := 1) (by omega)
theorem own_putc {cs : List Int32} {zs : List Value} {c : Int32} (h : 0 < zs.length) : (lo8s cs ++ zs).set cs.length (.int (c.toInt8.toInt32)) = lo8s (cs ++ [c]) ++ zs.drop 1 := by
  obtain ⟨z, zr, rfl⟩ : ∃ z zr, zs = z :: zr := by cases zs with | nil => simp at h | cons z zr => exact ⟨z, zr, rfl⟩
  rw [List.set_append_right _ _ (by rw [lo8s_len]; exact Nat.le_refl _), lo8s_len, Nat.sub_self, lo8s_app, List.append_assoc]; rfl
theorem d786 : Dc y73_ 0 (.bipush 33) 2 := by decide +kernel
theorem d787 : Dc y73_ 2 (.iload_n 0) 1 := by decide +kernel
theorem d788 : Dc y73_ 3 (.sipush 255) 3 := by decide +kernel
theorem d789 : Dc y73_ 6 (.iand) 1 := by decide +kernel
theorem d790 : Dc y73_ 7 (.sipush 223) 3 := by decide +kernel
theorem d791 : Dc y73_ 10 (.irem) 1 := by decide +kernel
theorem d792 : Dc y73_ 11 (.iadd) 1 := by decide +kernel
theorem d793 : Dc y73_ 12 (.i2c) 1 := by decide +kernel
theorem d794 : Dc y73_ 13 (.istore_n 2) 1 := by decide +kernel
theorem d795 : Dc y73_ 14 (.iload_n 0) 1 := by decide +kernel
theorem d796 : Dc y73_ 15 (.bipush 8) 2 := by decide +kernel
theorem d797 : Dc y73_ 17 (.iushr) 1 := by decide +kernel
theorem d798 : Dc y73_ 18 (.sipush 255) 3 := by decide +kernel
theorem d799 : Dc y73_ 21 (.iand) 1 := by decide +kernel
theorem d800 : Dc y73_ 22 (.i2c) 1 := by decide +kernel
theorem d801 : Dc y73_ 23 (.istore_n 3) 1 := by decide +kernel
theorem d802 : Dc y73_ 24 (.iload_n 1) 1 := by decide +kernel
theorem d803 : Dc y73_ 25 (.iconst 1) 1 := by decide +kernel
theorem d804 : Dc y73_ 26 (.if_icmp .ne 18) 3 := by decide +kernel
theorem d805 : Dc y73_ 29 (.new 7) 3 := by decide +kernel
theorem d806 : Dc y73_ 32 (.dup) 1 := by decide +kernel
theorem d807 : Dc y73_ 33 (.iconst 1) 1 := by decide +kernel
theorem d808 : Dc y73_ 34 (.newarray .char) 2 := by decide +kernel
theorem d809 : Dc y73_ 36 (.dup) 1 := by decide +kernel
theorem d810 : Dc y73_ 37 (.iconst 0) 1 := by decide +kernel
theorem d811 : Dc y73_ 38 (.iload_n 2) 1 := by decide +kernel
theorem d812 : Dc y73_ 39 (.castore) 1 := by decide +kernel
theorem d813 : Dc y73_ 40 (.invokespecial 9) 3 := by decide +kernel
theorem own_pd814 : parseMethodDescriptor "([C)V" = some ⟨[(.array .char)], none⟩ := by decide +kernel
abbrev mn815 : MethodName := ⟨"java/lang/String", "<init>", "([C)V"⟩
theorem d816 : Dc y73_ 43 (.areturn) 1 := by decide +kernel
theorem d817 : Dc y73_ 44 (.new 7) 3 := by decide +kernel
theorem d818 : Dc y73_ 47 (.dup) 1 := by decide +kernel
theorem d819 : Dc y73_ 48 (.iconst 2) 1 := by decide +kernel
theorem d820 : Dc y73_ 49 (.newarray .char) 2 := by decide +kernel
theorem d821 : Dc y73_ 51 (.dup) 1 := by decide +kernel
theorem d822 : Dc y73_ 52 (.iconst 0) 1 := by decide +kernel
theorem d823 : Dc y73_ 53 (.iload_n 2) 1 := by decide +kernel
theorem d824 : Dc y73_ 54 (.castore) 1 := by decide +kernel
theorem d825 : Dc y73_ 55 (.dup) 1 := by decide +kernel
theorem d826 : Dc y73_ 56 (.iconst 1) 1 := by decide +kernel
theorem d827 : Dc y73_ 57 (.iload_n 3) 1 := by decide +kernel
theorem d828 : Dc y73_ 58 (.castore) 1 := by decide +kernel
theorem d829 : Dc y73_ 59 (.invokespecial 9) 3 := by decide +kernel
theorem d830 : Dc y73_ 62 (.areturn) 1 := by decide +kernel
abbrev mn831 : MethodName := ⟨"com/example/headings_from_text/headingsfromtext/vocabulary/ConceptToStringPinLaw", "mk", "(II)Ljava/lang/String;"⟩
theorem own_pn832 : plainName "com/example/headings_from_text/headingsfromtext/vocabulary/ConceptToStringPinLaw" = true := by first | (simp [plainName, overriddenIn]; done) | decide +kernel
theorem own_mk {l : Launch} {Z : State} {a0 : Array Value} (cx : Ctx Z a0) (x k : Int32) (vm0 : Vm) (h0 : Heap) (X00 : Ext Z.heap h0)  :
    Met l mn831 y73_ 4 (some (.object c13_)) [] (Rm 4 3 8 66) Z consts_1 vm0 h0 #[(.int x), (.int k)] (fun rv vm h => ∃ (r : Addr), ∃ (t : Addr), rv = some (.ref r) ∧ Keep h0 h [] ∧ h0.size ≤ r ∧ Str Z h r t ((own_fst x) :: (own_tl k x))) := by
  obtain ⟨hw, hEL, ⟨zc, Scs, hzc⟩, ⟨fm, Sfm, hfm⟩, hL0, hB0⟩ := id cx
  refine Met.of_walk (a0 := a0) #[vi x, vi k, un, un] (plainFor_of_name own_pn832) X00 hEL (fun _ => rfl) ?_
  intro p e s m below meth c vm hx hby hml hret hnm hC0 hW0
  refine vKb 2 (33 : Int32) d786 ?_
  refine vIN 3 d787 ?_
  refine vKs 6 (255 : Int32) d788 ?_
  refine viand 7 (x &&& (255 : Int32)) d789 ?_
  refine vKs 10 (223 : Int32) d790 ?_
  refine gx (mkF m 11 #[vi x, vi k, un, un] [(.int ((x &&& (255 : Int32)) % (223 : Int32))), (.int (33 : Int32))]) (fun T locs X _ _ _ _ kq => iremM X hx rfl (hb hby d791) rfl (by decide) kq) ?_
  refine viadd 12 ((33 : Int32) + ((x &&& (255 : Int32)) % (223 : Int32))) d792 ?_
  refine gi2c hx (own_narf _) 13 (hb hby d793) rfl ?_
  refine vSIN 14 #[vi x, vi k, vi (own_fst x), un] d794 ?_
  refine vIN 15 d795 ?_
  refine vKb 17 (8 : Int32) d796 ?_
  refine gs (mkF m 18 #[vi x, vi k, vi (own_fst x), un] [(.int ((x.toUInt32 >>> ((8 : Int32) &&& 31).toUInt32).toInt32))]) (fun _ _ A kq => XS.iushr A hx rfl (hb hby d797) rfl kq) ?_
  refine vKs 21 (255 : Int32) d798 ?_
  refine viand 22 (((x.toUInt32 >>> ((8 : Int32) &&& 31).toUInt32).toInt32) &&& (255 : Int32)) d799 ?_
  refine gi2c hx (own_nars _) 23 (hb hby d800) rfl ?_
  refine vSIN 24 #[vi x, vi k, vi (own_fst x), vi (own_snd x)] d801 ?_
  refine vIN 25 d802 ?_
  refine vKc 26 (1 : Int32) d803 ?_
  by_cases e1 : k = (1 : Int32)
  · refine vNc 29 d804 (teq e1).2 ?_
    refine gnewO hx (oz hw 4) (oz hw 5) (oz hw 6) 32 (hb hby d805) rfl (by decide) (by decide) ?_
    intro b1 h1 g1 E1 C1 A1 D1 n1 L1
    have z1 := C1.2.1
    have lt_b1 : h1.size > b1 := A1.lt
    have F1_coder : Fld Z h1 b1 c13_ "coder" "B" (.int (0 : Int32)) := D1 (Or.inr (oz hw 31)) (ty := .byte) (by decide)
    have F1_value : Fld Z h1 b1 c13_ "value" "[B" .null := D1 (Or.inr (oz hw 33)) (ty := (.array .byte)) (by decide)
    refine vD 33 d806 ?_
    refine vKc 34 (1 : Int32) d807 ?_
    refine gnewPE hx (oz hw 7) (n := (1 : Int32)) (by decide) (cap := 1) (by decide) (by decide) (ad := "[C") (by decide) 36 (hb hby d808) rfl (by decide) (by decide) ?_
    intro b2 h2 k2 g2 E2 C2 V2 A2 n2 L2
    have z2 := C2.2.1
    have V2 : Arv Z h2 b2 k2 .char (1 : Int32) [(.int (0 : Int32))] (.int (0 : Int32)) := V2.pad (pad_rep [] (.int (0 : Int32)) 1)
    have lt_b2 : h2.size > b2 := V2.lt
    refine vD 37 d809 ?_
    refine vKc 38 (0 : Int32) d810 ?_
    refine vIN 39 d811 ?_
    refine gstC hx V2 ⟨by decide, by decide⟩ (i := 0) rfl (Nat.le_of_ble_eq_true rfl) (y := (own_fst x)) (own_narf _) n2 40 (hb hby d812) rfl ?_
    intro h3 W3 C3 V3
    have z3 := C3.2.1
    replace V3 : Arv Z h3 b2 k2 .char (1 : Int32) [(.int (own_fst x))] (.int (0 : Int32)) := V3
    have f5 := ((A1.ext E2).wr W3)
    have f6 := ((F1_value.ext E2).other W3 (Or.inl (Nat.ne_of_lt (by omega))))
    have f7 := ((F1_coder.ext E2).other W3 (Or.inl (Nat.ne_of_lt (by omega))))
    have f8 := (C3.sf (C2.sf L1))
    refine ginfo fun _ _ O4 => ?_
    refine gcallI (y := mn815) hx rfl (oz hw 8) (oz hw 9) (oz hw 10) (by decide) (fun hZ H hEL => own_payNew (W := 1) (own_wNew hw) (oz hw 5) Scs hzc O4 (cs := [(own_fst x)]) (n := 1) n1 f5 f6 f7 V3 rfl rfl (by decide) (by decide) (bcons (own_fstB x).1 bnil) f8 (by decide) (by decide) hZ H hEL) (a := b1) 43 (argsL := [(.ref b2)]) (rest := [(.ref b1)]) (lenOf own_pd814 rfl) rfl rfl (Nat.le_of_eq rfl) (by rw [hml]; rfl) (hb hby d813) rfl (by decide) (by decide) ?_
    rintro _ vm4 h4 C4 ⟨t4, rfl, K4, g4, S4⟩
    have z4 := C4.2.1
    have lt_t4 : h4.size > t4 := S4.tlt
    refine gat0 ?_
    exact gretA hx hret rfl rfl (hb hby d816) (by decide) (by decide) (fun vq Cq => ⟨b1, t4, rfl, (((((Keep.refl h0 []).ext E1).ext E2).wr W3 (Or.inr (by omega))).trans K4 (allS (Or.inr (by omega)) all0)), (by omega), (by rw [own_tl, if_pos e1]; exact S4)⟩)
  · refine vYc 44 d804 (feq e1).2 ?_
    refine gnewO hx (oz hw 4) (oz hw 5) (oz hw 6) 47 (hb hby d817) rfl (by decide) (by decide) ?_
    intro b10 h10 g10 E10 C10 A10 D10 n10 L10
    have z10 := C10.2.1
    have lt_b10 : h10.size > b10 := A10.lt
    have F10_coder : Fld Z h10 b10 c13_ "coder" "B" (.int (0 : Int32)) := D10 (Or.inr (oz hw 31)) (ty := .byte) (by decide)
    have F10_value : Fld Z h10 b10 c13_ "value" "[B" .null := D10 (Or.inr (oz hw 33)) (ty := (.array .byte)) (by decide)
    refine vD 48 d818 ?_
    refine vKc 49 (2 : Int32) d819 ?_
    refine gnewPE hx (oz hw 7) (n := (2 : Int32)) (by decide) (cap := 2) (by decide) (by decide) (ad := "[C") (by decide) 51 (hb hby d820) rfl (by decide) (by decide) ?_
    intro b11 h11 k11 g11 E11 C11 V11 A11 n11 L11
    have z11 := C11.2.1
    have V11 : Arv Z h11 b11 k11 .char (2 : Int32) [(.int (0 : Int32)), (.int (0 : Int32))] (.int (0 : Int32)) := V11.pad (pad_rep [] (.int (0 : Int32)) 2)
    have lt_b11 : h11.size > b11 := V11.lt
    refine vD 52 d821 ?_
    refine vKc 53 (0 : Int32) d822 ?_
    refine vIN 54 d823 ?_
    refine gstC hx V11 ⟨by decide, by decide⟩ (i := 0) rfl (Nat.le_of_ble_eq_true rfl) (y := (own_fst x)) (own_narf _) n11 55 (hb hby d824) rfl ?_
    intro h12 W12 C12 V12
    have z12 := C12.2.1
    replace V12 : Arv Z h12 b11 k11 .char (2 : Int32) [(.int (own_fst x)), (.int (0 : Int32))] (.int (0 : Int32)) := V12
    refine vD 56 d825 ?_
    refine vKc 57 (1 : Int32) d826 ?_
    refine vIN 58 d827 ?_
    refine gstC hx V12 ⟨by decide, by decide⟩ (i := 1) rfl (Nat.le_of_ble_eq_true rfl) (y := (own_snd x)) (own_nars _) n11 59 (hb hby d828) rfl ?_
    intro h13 W13 C13 V13
    have z13 := C13.2.1
    replace V13 : Arv Z h13 b11 k11 .char (2 : Int32) [(.int (own_fst x)), (.int (own_snd x))] (.int (0 : Int32)) := V13
    have f15 := (((A10.ext E11).wr W12).wr W13)
    have f16 := (((F10_value.ext E11).other W12 (Or.inl (Nat.ne_of_lt (by omega)))).other W13 (Or.inl (Nat.ne_of_lt (by omega))))
    have f17 := (((F10_coder.ext E11).other W12 (Or.inl (Nat.ne_of_lt (by omega)))).other W13 (Or.inl (Nat.ne_of_lt (by omega))))
    have f18 := (C13.sf (C12.sf (C11.sf L10)))
    refine ginfo fun _ _ O14 => ?_
    refine gcallI (y := mn815) hx rfl (oz hw 8) (oz hw 9) (oz hw 10) (by decide) (fun hZ H hEL => own_payNew (W := 1) (own_wNew hw) (oz hw 5) Scs hzc O14 (cs := [(own_fst x), (own_snd x)]) (n := 2) n10 f15 f16 f17 V13 rfl rfl (by decide) (by decide) (bcons (own_fstB x).1 (bcons (own_sndB x) bnil)) f18 (by decide) (by decide) hZ H hEL) (a := b10) 62 (argsL := [(.ref b11)]) (rest := [(.ref b10)]) (lenOf own_pd814 rfl) rfl rfl (Nat.le_of_eq rfl) (by rw [hml]; rfl) (hb hby d829) rfl (by decide) (by decide) ?_
    rintro _ vm14 h14 C14 ⟨t14, rfl, K14, g14, S14⟩
    have z14 := C14.2.1
    have lt_t14 : h14.size > t14 := S14.tlt
    refine gat0 ?_
    exact gretA hx hret rfl rfl (hb hby d830) (by decide) (by decide) (fun vq Cq => ⟨b10, t14, rfl, ((((((Keep.refl h0 []).ext E10).ext E11).wr W12 (Or.inr (by omega))).wr W13 (Or.inr (by omega))).trans K14 (allS (Or.inr (by omega)) all0)), (by omega), (by rw [own_tl, if_neg e1]; exact S14)⟩)
theorem d833 : Dc y32_ 0 (.iload_n 0) 1 := by decide +kernel
theorem d834 : Dc y32_ 1 (.sipush 255) 3 := by decide +kernel
theorem d835 : Dc y32_ 4 (.if_icmp .gt 7) 3 := by decide +kernel
theorem d836 : Dc y32_ 7 (.iconst 1) 1 := by decide +kernel
theorem d837 : Dc y32_ 8 (.goto 4) 3 := by decide +kernel
theorem d838 : Dc y32_ 12 (.ireturn) 1 := by decide +kernel
abbrev mn839 : MethodName := ⟨"java/lang/StringLatin1", "canEncode", "(C)Z"⟩
theorem own_canEncode {l : Launch} {Z : State} {a0 : Array Value} (cx : Ctx Z a0) (ch : Int32) (vm0 : Vm) (h0 : Heap) (X00 : Ext Z.heap h0) (P0 : (¬ (255 : Int32) < ch)) :
    Met l mn839 y32_ 1 (some .boolean) [] (Rm 0 0 0 0) Z consts_1 vm0 h0 #[(.int ch)] (fun rv vm h => rv = some (.int (1 : Int32)) ∧ h0 = h) := by
  have hw := cx.1
  refine Met.of_walk (a0 := a0) #[vi ch] (plainFor_of_name own_pn31) X00 cx.2.1 (fun _ => rfl) ?_
  intro p e s m below meth c vm hx hby hml hret hnm hC0 hW0
  refine vIN 1 d833 ?_
  refine vKs 4 (255 : Int32) d834 ?_
  refine vNc 7 d835 (flt P0).2.2.1 ?_
  refine vKc 8 (1 : Int32) d836 ?_
  refine vG 12 d837 ?_
  exact gretN (t := .boolean) hx hret (by simp) (hb hby d838) (by decide) (by decide) (fun vq Cq => ⟨rfl, rfl⟩)
theorem d840 : Dc y66_ 0 (.aload_n 0) 1 := by decide +kernel
theorem d841 : Dc y66_ 1 (.aload_n 0) 1 := by decide +kernel
theorem d842 : Dc y66_ 2 (.getfield 79) 3 := by decide +kernel
theorem d843 : Dc y66_ 5 (.iconst 1) 1 := by decide +kernel
theorem d844 : Dc y66_ 6 (.iadd) 1 := by decide +kernel
theorem d845 : Dc y66_ 7 (.invokevirtual 100) 3 := by decide +kernel
theorem d846 : Dc y66_ 10 (.aload_n 0) 1 := by decide +kernel
theorem d847 : Dc y66_ 11 (.invokevirtual 83) 3 := by decide +kernel
theorem d848 : Dc y66_ 14 (.ifCond .eq 31) 3 := by decide +kernel
theorem d849 : Dc y66_ 17 (.iload_n 1) 1 := by decide +kernel
theorem d850 : Dc y66_ 18 (.invokestatic 191) 3 := by decide +kernel
theorem own_pd851 : parseMethodDescriptor "(C)Z" = some ⟨[.char], some .boolean⟩ := by decide +kernel
theorem d852 : Dc y66_ 21 (.ifCond .eq 24) 3 := by decide +kernel
theorem d853 : Dc y66_ 24 (.aload_n 0) 1 := by decide +kernel
theorem d854 : Dc y66_ 25 (.getfield 15) 3 := by decide +kernel
theorem d855 : Dc y66_ 28 (.aload_n 0) 1 := by decide +kernel
theorem d856 : Dc y66_ 29 (.dup) 1 := by decide +kernel
theorem d857 : Dc y66_ 30 (.getfield 79) 3 := by decide +kernel
theorem d858 : Dc y66_ 33 (.dup_x1) 1 := by decide +kernel
theorem d859 : Dc y66_ 34 (.iconst 1) 1 := by decide +kernel
theorem d860 : Dc y66_ 35 (.iadd) 1 := by decide +kernel
theorem d861 : Dc y66_ 36 (.putfield 79) 3 := by decide +kernel
theorem d862 : Dc y66_ 39 (.iload_n 1) 1 := by decide +kernel
theorem d863 : Dc y66_ 40 (.i2b) 1 := by decide +kernel
theorem d864 : Dc y66_ 41 (.bastore) 1 := by decide +kernel
theorem d865 : Dc y66_ 42 (.goto 33) 3 := by decide +kernel
theorem d866 : Dc y66_ 75 (.aload_n 0) 1 := by decide +kernel
theorem d867 : Dc y66_ 76 (.areturn) 1 := by decide +kernel
abbrev mn868 : MethodName := ⟨"java/lang/AbstractStringBuilder", "append", "(C)Ljava/lang/AbstractStringBuilder;"⟩
theorem own_asbC {l : Launch} {Z : State} {a0 : Array Value} (cx : Ctx Z a0) (b : Addr) (ch : Int32) (v : Addr) (cap : Nat) (cs : List Int32) (vm0 : Vm) (h0 : Heap) (X00 : Ext Z.heap h0) (P0 : SBd Z h0 b v cap cs) (P1 : Z.heap.size ≤ b) (P2 : Z.heap.size ≤ v) (P3 : Safe Z consts_1 vm0 h0 v) (hcd : (cs.length + 1 ≤ cap)) (hch : (B8 ch)) :
    Met l mn868 y66_ 2 (some (.object c10_)) [] (Rm 1 0 0 14) Z consts_1 vm0 h0 #[(.ref b), (.int ch)] (fun rv vm h => rv = some (.ref b) ∧ Keep h0 h [b, v] ∧ SBd Z h b v cap (cs ++ [ch]) ∧ Safe Z consts_1 vm h v) := by
  have hw := cx.1
  refine Met.of_walk (a0 := a0) #[vr b, vi ch] (plainFor_of_name own_pn589) X00 cx.2.1 (fun _ => rfl) ?_
  intro p e s m below meth c vm hx hby hml hret hnm hC0 hW0
  have lt_v : h0.size > v := P0.vlt
  have lt_b : h0.size > b := P0.1.lt
  have L3 := hC0.safe lt_v P3
  obtain ⟨eE, eV, eC, eN, ⟨kz, zs, eA, ez⟩, eb, ecap⟩ := P0
  refine vAN 1 d840 ?_
  refine vAN 2 d841 ?_
  refine gF (oz hw 183) eN 5 d842 ?_
  refine vKc 6 (1 : Int32) d843 ?_
  refine viadd 7 ((Int32.ofNat (cs).length) + (1 : Int32)) d844 ?_
  refine gat (mkF m 7 #[vr b, vi ch] [(.int (Int32.ofNat (cs.length + 1))), (.ref b)]) (by rw [own_addo (by omega)]) ?_
  refine ginfo fun _ _ O1 => ?_
  refine gcallQ (y := mn650) hx (oz hw 185) (oz hw 186) (oz hw 188) (oz hw 187) (oz hw 189) (by decide) (fun hZ H hEL => Pay.of_met (W := 0) (own_ensure cx b (cs.length + 1) v kz cap ((lo8s cs ++ zs)) vm h0 O1 eV eC eA (by first | assumption | decide | omega) (by first | assumption | decide | omega)) (oz hw 189) (oz hw 152) (by decide) (by decide) hZ H hEL) 10 (argsL := [(.int (Int32.ofNat (cs.length + 1)))]) (rest := []) eE (lenOf own_pd593 rfl) rfl rfl (Nat.le_of_eq rfl) (by rw [hml]; rfl) (hb hby d845) rfl (by decide) (by decide) ?_
  rintro _ vm1 h1 C1 ⟨rfl, rfl⟩
  have z1 := C1.2.1
  refine gat0 ?_
  refine vAN 11 d846 ?_
  refine gmV (y := mn705) (z := mn705) (oz hw 482) (oz hw 290) (nfSel (oz hw 292)) (oz hw 292) (oz hw 291) (oz hw 293) (oz hw 152) (fun O => own_asblat cx b vm1 h0 O eC) 14 (argsL := []) (rest := []) eE own_pd43 d847 ?_
  rintro _ vm2 h2 C2 z2 ⟨rfl, rfl⟩
  refine gat1 ?_
  refine vN 17 d848 ((if0 _ _).trans (feq (by decide)).1) ?_
  refine vIN 18 d849 ?_
  refine gmS (y := mn839) (oz hw 483) (oz hw 484) (oz hw 485) (oz hw 325) (fun O => own_canEncode cx ch vm2 h0 O hch.2) 21 (argsL := [(.int ch)]) (rest := []) own_pd851 d850 ?_
  rintro _ vm3 h3 C3 z3 ⟨rfl, rfl⟩
  refine gat1 ?_
  refine vN 24 d852 ((if0 _ _).trans (feq (by decide)).1) ?_
  refine vAN 25 d853 ?_
  refine gF (oz hw 156) eV 28 d854 ?_
  refine vAN 29 d855 ?_
  refine vD 30 d856 ?_
  refine gF (oz hw 183) eN 33 d857 ?_
  refine gs (mkF m 34 #[vr b, vi ch] [(.int (Int32.ofNat (cs).length)), (.ref b), (.int (Int32.ofNat (cs).length)), (.ref v)]) (fun _ _ A kq => XS.dupX1 A hx rfl (hb hby d858) rfl rfl rfl kq) ?_
  refine vKc 35 (1 : Int32) d859 ?_
  refine viadd 36 ((Int32.ofNat (cs).length) + (1 : Int32)) d860 ?_
  refine gat (mkF m 36 #[vr b, vi ch] [(.int (Int32.ofNat (cs.length + 1))), (.ref b), (.int (Int32.ofNat (cs).length)), (.ref v)]) (by rw [own_addo (by omega)]) ?_
  refine gputF (host := "") hx (Or.inl (oz hw 183)) Via.refl eN eE (Or.inl (oz hw 184)) (oz hw 143) (ty := .int) (by decide) rfl rfl P1 (fun al => Safe.exa al eE (by decide) (by decide)) 39 (hb hby d861) rfl ?_
  intro h4 W4 C4
  have z4 := C4.2.1
  have F4 := eN.same W4
  refine vIN 40 d862 ?_
  refine gs (mkF m 41 #[vr b, vi ch] [(.int (ch.toInt8.toInt32)), (.int (Int32.ofNat (cs).length)), (.ref v)]) (fun _ _ A kq => XS.i2b A hx rfl (hb hby d863) rfl kq) ?_
  have f5 := (eA.other W4 (Ne.symm (Exa.neArv eE eA (oz hw 143))))
  have f7 := (C4.sf (C3.sf (C2.sf (C1.sf L3))))
  refine gstB hx f5 ⟨nn0 (by omega), (ltOf (by omega) ecap).mpr (by omega)⟩ (i := cs.length) (tn (by omega)) (by rw [List.length_append, lo8s_len]; omega) (y := (ch.toInt8.toInt32)) (narB _) P2 (fun _ => f7) 42 (hb hby d864) rfl ?_
  intro h6 W6 C6 V6
  have z6 := C6.2.1
  have X8 : Arv Z h6 v kz .byte (Int32.ofNat cap) (lo8s (cs ++ [ch]) ++ zs.drop 1) (.int (0 : Int32)) := Eq.mp (congrArg (fun z => Arv Z h6 v kz .byte (Int32.ofNat cap) z (.int (0 : Int32))) (own_putc (by omega))) V6
  refine vG 75 d865 ?_
  refine vAN 76 d866 ?_
  have f10 := (F4.other W6 (Or.inl (Exa.neArv ((eE.wr W4).wr W6) X8 (oz hw 143))))
  have N9 : Fld Z h6 b c10_ "count" "I" (.int (Int32.ofNat (cs ++ [ch]).length)) := by rw [List.length_append]; exact f10
  have f11 := ((eE.wr W4).wr W6)
  have f12 := ((eV.other W4 (Or.inr (slot_ne (Or.inl (oz hw 157)) (Or.inl (oz hw 184)) (by decide) (t := (.array .byte)) (t' := .int) (by decide) (by decide)))).other W6 (Or.inl (Exa.neArv f11 X8 (oz hw 143))))
  have f13 := ((eC.other W4 (Or.inr (slot_ne (Or.inl (oz hw 159)) (Or.inl (oz hw 184)) (by decide) (t := .byte) (t' := .int) (by decide) (by decide)))).other W6 (Or.inl (Exa.neArv f11 X8 (oz hw 143))))
  have f15 := (C6.sf f7)
  exact gretA hx hret rfl rfl (hb hby d867) (by decide) (by decide) (fun vq Cq => ⟨rfl, (((Keep.refl h0 [b, v]).wr W4 (Or.inl (List.mem_of_getElem? (i := 0) rfl))).wr W6 (Or.inl (List.mem_of_getElem? (i := 1) rfl))), ⟨f11, f12, f13, N9, ⟨_, _, X8, by simp only [List.length_append, List.length_drop, List.length_cons, List.length_nil]; omega⟩, bapp eb (bcons hch bnil), ecap⟩, (Cq.sf f15)⟩)
theorem d869 : Dc y58_ 0 (.aload_n 0) 1 := by decide +kernel
theorem d870 : Dc y58_ 1 (.iload_n 1) 1 := by decide +kernel
theorem d871 : Dc y58_ 2 (.invokespecial 50) 3 := by decide +kernel
theorem own_pd872 : parseMethodDescriptor "(C)Ljava/lang/AbstractStringBuilder;" = some ⟨[.char], some (.object "java/lang/AbstractStringBuilder")⟩ := by decide +kernel
theorem d873 : Dc y58_ 5 (.pop) 1 := by decide +kernel
theorem d874 : Dc y58_ 6 (.aload_n 0) 1 := by decide +kernel
theorem d875 : Dc y58_ 7 (.areturn) 1 := by decide +kernel
abbrev mn876 : MethodName := ⟨"java/lang/StringBuilder", "append", "(C)Ljava/lang/StringBuilder;"⟩
theorem own_sbC {l : Launch} {Z : State} {a0 : Array Value} (cx : Ctx Z a0) (b : Addr) (ch : Int32) (v : Addr) (cap : Nat) (cs : List Int32) (vm0 : Vm) (h0 : Heap) (X00 : Ext Z.heap h0) (P0 : SBd Z h0 b v cap cs) (P1 : Z.heap.size ≤ b) (P2 : Z.heap.size ≤ v) (P3 : Safe Z consts_1 vm0 h0 v) (hcd : (cs.length + 1 ≤ cap)) (hch : (B8 ch)) :
    Met l mn876 y58_ 2 (some (.object c14_)) [] (Rm 2 0 0 27) Z consts_1 vm0 h0 #[(.ref b), (.int ch)] (fun rv vm h => rv = some (.ref b) ∧ Keep h0 h [b, v] ∧ SBd Z h b v cap (cs ++ [ch]) ∧ Safe Z consts_1 vm h v) := by
  have hw := cx.1
  refine Met.of_walk (a0 := a0) #[vr b, vi ch] (plainFor_of_name own_pn596) X00 cx.2.1 (fun _ => rfl) ?_
  intro p e s m below meth c vm hx hby hml hret hnm hC0 hW0
  have lt_v : h0.size > v := P0.vlt
  have lt_b : h0.size > b := P0.1.lt
  have L3 := hC0.safe lt_v P3
  have eE := P0.1
  refine vAN 1 d869 ?_
  refine vIN 2 d870 ?_
  refine ginfo fun _ _ O1 => ?_
  refine gcallU (y := mn868) hx (oz hw 478) (smOf (y := mn868) (oz hw 479) (nfSame (y' := mn650) (oz hw 188) (oz hw 186) rfl) (by decide)) (oz hw 479) (oz hw 170) (by decide) (oz hw 481) (fun hZ H hEL => Pay.of_met (W := 0) (own_asbC cx b ch v cap cs vm h0 O1 P0 P1 P2 L3 (by first | assumption | decide | omega) (by first | assumption | decide | omega)) (oz hw 481) (oz hw 152) (by decide) (by decide) hZ H hEL) 5 (argsL := [(.int ch)]) (rest := []) (Ins.self eE) (lenOf own_pd872 rfl) rfl rfl (Nat.le_of_eq rfl) (by rw [hml]; rfl) (hb hby d871) rfl (by decide) (by decide) ?_
  rintro _ vm1 h1 C1 ⟨rfl, K1, q1_0, q1_1⟩
  have z1 := C1.2.1
  refine gat1 ?_
  refine vP 6 d873 ?_
  refine vAN 7 d874 ?_
  exact gretA hx hret rfl rfl (hb hby d875) (by decide) (by decide) (fun vq Cq => ⟨rfl, ((Keep.refl h0 [b, v]).trans K1 (allS (Or.inl (List.mem_of_getElem? (i := 0) rfl)) (allS (Or.inl (List.mem_of_getElem? (i := 1) rfl)) all0))), q1_0, (Cq.sf q1_1)⟩)
theorem d877 : Dc jdk_42_method_126_code 0 (.aload_n 0) 1 := by decide +kernel
theorem d878 : Dc jdk_42_method_126_code 1 (.areturn) 1 := by decide +kernel
abbrev mn879 : MethodName := ⟨"java/lang/String", "toString", "()Ljava/lang/String;"⟩
theorem own_sts {l : Launch} {Z : State} {a0 : Array Value} (cx : Ctx Z a0) (x : Addr) (vm0 : Vm) (h0 : Heap) (X00 : Ext Z.heap h0)  :
    Met l mn879 jdk_42_method_126_code 1 (some (.object c13_)) [] (Rm 0 0 0 0) Z consts_1 vm0 h0 #[(.ref x)] (fun rv vm h => rv = some (.ref x) ∧ h0 = h) := by
  have hw := cx.1
  refine Met.of_walk (a0 := a0) #[vr x] (plainFor_of_name own_pn17) X00 cx.2.1 (fun _ => rfl) ?_
  intro p e s m below meth c vm hx hby hml hret hnm hC0 hW0
  refine vAN 1 d877 ?_
  exact gretA hx hret rfl rfl (hb hby d878) (by decide) (by decide) (fun vq Cq => ⟨rfl, rfl⟩)
theorem d880 : Dc y21_ 0 (.aload_n 0) 1 := by decide +kernel
theorem d881 : Dc y21_ 1 (.ifnonnull 9) 3 := by decide +kernel
theorem d882 : Dc y21_ 10 (.aload_n 0) 1 := by decide +kernel
theorem d883 : Dc y21_ 11 (.invokevirtual 1007) 3 := by decide +kernel
theorem own_pd884 : parseMethodDescriptor "()Ljava/lang/String;" = some ⟨[], some (.object "java/lang/String")⟩ := by decide +kernel
abbrev mn885 : MethodName := ⟨"java/lang/Object", "toString", "()Ljava/lang/String;"⟩
abbrev mn886 : MethodName := ⟨"java/lang/Object", "getClass", "()Ljava/lang/Class;"⟩
theorem d887 : Dc y21_ 14 (.areturn) 1 := by decide +kernel
abbrev mn888 : MethodName := ⟨"java/lang/String", "valueOf", "(Ljava/lang/Object;)Ljava/lang/String;"⟩
theorem own_vos {l : Launch} {Z : State} {a0 : Array Value} (cx : Ctx Z a0) (x : Addr) (vm0 : Vm) (h0 : Heap) (X00 : Ext Z.heap h0) (P0 : Exa Z h0 x c13_) :
    Met l mn888 y21_ 1 (some (.object c13_)) [] (Rm 1 0 0 12) Z consts_1 vm0 h0 #[(.ref x)] (fun rv vm h => rv = some (.ref x) ∧ h0 = h) := by
  have hw := cx.1
  refine Met.of_walk (a0 := a0) #[vr x] (plainFor_of_name own_pn17) X00 cx.2.1 (fun _ => rfl) ?_
  intro p e s m below meth c vm hx hby hml hret hnm hC0 hW0
  have lt_x : h0.size > x := P0.lt
  refine vAN 1 d880 ?_
  refine vY1 10 d881 ?_
  refine vAN 11 d882 ?_
  refine gmV (y := mn885) (z := mn879) (oz hw 218) (oz hw 219) (nfSame (y' := mn886) (oz hw 425) (oz hw 424) rfl) (oz hw 502) (oz hw 503) (oz hw 504) (oz hw 6) (fun O => own_sts cx x vm h0 O ) 14 (argsL := []) (rest := []) P0 own_pd884 d883 ?_
  rintro _ vm1 h1 C1 z1 ⟨rfl, rfl⟩
  refine gat1 ?_
  exact gretA hx hret rfl rfl (hb hby d887) (by decide) (by decide) (fun vq Cq => ⟨rfl, rfl⟩)
theorem d889 : Dc y61_ 0 (.aload_n 0) 1 := by decide +kernel
theorem d890 : Dc y61_ 1 (.aload_n 1) 1 := by decide +kernel
theorem d891 : Dc y61_ 2 (.invokestatic 17) 3 := by decide +kernel
theorem own_pd892 : parseMethodDescriptor "(Ljava/lang/Object;)Ljava/lang/String;" = some ⟨[(.object "java/lang/Object")], some (.object "java/lang/String")⟩ := by decide +kernel
theorem d893 : Dc y61_ 5 (.invokevirtual 23) 3 := by decide +kernel
theorem own_pd894 : parseMethodDescriptor "(Ljava/lang/String;)Ljava/lang/StringBuilder;" = some ⟨[(.object "java/lang/String")], some (.object "java/lang/StringBuilder")⟩ := by decide +kernel
theorem d895 : Dc y61_ 8 (.areturn) 1 := by decide +kernel
abbrev mn896 : MethodName := ⟨"java/lang/StringBuilder", "append", "(Ljava/lang/Object;)Ljava/lang/StringBuilder;"⟩
theorem own_apO {l : Launch} {Z : State} {a0 : Array Value} (cx : Ctx Z a0) (b y v : Addr) (cap : Nat) (cs : List Int32) (t : Addr) (ds : List Int32) (vm0 : Vm) (h0 : Heap) (X00 : Ext Z.heap h0) (P0 : SBd Z h0 b v cap cs) (P1 : Str Z h0 y t ds) (P2 : Z.heap.size ≤ b) (P3 : Z.heap.size ≤ v) (P4 : Safe Z consts_1 vm0 h0 v) (hcd : (cs.length + ds.length ≤ cap)) (hvt : (v ≠ t)) :
    Met l mn896 y61_ 2 (some (.object c14_)) [] (Rm 5 0 0 74) Z consts_1 vm0 h0 #[(.ref b), (.ref y)] (fun rv vm h => rv = some (.ref b) ∧ Keep h0 h [b, v] ∧ SBd Z h b v cap (cs ++ ds) ∧ Safe Z consts_1 vm h v) := by
  have hw := cx.1
  refine Met.of_walk (a0 := a0) #[vr b, vr y] (plainFor_of_name own_pn596) X00 cx.2.1 (fun _ => rfl) ?_
  intro p e s m below meth c vm hx hby hml hret hnm hC0 hW0
  have lt_v : h0.size > v := P0.vlt
  have lt_b : h0.size > b := P0.1.lt
  have lt_y : h0.size > y := P1.1.lt
  have lt_t : h0.size > t := P1.tlt
  have L4 := hC0.safe lt_v P4
  have eE := P0.1
  refine vAN 1 d889 ?_
  refine vAN 2 d890 ?_
  refine gmS (y := mn888) (oz hw 215) (oz hw 216) (oz hw 217) (oz hw 6) (fun O => own_vos cx y vm h0 O P1.1) 5 (argsL := [(.ref y)]) (rest := [(.ref b)]) own_pd892 d891 ?_
  rintro _ vm1 h1 C1 z1 ⟨rfl, rfl⟩
  refine gat1 ?_
  have f3 := (C1.sf L4)
  refine gmV (y := mn684) (z := mn684) (oz hw 263) (oz hw 164) (nfSel (oz hw 166)) (oz hw 166) (oz hw 165) (oz hw 167) (oz hw 144) (fun O => own_sbappend cx b y v cap cs t ds vm1 h0 O P0 P1 P2 P3 f3 hcd hvt) 8 (argsL := [(.ref y)]) (rest := []) eE own_pd894 d893 ?_
  rintro _ vm2 h2 C2 z2 ⟨rfl, K2, q2_0, q2_1⟩
  refine gat1 ?_
  exact gretA hx hret rfl rfl (hb hby d895) (by decide) (by decide) (fun vq Cq => ⟨rfl, ((Keep.refl h0 [b, v]).trans K2 (allS (Or.inl (List.mem_of_getElem? (i := 0) rfl)) (allS (Or.inl (List.mem_of_getElem? (i := 1) rfl)) all0))), q2_0, (Cq.sf q2_1)⟩)
theorem d897 : Dc y48_ 0 (.aload_n 0) 1 := by decide +kernel
theorem d898 : Dc y48_ 1 (.invokespecial 1) 3 := by decide +kernel
theorem d899 : Dc y48_ 4 (.aload_n 0) 1 := by decide +kernel
theorem d900 : Dc y48_ 5 (.aload_n 1) 1 := by decide +kernel
theorem d901 : Dc y48_ 6 (.putfield 7) 3 := by decide +kernel
theorem d902 : Dc y48_ 9 (.aload_n 0) 1 := by decide +kernel
theorem d903 : Dc y48_ 10 (.iload_n 2) 1 := by decide +kernel
theorem d904 : Dc y48_ 11 (.putfield 13) 3 := by decide +kernel
theorem d905 : Dc y48_ 14 (.aload_n 0) 1 := by decide +kernel
theorem d906 : Dc y48_ 15 (.iconst 0) 1 := by decide +kernel
theorem d907 : Dc y48_ 16 (.putfield 17) 3 := by decide +kernel
theorem d908 : Dc y48_ 19 (.aload_n 0) 1 := by decide +kernel
theorem d909 : Dc y48_ 20 (.iconst 0) 1 := by decide +kernel
theorem d910 : Dc y48_ 21 (.putfield 20) 3 := by decide +kernel
theorem d911 : Dc y48_ 24 (.return_) 1 := by decide +kernel
abbrev mn912 : MethodName := ⟨"java/util/ImmutableCollections$ListItr", "<init>", "(Ljava/util/List;I)V"⟩
theorem own_pn913 : plainName "java/util/ImmutableCollections$ListItr" = true := by first | (simp [plainName, overriddenIn]; done) | decide +kernel
theorem own_litinit {l : Launch} {Z : State} {a0 : Array Value} (cx : Ctx Z a0) (it r : Addr) (n : Int32) (u : Value) (zz zy : Int32) (vm0 : Vm) (h0 : Heap) (X00 : Ext Z.heap h0) (P0 : Exa Z h0 it c21_) (P1 : Fld Z h0 it c21_ "list" c3_ u) (P2 : Fld Z h0 it c21_ "size" "I" (.int zz)) (P3 : Fld Z h0 it c21_ "cursor" "I" (.int zy)) (P4 : Fld Z h0 it c21_ c9_ "Z" (.int (0 : Int32))) (P5 : Z.heap.size ≤ it) :
    Met l mn912 y48_ 3 none [] (Rm 1 0 0 12) Z consts_1 vm0 h0 #[(.ref it), (.ref r), (.int n)] (fun rv vm h => rv = none ∧ Keep h0 h [it] ∧ Fld Z h it c21_ "list" c3_ (.ref r) ∧ Fld Z h it c21_ "size" "I" (.int n) ∧ Fld Z h it c21_ "cursor" "I" (.int (0 : Int32))) := by
  have hw := cx.1
  refine Met.of_walk (a0 := a0) #[vr it, vr r, vi n] (plainFor_of_name own_pn913) X00 cx.2.1 (fun _ => rfl) ?_
  intro p e s m below meth c vm hx hby hml hret hnm hC0 hW0
  have lt_it : h0.size > it := P0.lt
  refine vAN 1 d897 ?_
  refine ginitO hx (oz hw 246) (oz hw 16) (oz hw 17) 4 (W := 0) (Nat.le_of_eq rfl) (by rw [hml]; rfl) (hb hby d898) rfl (by decide) (by decide) ?_
  refine vAN 5 d899 ?_
  refine vAN 6 d900 ?_
  refine gputF (host := "") hx (Or.inl (oz hw 247)) Via.refl P1 P0 (Or.inr ⟨(oz hw 248), rfl, hnm⟩) (oz hw 231) (ty := (.object c24_)) (by decide) rfl rfl P5 (fun al => Safe.exa al P0 (by decide) (by decide)) 9 (hb hby d901) rfl ?_
  intro h2 W2 C2
  have z2 := C2.2.1
  have F2 := P1.same W2
  refine vAN 10 d902 ?_
  refine vIN 11 d903 ?_
  have f3 := (P2.other W2 (Or.inr (slot_ne (Or.inr (oz hw 250)) (Or.inr (oz hw 248)) (by decide) (t := .int) (t' := (.object c24_)) (by decide) (by decide))))
  have f4 := (P0.wr W2)
  refine gputF (host := "") hx (Or.inl (oz hw 249)) Via.refl f3 f4 (Or.inr ⟨(oz hw 250), rfl, hnm⟩) (oz hw 231) (ty := .int) (by decide) rfl rfl P5 (fun al => Safe.exa al f4 (by decide) (by decide)) 14 (hb hby d904) rfl ?_
  intro h5 W5 C5
  have z5 := C5.2.1
  have F5 := f3.same W5
  refine vAN 15 d905 ?_
  refine vKc 16 (0 : Int32) d906 ?_
  have f6 := ((P3.other W2 (Or.inr (slot_ne (Or.inl (oz hw 252)) (Or.inr (oz hw 248)) (by decide) (t := .int) (t' := (.object c24_)) (by decide) (by decide)))).other W5 (Or.inr (slot_ne (Or.inl (oz hw 252)) (Or.inr (oz hw 250)) (by decide) (t := .int) (t' := .int) (by decide) (by decide))))
  have f7 := (f4.wr W5)
  refine gputF (host := "") hx (Or.inl (oz hw 251)) Via.refl f6 f7 (Or.inl (oz hw 252)) (oz hw 231) (ty := .int) (by decide) rfl rfl P5 (fun al => Safe.exa al f7 (by decide) (by decide)) 19 (hb hby d907) rfl ?_
  intro h8 W8 C8
  have z8 := C8.2.1
  have F8 := f6.same W8
  refine vAN 20 d908 ?_
  refine vKc 21 (0 : Int32) d909 ?_
  have f9 := (((P4.other W2 (Or.inr (slot_ne (Or.inr (oz hw 254)) (Or.inr (oz hw 248)) (by decide) (t := .boolean) (t' := (.object c24_)) (by decide) (by decide)))).other W5 (Or.inr (slot_ne (Or.inr (oz hw 254)) (Or.inr (oz hw 250)) (by decide) (t := .boolean) (t' := .int) (by decide) (by decide)))).other W8 (Or.inr (slot_ne (Or.inr (oz hw 254)) (Or.inl (oz hw 252)) (by decide) (t := .boolean) (t' := .int) (by decide) (by decide))))
  have f10 := (f7.wr W8)
  refine gputF (host := "") hx (Or.inl (oz hw 253)) Via.refl f9 f10 (Or.inr ⟨(oz hw 254), rfl, hnm⟩) (oz hw 231) (ty := .boolean) (by decide) rfl rfl P5 (fun al => Safe.exa al f10 (by decide) (by decide)) 24 (hb hby d910) rfl ?_
  intro h11 W11 C11
  have z11 := C11.2.1
  have F11 := f9.same W11
  have f13 := (((F2.other W5 (Or.inr (slot_ne (Or.inr (oz hw 248)) (Or.inr (oz hw 250)) (by decide) (t := (.object c24_)) (t' := .int) (by decide) (by decide)))).other W8 (Or.inr (slot_ne (Or.inr (oz hw 248)) (Or.inl (oz hw 252)) (by decide) (t := (.object c24_)) (t' := .int) (by decide) (by decide)))).other W11 (Or.inr (slot_ne (Or.inr (oz hw 248)) (Or.inr (oz hw 254)) (by decide) (t := (.object c24_)) (t' := .boolean) (by decide) (by decide))))
  have f14 := ((F5.other W8 (Or.inr (slot_ne (Or.inr (oz hw 250)) (Or.inl (oz hw 252)) (by decide) (t := .int) (t' := .int) (by decide) (by decide)))).other W11 (Or.inr (slot_ne (Or.inr (oz hw 250)) (Or.inr (oz hw 254)) (by decide) (t := .int) (t' := .boolean) (by decide) (by decide))))
  have f15 := (F8.other W11 (Or.inr (slot_ne (Or.inl (oz hw 252)) (Or.inr (oz hw 254)) (by decide) (t := .int) (t' := .boolean) (by decide) (by decide))))
  exact gretV hx hret (hb hby d911) (by decide) (by decide) (fun vq Cq => ⟨rfl, (((((Keep.refl h0 [it]).wr W2 (Or.inl (List.mem_of_getElem? (i := 0) rfl))).wr W5 (Or.inl (List.mem_of_getElem? (i := 0) rfl))).wr W8 (Or.inl (List.mem_of_getElem? (i := 0) rfl))).wr W11 (Or.inl (List.mem_of_getElem? (i := 0) rfl))), f13, f14, f15⟩)
theorem d914 : Dc y49_ 0 (.aload_n 0) 1 := by decide +kernel
theorem d915 : Dc y49_ 1 (.getfield 17) 3 := by decide +kernel
theorem d916 : Dc y49_ 4 (.aload_n 0) 1 := by decide +kernel
theorem d917 : Dc y49_ 5 (.getfield 13) 3 := by decide +kernel
theorem d918 : Dc y49_ 8 (.if_icmp .eq 7) 3 := by decide +kernel
theorem d919 : Dc y49_ 15 (.iconst 0) 1 := by decide +kernel
theorem d920 : Dc y49_ 16 (.ireturn) 1 := by decide +kernel
abbrev mn921 : MethodName := ⟨"java/util/ImmutableCollections$ListItr", "hasNext", "()Z"⟩
theorem own_lhnE {l : Launch} {Z : State} {a0 : Array Value} (cx : Ctx Z a0) (it : Addr) (i : Int32) (vm0 : Vm) (h0 : Heap) (X00 : Ext Z.heap h0) (P0 : Fld Z h0 it c21_ "size" "I" (.int i)) (P1 : Fld Z h0 it c21_ "cursor" "I" (.int i)) :
    Met l mn921 y49_ 1 (some .boolean) [] (Rm 0 0 0 0) Z consts_1 vm0 h0 #[(.ref it)] (fun rv vm h => rv = some (.int (0 : Int32)) ∧ h0 = h) := by
  have hw := cx.1
  refine Met.of_walk (a0 := a0) #[vr it] (plainFor_of_name own_pn913) X00 cx.2.1 (fun _ => rfl) ?_
  intro p e s m below meth c vm hx hby hml hret hnm hC0 hW0
  have lt_it : h0.size > it := P0.lt
  refine vAN 1 d914 ?_
  refine gF (oz hw 251) P1 4 d915 ?_
  refine vAN 5 d916 ?_
  refine gF (oz hw 249) P0 8 d917 ?_
  refine vYc 15 d918 (teq rfl).1 ?_
  refine vKc 16 (0 : Int32) d919 ?_
  exact gretN (t := .boolean) hx hret (by simp) (hb hby d920) (by decide) (by decide) (fun vq Cq => ⟨rfl, rfl⟩)
theorem d922 : Dc y49_ 11 (.iconst 1) 1 := by decide +kernel
theorem d923 : Dc y49_ 12 (.goto 4) 3 := by decide +kernel
theorem own_lhnN {l : Launch} {Z : State} {a0 : Array Value} (cx : Ctx Z a0) (it : Addr) (i n : Int32) (vm0 : Vm) (h0 : Heap) (X00 : Ext Z.heap h0) (P0 : Fld Z h0 it c21_ "size" "I" (.int n)) (P1 : Fld Z h0 it c21_ "cursor" "I" (.int i)) (hin : (¬ i = n)) :
    Met l mn921 y49_ 1 (some .boolean) [] (Rm 0 0 0 0) Z consts_1 vm0 h0 #[(.ref it)] (fun rv vm h => rv = some (.int (1 : Int32)) ∧ h0 = h) := by
  have hw := cx.1
  refine Met.of_walk (a0 := a0) #[vr it] (plainFor_of_name own_pn913) X00 cx.2.1 (fun _ => rfl) ?_
  intro p e s m below meth c vm hx hby hml hret hnm hC0 hW0
  have lt_it : h0.size > it := P0.lt
  refine vAN 1 d914 ?_
  refine gF (oz hw 251) P1 4 d915 ?_
  refine vAN 5 d916 ?_
  refine gF (oz hw 249) P0 8 d917 ?_
  refine vNc 11 d918 (feq hin).1 ?_
  refine vKc 12 (1 : Int32) d922 ?_
  refine vG 16 d923 ?_
  exact gretN (t := .boolean) hx hret (by simp) (hb hby d920) (by decide) (by decide) (fun vq Cq => ⟨rfl, rfl⟩)
theorem d924 : Dc y41_ 0 (.new 61) 3 := by decide +kernel
theorem d925 : Dc y41_ 3 (.dup) 1 := by decide +kernel
theorem d926 : Dc y41_ 4 (.aload_n 0) 1 := by decide +kernel
theorem d927 : Dc y41_ 5 (.aload_n 0) 1 := by decide +kernel
theorem d928 : Dc y41_ 6 (.invokevirtual 13) 3 := by decide +kernel
abbrev mn929 : MethodName := ⟨"java/util/ImmutableCollections$AbstractImmutableList", "size", "()I"⟩
theorem d930 : Dc y41_ 9 (.invokespecial 63) 3 := by decide +kernel
theorem own_pd931 : parseMethodDescriptor "(Ljava/util/List;I)V" = some ⟨[(.object "java/util/List"), .int], none⟩ := by decide +kernel
theorem d932 : Dc y41_ 12 (.areturn) 1 := by decide +kernel
abbrev mn933 : MethodName := ⟨"java/util/ImmutableCollections$AbstractImmutableList", "iterator", "()Ljava/util/Iterator;"⟩
theorem own_ait0 {l : Launch} {Z : State} {a0 : Array Value} (cx : Ctx Z a0) {dz el ee em mr : Addr} {kd ke : ClassId} (vm0 : Vm) (h0 : Heap) (X00 : Ext Z.heap h0) (hL : (OwnL Z dz el ee em mr kd ke)) :
    Met l mn933 y41_ 1 (some (.object c23_)) [] (Rm 2 1 4 27) Z consts_1 vm0 h0 #[(.ref el)] (fun rv vm h => ∃ (it : Addr), rv = some (.ref it) ∧ Keep h0 h [] ∧ h0.size ≤ it ∧ Z.heap.size ≤ it ∧ Exa Z h it c21_ ∧ Fld Z h it c21_ "list" c3_ (.ref el) ∧ Fld Z h it c21_ "size" "I" (.int (0 : Int32)) ∧ Fld Z h it c21_ "cursor" "I" (.int (0 : Int32))) := by
  have hw := cx.1
  refine Met.of_walk (a0 := a0) #[vr el] (plainFor_of_name own_pn268) X00 cx.2.1 (fun _ => rfl) ?_
  intro p e s m below meth c vm hx hby hml hret hnm hC0 hW0
  obtain ⟨Sdz, Edz, Vdz, Sel, Eel, Fee, Vee, Fan, Sem, Eem, Mmr⟩ := id hL
  refine ginfo fun _ _ OL1 => ?_
  have Eel_1 := Eel.ext OL1
  have lt_el : h0.size > el := Eel_1.lt
  refine gnewO hx (oz hw 230) (oz hw 231) (oz hw 232) 3 (hb hby d924) rfl (by decide) (by decide) ?_
  intro b2 h2 g2 E2 C2 A2 D2 n2 L2
  have z2 := C2.2.1
  have lt_b2 : h2.size > b2 := A2.lt
  have F2_list : Fld Z h2 b2 c21_ "list" c3_ .null := D2 (Or.inr (oz hw 248)) (ty := (.object c24_)) (by decide)
  have F2_size : Fld Z h2 b2 c21_ "size" "I" (.int (0 : Int32)) := D2 (Or.inr (oz hw 250)) (ty := .int) (by decide)
  have F2_cursor : Fld Z h2 b2 c21_ "cursor" "I" (.int (0 : Int32)) := D2 (Or.inl (oz hw 252)) (ty := .int) (by decide)
  have F2_isListIterator : Fld Z h2 b2 c21_ c9_ "Z" (.int (0 : Int32)) := D2 (Or.inr (oz hw 254)) (ty := .boolean) (by decide)
  refine vD 4 d925 ?_
  refine vAN 5 d926 ?_
  refine vAN 6 d927 ?_
  have f4 := (Eel_1.ext E2)
  refine gmVU (y := mn929) (z := mn426) (owner := c15_) (oz hw 233) (oz hw 234) (oz hw 235) (oz hw 236) (oz hw 237) (oz hw 239) (oz hw 238) (fun O => own_lsize0 cx  vm h2 O (by first | assumption | decide | omega)) 9 (argsL := []) (rest := [(.ref el), (.ref b2), (.ref b2)]) f4 own_pd139 d928 ?_
  rintro _ vm3 h3 C3 z3 ⟨rfl, rfl⟩
  refine gat1 ?_
  refine gmI (y := mn912) rfl (oz hw 242) (oz hw 243) (oz hw 245) (oz hw 232) (fun O => own_litinit cx b2 el ((0 : Int32)) (.null) ((0 : Int32)) ((0 : Int32)) vm3 h2 O A2 F2_list F2_size F2_cursor F2_isListIterator n2) 12 (argsL := [(.ref el), (.int (0 : Int32))]) (rest := [(.ref b2)]) (a := b2) own_pd931 d930 ?_
  rintro _ vm5 h5 C5 z5 ⟨rfl, K5, q5_0, q5_1, q5_2⟩
  refine gat0 ?_
  have f7 := (A2.keep K5)
  exact gretA hx hret rfl rfl (hb hby d932) (by decide) (by decide) (fun vq Cq => ⟨b2, rfl, (((Keep.refl h0 []).ext E2).trans K5 (allS (Or.inr (by omega)) all0)), (by omega), n2, f7, q5_0, q5_1, q5_2⟩)
theorem own_ait1 {l : Launch} {Z : State} {a0 : Array Value} (cx : Ctx Z a0) (r s0_ : Addr) {dz el ee em mr : Addr} {kd ke : ClassId} (vm0 : Vm) (h0 : Heap) (X00 : Ext Z.heap h0) (P0 : Exa Z h0 r c20_) (P1 : Fld Z h0 r c20_ "e0" c0_ (.ref s0_)) (P2 : Fld Z h0 r c20_ "e1" c0_ (.ref em)) (P3 : Exa Z h0 s0_ c13_) (hL : (OwnL Z dz el ee em mr kd ke)) :
    Met l mn933 y41_ 1 (some (.object c23_)) [] (Rm 2 1 4 27) Z consts_1 vm0 h0 #[(.ref r)] (fun rv vm h => ∃ (it : Addr), rv = some (.ref it) ∧ Keep h0 h [] ∧ h0.size ≤ it ∧ Z.heap.size ≤ it ∧ Exa Z h it c21_ ∧ Fld Z h it c21_ "list" c3_ (.ref r) ∧ Fld Z h it c21_ "size" "I" (.int (1 : Int32)) ∧ Fld Z h it c21_ "cursor" "I" (.int (0 : Int32))) := by
  have hw := cx.1
  refine Met.of_walk (a0 := a0) #[vr r] (plainFor_of_name own_pn268) X00 cx.2.1 (fun _ => rfl) ?_
  intro p e s m below meth c vm hx hby hml hret hnm hC0 hW0
  have lt_r : h0.size > r := P0.lt
  have lt_s0_ : h0.size > s0_ := P3.lt
  refine gnewO hx (oz hw 230) (oz hw 231) (oz hw 232) 3 (hb hby d924) rfl (by decide) (by decide) ?_
  intro b1 h1 g1 E1 C1 A1 D1 n1 L1
  have z1 := C1.2.1
  have lt_b1 : h1.size > b1 := A1.lt
  have F1_list : Fld Z h1 b1 c21_ "list" c3_ .null := D1 (Or.inr (oz hw 248)) (ty := (.object c24_)) (by decide)
  have F1_size : Fld Z h1 b1 c21_ "size" "I" (.int (0 : Int32)) := D1 (Or.inr (oz hw 250)) (ty := .int) (by decide)
  have F1_cursor : Fld Z h1 b1 c21_ "cursor" "I" (.int (0 : Int32)) := D1 (Or.inl (oz hw 252)) (ty := .int) (by decide)
  have F1_isListIterator : Fld Z h1 b1 c21_ c9_ "Z" (.int (0 : Int32)) := D1 (Or.inr (oz hw 254)) (ty := .boolean) (by decide)
  refine vD 4 d925 ?_
  refine vAN 5 d926 ?_
  refine vAN 6 d927 ?_
  have f3 := (P0.ext E1)
  have f4 := (P1.ext E1)
  have f5 := (P2.ext E1)
  have f6 := (P3.ext E1)
  refine gmVU (y := mn929) (z := mn438) (owner := c15_) (oz hw 233) (oz hw 234) (oz hw 235) (oz hw 466) (oz hw 467) (oz hw 468) (oz hw 438) (fun O => own_lsize1 cx r s0_ vm h1 O f3 f4 f5 f6 (by first | assumption | decide | omega)) 9 (argsL := []) (rest := [(.ref r), (.ref b1), (.ref b1)]) f3 own_pd139 d928 ?_
  rintro _ vm2 h2 C2 z2 ⟨rfl, rfl⟩
  refine gat1 ?_
  refine gmI (y := mn912) rfl (oz hw 242) (oz hw 243) (oz hw 245) (oz hw 232) (fun O => own_litinit cx b1 r ((1 : Int32)) (.null) ((0 : Int32)) ((0 : Int32)) vm2 h1 O A1 F1_list F1_size F1_cursor F1_isListIterator n1) 12 (argsL := [(.ref r), (.int (1 : Int32))]) (rest := [(.ref b1)]) (a := b1) own_pd931 d930 ?_
  rintro _ vm7 h7 C7 z7 ⟨rfl, K7, q7_0, q7_1, q7_2⟩
  refine gat0 ?_
  have f9 := (A1.keep K7)
  exact gretA hx hret rfl rfl (hb hby d932) (by decide) (by decide) (fun vq Cq => ⟨b1, rfl, (((Keep.refl h0 []).ext E1).trans K7 (allS (Or.inr (by omega)) all0)), (by omega), n1, f9, q7_0, q7_1, q7_2⟩)
theorem own_gn1_0 {l : Launch} {Z : State} {a0 : Array Value} (cx : Ctx Z a0) (r s0_ : Addr) {dz el ee em mr : Addr} {kd ke : ClassId} (vm0 : Vm) (h0 : Heap) (X00 : Ext Z.heap h0) (P0 : Exa Z h0 r c20_) (P1 : Fld Z h0 r c20_ "e0" c0_ (.ref s0_)) (P2 : Fld Z h0 r c20_ "e1" c0_ (.ref em)) (P3 : Exa Z h0 s0_ c13_) (hL : (OwnL Z dz el ee em mr kd ke)) :
    Met l mn444 y37_ 2 (some (.object c12_)) [] (Rm 0 0 0 0) Z ([] : List (String × Nat)) vm0 h0 #[(.ref r), (.int (0 : Int32))] (fun rv vm h => rv = some (.ref s0_) ∧ h0 = h) := by
  have hw := cx.1
  refine Met.of_walk (a0 := a0) #[vr r, vi (0 : Int32)] (plainFor_of_name own_pn281) X00 (EW.nil (a0 := a0)) (fun _ => rfl) ?_
  intro p e s m below meth c vm hx hby hml hret hnm hC0 hW0
  have lt_r : h0.size > r := P0.lt
  have lt_s0_ : h0.size > s0_ := P3.lt
  obtain ⟨Sdz, Edz, Vdz, Sel, Eel, Fee, Vee, Fan, Sem, Eem, Mmr⟩ := id hL
  refine ginfo fun _ _ OL1 => ?_
  have Eem_1 := Eem.ext OL1
  have lt_em : h0.size > em := Eem_1.lt
  refine vIN 1 d439 ?_
  refine vN 4 d440 ((if0 _ _).trans (teq (by decide)).2) ?_
  refine vAN 5 d441 ?_
  refine gF (oz hw 460) P1 8 d442 ?_
  exact gretA hx hret rfl rfl (hb hby d443) (by decide) (by decide) (fun vq Cq => ⟨rfl, rfl⟩)
theorem d934 : Dc y50_ 0 (.aload_n 0) 1 := by decide +kernel
theorem d935 : Dc y50_ 1 (.getfield 17) 3 := by decide +kernel
theorem d936 : Dc y50_ 4 (.istore_n 1) 1 := by decide +kernel
theorem d937 : Dc y50_ 5 (.aload_n 0) 1 := by decide +kernel
theorem d938 : Dc y50_ 6 (.getfield 7) 3 := by decide +kernel
theorem d939 : Dc y50_ 9 (.iload_n 1) 1 := by decide +kernel
theorem d940 : Dc y50_ 10 (.invokeinterface 24 2) 5 := by decide +kernel
theorem own_pd941 : parseMethodDescriptor "(I)Ljava/lang/Object;" = some ⟨[.int], some (.object "java/lang/Object")⟩ := by decide +kernel
abbrev mn942 : MethodName := ⟨"java/util/List", "get", "(I)Ljava/lang/Object;"⟩
theorem d943 : Dc y50_ 15 (.astore_n 2) 1 := by decide +kernel
theorem d944 : Dc y50_ 16 (.aload_n 0) 1 := by decide +kernel
theorem d945 : Dc y50_ 17 (.iload_n 1) 1 := by decide +kernel
theorem d946 : Dc y50_ 18 (.iconst 1) 1 := by decide +kernel
theorem d947 : Dc y50_ 19 (.iadd) 1 := by decide +kernel
theorem d948 : Dc y50_ 20 (.putfield 17) 3 := by decide +kernel
theorem d949 : Dc y50_ 23 (.aload_n 2) 1 := by decide +kernel
theorem d950 : Dc y50_ 24 (.areturn) 1 := by decide +kernel
abbrev mn951 : MethodName := ⟨"java/util/ImmutableCollections$ListItr", "next", "()Ljava/lang/Object;"⟩
theorem own_ln1_0 {l : Launch} {Z : State} {a0 : Array Value} (cx : Ctx Z a0) (it r s0_ : Addr) {dz el ee em mr : Addr} {kd ke : ClassId} (vm0 : Vm) (h0 : Heap) (X00 : Ext Z.heap h0) (P0 : Exa Z h0 it c21_) (P1 : Fld Z h0 it c21_ "list" c3_ (.ref r)) (P2 : Fld Z h0 it c21_ "size" "I" (.int (1 : Int32))) (P3 : Fld Z h0 it c21_ "cursor" "I" (.int (0 : Int32))) (P4 : Z.heap.size ≤ it) (P5 : Exa Z h0 r c20_) (P6 : Fld Z h0 r c20_ "e0" c0_ (.ref s0_)) (P7 : Fld Z h0 r c20_ "e1" c0_ (.ref em)) (P8 : Exa Z h0 s0_ c13_) (hL : (OwnL Z dz el ee em mr kd ke)) :
    MetH l mn951 y50_ 3 (some (.object c12_)) [((0 : Nat), (24 : Nat), (25 : Nat), (30 : Nat))] (Rm 1 0 0 13) Z vm0 h0 #[(.ref it)] (fun rv h => rv = some (.ref s0_) ∧ Keep h0 h [it] ∧ Fld Z h it c21_ "list" c3_ (.ref r) ∧ Fld Z h it c21_ "size" "I" (.int (1 : Int32)) ∧ Fld Z h it c21_ "cursor" "I" (.int (1 : Int32))) := by
  have hw := cx.1
  refine MetH.of_walk (a0 := a0) #[vr it, un, un] (plainFor_of_name own_pn913) X00 (fun _ => rfl) ?_
  intro p e s m below meth c vm hx hby hml hret hnm hC0 hW0
  have lt_it : h0.size > it := P0.lt
  have lt_r : h0.size > r := P5.lt
  have lt_s0_ : h0.size > s0_ := P8.lt
  refine vAN 1 d934 ?_
  refine gF (oz hw 251) P3 4 d935 ?_
  refine vSIN 5 #[vr it, vi (0 : Int32), un] d936 ?_
  refine vAN 6 d937 ?_
  refine gF (oz hw 247) P1 9 d938 ?_
  refine vIN 10 d939 ?_
  refine gmF (xi := mn942) (y := mn444) (oz hw 492) (oz hw 493) (fun _ _ hU => mvT hU (oz hw 494)) (oz hw 495) (oz hw 496) (oz hw 497) (oz hw 498) (oz hw 499) (oz hw 500) (oz hw 438) (fun O => own_gn1_0 cx r s0_ vm h0 O P5 P6 P7 P8 (by first | assumption | decide | omega)) 15 (argsL := [(.int (0 : Int32))]) (rest := []) P5 own_pd941 d940 ?_
  rintro _ vm1 h1 C1 z1 ⟨rfl, rfl⟩
  refine gat1 ?_
  refine vSAN 16 #[vr it, vi (0 : Int32), vr s0_] d943 ?_
  refine vAN 17 d944 ?_
  refine vIN 18 d945 ?_
  refine vKc 19 (1 : Int32) d946 ?_
  refine viadd 20 (1 : Int32) d947 ?_
  refine gputF (host := "") hx (Or.inl (oz hw 251)) Via.refl P3 P0 (Or.inl (oz hw 252)) (oz hw 231) (ty := .int) (by decide) rfl rfl P4 (fun al => Safe.exa al P0 (by decide) (by decide)) 23 (hb hby d948) rfl ?_
  intro h2 W2 C2
  have z2 := C2.2.1
  have F2 := P3.same W2
  refine vAN 24 d949 ?_
  have f4 := (P1.other W2 (Or.inr (slot_ne (Or.inr (oz hw 248)) (Or.inl (oz hw 252)) (by decide) (t := (.object c24_)) (t' := .int) (by decide) (by decide))))
  have f5 := (P2.other W2 (Or.inr (slot_ne (Or.inr (oz hw 250)) (Or.inl (oz hw 252)) (by decide) (t := .int) (t' := .int) (by decide) (by decide))))
  exact gretA hx hret rfl rfl (hb hby d950) (by decide) (by decide) (fun vq Cq => ⟨rfl, ((Keep.refl h0 [it]).wr W2 (Or.inl (List.mem_of_getElem? (i := 0) rfl))), f4, f5, F2⟩)
theorem own_ait2 {l : Launch} {Z : State} {a0 : Array Value} (cx : Ctx Z a0) (r s0_ s1_ : Addr) {dz el ee em mr : Addr} {kd ke : ClassId} (vm0 : Vm) (h0 : Heap) (X00 : Ext Z.heap h0) (P0 : Exa Z h0 r c20_) (P1 : Fld Z h0 r c20_ "e0" c0_ (.ref s0_)) (P2 : Fld Z h0 r c20_ "e1" c0_ (.ref s1_)) (P3 : Exa Z h0 s0_ c13_) (P4 : Exa Z h0 s1_ c13_) (hL : (OwnL Z dz el ee em mr kd ke)) :
    Met l mn933 y41_ 1 (some (.object c23_)) [] (Rm 2 1 4 27) Z consts_1 vm0 h0 #[(.ref r)] (fun rv vm h => ∃ (it : Addr), rv = some (.ref it) ∧ Keep h0 h [] ∧ h0.size ≤ it ∧ Z.heap.size ≤ it ∧ Exa Z h it c21_ ∧ Fld Z h it c21_ "list" c3_ (.ref r) ∧ Fld Z h it c21_ "size" "I" (.int (2 : Int32)) ∧ Fld Z h it c21_ "cursor" "I" (.int (0 : Int32))) := by
  have hw := cx.1
  refine Met.of_walk (a0 := a0) #[vr r] (plainFor_of_name own_pn268) X00 cx.2.1 (fun _ => rfl) ?_
  intro p e s m below meth c vm hx hby hml hret hnm hC0 hW0
  have lt_r : h0.size > r := P0.lt
  have lt_s0_ : h0.size > s0_ := P3.lt
  have lt_s1_ : h0.size > s1_ := P4.lt
  refine gnewO hx (oz hw 230) (oz hw 231) (oz hw 232) 3 (hb hby d924) rfl (by decide) (by decide) ?_
  intro b1 h1 g1 E1 C1 A1 D1 n1 L1
  have z1 := C1.2.1
  have lt_b1 : h1.size > b1 := A1.lt
  have F1_list : Fld Z h1 b1 c21_ "list" c3_ .null := D1 (Or.inr (oz hw 248)) (ty := (.object c24_)) (by decide)
  have F1_size : Fld Z h1 b1 c21_ "size" "I" (.int (0 : Int32)) := D1 (Or.inr (oz hw 250)) (ty := .int) (by decide)
  have F1_cursor : Fld Z h1 b1 c21_ "cursor" "I" (.int (0 : Int32)) := D1 (Or.inl (oz hw 252)) (ty := .int) (by decide)
  have F1_isListIterator : Fld Z h1 b1 c21_ c9_ "Z" (.int (0 : Int32)) := D1 (Or.inr (oz hw 254)) (ty := .boolean) (by decide)
  refine vD 4 d925 ?_
  refine vAN 5 d926 ?_
  refine vAN 6 d927 ?_
  have f3 := (P0.ext E1)
  have f4 := (P1.ext E1)
  have f5 := (P2.ext E1)
  have f6 := (P3.ext E1)
  have f7 := (P4.ext E1)
  refine gmVU (y := mn929) (z := mn438) (owner := c15_) (oz hw 233) (oz hw 234) (oz hw 235) (oz hw 466) (oz hw 467) (oz hw 468) (oz hw 438) (fun O => own_lsize2 cx r s0_ s1_ vm h1 O f3 f4 f5 f6 f7 (by first | assumption | decide | omega)) 9 (argsL := []) (rest := [(.ref r), (.ref b1), (.ref b1)]) f3 own_pd139 d928 ?_
  rintro _ vm2 h2 C2 z2 ⟨rfl, rfl⟩
  refine gat1 ?_
  refine gmI (y := mn912) rfl (oz hw 242) (oz hw 243) (oz hw 245) (oz hw 232) (fun O => own_litinit cx b1 r ((2 : Int32)) (.null) ((0 : Int32)) ((0 : Int32)) vm2 h1 O A1 F1_list F1_size F1_cursor F1_isListIterator n1) 12 (argsL := [(.ref r), (.int (2 : Int32))]) (rest := [(.ref b1)]) (a := b1) own_pd931 d930 ?_
  rintro _ vm8 h8 C8 z8 ⟨rfl, K8, q8_0, q8_1, q8_2⟩
  refine gat0 ?_
  have f10 := (A1.keep K8)
  exact gretA hx hret rfl rfl (hb hby d932) (by decide) (by decide) (fun vq Cq => ⟨b1, rfl, (((Keep.refl h0 []).ext E1).trans K8 (allS (Or.inr (by omega)) all0)), (by omega), n1, f10, q8_0, q8_1, q8_2⟩)
theorem own_gn2_0 {l : Launch} {Z : State} {a0 : Array Value} (cx : Ctx Z a0) (r s0_ s1_ : Addr) {dz el ee em mr : Addr} {kd ke : ClassId} (vm0 : Vm) (h0 : Heap) (X00 : Ext Z.heap h0) (P0 : Exa Z h0 r c20_) (P1 : Fld Z h0 r c20_ "e0" c0_ (.ref s0_)) (P2 : Fld Z h0 r c20_ "e1" c0_ (.ref s1_)) (P3 : Exa Z h0 s0_ c13_) (P4 : Exa Z h0 s1_ c13_) (hL : (OwnL Z dz el ee em mr kd ke)) :
    Met l mn444 y37_ 2 (some (.object c12_)) [] (Rm 0 0 0 0) Z ([] : List (String × Nat)) vm0 h0 #[(.ref r), (.int (0 : Int32))] (fun rv vm h => rv = some (.ref s0_) ∧ h0 = h) := by
  have hw := cx.1
  refine Met.of_walk (a0 := a0) #[vr r, vi (0 : Int32)] (plainFor_of_name own_pn281) X00 (EW.nil (a0 := a0)) (fun _ => rfl) ?_
  intro p e s m below meth c vm hx hby hml hret hnm hC0 hW0
  have lt_r : h0.size > r := P0.lt
  have lt_s0_ : h0.size > s0_ := P3.lt
  have lt_s1_ : h0.size > s1_ := P4.lt
  obtain ⟨Sdz, Edz, Vdz, Sel, Eel, Fee, Vee, Fan, Sem, Eem, Mmr⟩ := id hL
  refine ginfo fun _ _ OL1 => ?_
  have Eem_1 := Eem.ext OL1
  have lt_em : h0.size > em := Eem_1.lt
  refine vIN 1 d439 ?_
  refine vN 4 d440 ((if0 _ _).trans (teq (by decide)).2) ?_
  refine vAN 5 d441 ?_
  refine gF (oz hw 460) P1 8 d442 ?_
  exact gretA hx hret rfl rfl (hb hby d443) (by decide) (by decide) (fun vq Cq => ⟨rfl, rfl⟩)
theorem own_ln2_0 {l : Launch} {Z : State} {a0 : Array Value} (cx : Ctx Z a0) (it r s0_ s1_ : Addr) {dz el ee em mr : Addr} {kd ke : ClassId} (vm0 : Vm) (h0 : Heap) (X00 : Ext Z.heap h0) (P0 : Exa Z h0 it c21_) (P1 : Fld Z h0 it c21_ "list" c3_ (.ref r)) (P2 : Fld Z h0 it c21_ "size" "I" (.int (2 : Int32))) (P3 : Fld Z h0 it c21_ "cursor" "I" (.int (0 : Int32))) (P4 : Z.heap.size ≤ it) (P5 : Exa Z h0 r c20_) (P6 : Fld Z h0 r c20_ "e0" c0_ (.ref s0_)) (P7 : Fld Z h0 r c20_ "e1" c0_ (.ref s1_)) (P8 : Exa Z h0 s0_ c13_) (P9 : Exa Z h0 s1_ c13_) (hL : (OwnL Z dz el ee em mr kd ke)) :
    MetH l mn951 y50_ 3 (some (.object c12_)) [((0 : Nat), (24 : Nat), (25 : Nat), (30 : Nat))] (Rm 1 0 0 13) Z vm0 h0 #[(.ref it)] (fun rv h => rv = some (.ref s0_) ∧ Keep h0 h [it] ∧ Fld Z h it c21_ "list" c3_ (.ref r) ∧ Fld Z h it c21_ "size" "I" (.int (2 : Int32)) ∧ Fld Z h it c21_ "cursor" "I" (.int (1 : Int32))) := by
  have hw := cx.1
  refine MetH.of_walk (a0 := a0) #[vr it, un, un] (plainFor_of_name own_pn913) X00 (fun _ => rfl) ?_
  intro p e s m below meth c vm hx hby hml hret hnm hC0 hW0
  have lt_it : h0.size > it := P0.lt
  have lt_r : h0.size > r := P5.lt
  have lt_s0_ : h0.size > s0_ := P8.lt
  have lt_s1_ : h0.size > s1_ := P9.lt
  refine vAN 1 d934 ?_
  refine gF (oz hw 251) P3 4 d935 ?_
  refine vSIN 5 #[vr it, vi (0 : Int32), un] d936 ?_
  refine vAN 6 d937 ?_
  refine gF (oz hw 247) P1 9 d938 ?_
  refine vIN 10 d939 ?_
  refine gmF (xi := mn942) (y := mn444) (oz hw 492) (oz hw 493) (fun _ _ hU => mvT hU (oz hw 494)) (oz hw 495) (oz hw 496) (oz hw 497) (oz hw 498) (oz hw 499) (oz hw 500) (oz hw 438) (fun O => own_gn2_0 cx r s0_ s1_ vm h0 O P5 P6 P7 P8 P9 (by first | assumption | decide | omega)) 15 (argsL := [(.int (0 : Int32))]) (rest := []) P5 own_pd941 d940 ?_
  rintro _ vm1 h1 C1 z1 ⟨rfl, rfl⟩
  refine gat1 ?_
  refine vSAN 16 #[vr it, vi (0 : Int32), vr s0_] d943 ?_
  refine vAN 17 d944 ?_
  refine vIN 18 d945 ?_
  refine vKc 19 (1 : Int32) d946 ?_
  refine viadd 20 (1 : Int32) d947 ?_
  refine gputF (host := "") hx (Or.inl (oz hw 251)) Via.refl P3 P0 (Or.inl (oz hw 252)) (oz hw 231) (ty := .int) (by decide) rfl rfl P4 (fun al => Safe.exa al P0 (by decide) (by decide)) 23 (hb hby d948) rfl ?_
  intro h2 W2 C2
  have z2 := C2.2.1
  have F2 := P3.same W2
  refine vAN 24 d949 ?_
  have f4 := (P1.other W2 (Or.inr (slot_ne (Or.inr (oz hw 248)) (Or.inl (oz hw 252)) (by decide) (t := (.object c24_)) (t' := .int) (by decide) (by decide))))
  have f5 := (P2.other W2 (Or.inr (slot_ne (Or.inr (oz hw 250)) (Or.inl (oz hw 252)) (by decide) (t := .int) (t' := .int) (by decide) (by decide))))
  exact gretA hx hret rfl rfl (hb hby d950) (by decide) (by decide) (fun vq Cq => ⟨rfl, ((Keep.refl h0 [it]).wr W2 (Or.inl (List.mem_of_getElem? (i := 0) rfl))), f4, f5, F2⟩)
theorem own_gn2_1 {l : Launch} {Z : State} {a0 : Array Value} (cx : Ctx Z a0) (r s0_ s1_ : Addr) {dz el ee em mr : Addr} {kd ke : ClassId} (vm0 : Vm) (h0 : Heap) (X00 : Ext Z.heap h0) (P0 : Exa Z h0 r c20_) (P1 : Fld Z h0 r c20_ "e0" c0_ (.ref s0_)) (P2 : Fld Z h0 r c20_ "e1" c0_ (.ref s1_)) (P3 : Exa Z h0 s0_ c13_) (P4 : Exa Z h0 s1_ c13_) (hL : (OwnL Z dz el ee em mr kd ke)) :
    Met l mn444 y37_ 2 (some (.object c12_)) [] (Rm 0 0 0 0) Z ([] : List (String × Nat)) vm0 h0 #[(.ref r), (.int (1 : Int32))] (fun rv vm h => rv = some (.ref s1_) ∧ h0 = h) := by
  have hw := cx.1
  refine Met.of_walk (a0 := a0) #[vr r, vi (1 : Int32)] (plainFor_of_name own_pn281) X00 (EW.nil (a0 := a0)) (fun _ => rfl) ?_
  intro p e s m below meth c vm hx hby hml hret hnm hC0 hW0
  have lt_r : h0.size > r := P0.lt
  have lt_s0_ : h0.size > s0_ := P3.lt
  have lt_s1_ : h0.size > s1_ := P4.lt
  obtain ⟨Sdz, Edz, Vdz, Sel, Eel, Fee, Vee, Fan, Sem, Eem, Mmr⟩ := id hL
  refine ginfo fun _ _ OL1 => ?_
  have Eem_1 := Eem.ext OL1
  have lt_em : h0.size > em := Eem_1.lt
  refine vIN 1 d439 ?_
  refine vY 9 d440 ((if0 _ _).trans (feq (by decide)).2) ?_
  refine vIN 10 d447 ?_
  refine vKc 11 (1 : Int32) d448 ?_
  refine vNc 14 d449 (teq (by decide)).2 ?_
  refine vAN 15 d450 ?_
  refine gF (oz hw 462) P2 18 d451 ?_
  refine ggetS (host := c19_) hx (Or.inr (oz hw 469)) Via.refl Sem 21 (hb hby d452) rfl ?_
  refine gx (mkF m 24 #[vr r, vi (1 : Int32)] []) (fun T locs X _ _ _ _ kq => Jvm.RoadKit.acmp (g := (mkF m 21 #[vr r, vi (1 : Int32)] [(.ref em), (.ref s1_)])) X hx rfl rfl rfl (pc0 := 21) (pc' := 24) (same := false) rfl (hb hby d453) rfl (decide_eq_false fun q => (ne_exa P4 Eem_1 (by decide)) (Value.ref.inj q)) (by decide) (by decide) kq) ?_
  refine vAN 25 d454 ?_
  refine gF (oz hw 462) P2 28 d455 ?_
  exact gretA hx hret rfl rfl (hb hby d456) (by decide) (by decide) (fun vq Cq => ⟨rfl, rfl⟩)
theorem own_ln2_1 {l : Launch} {Z : State} {a0 : Array Value} (cx : Ctx Z a0) (it r s0_ s1_ : Addr) {dz el ee em mr : Addr} {kd ke : ClassId} (vm0 : Vm) (h0 : Heap) (X00 : Ext Z.heap h0) (P0 : Exa Z h0 it c21_) (P1 : Fld Z h0 it c21_ "list" c3_ (.ref r)) (P2 : Fld Z h0 it c21_ "size" "I" (.int (2 : Int32))) (P3 : Fld Z h0 it c21_ "cursor" "I" (.int (1 : Int32))) (P4 : Z.heap.size ≤ it) (P5 : Exa Z h0 r c20_) (P6 : Fld Z h0 r c20_ "e0" c0_ (.ref s0_)) (P7 : Fld Z h0 r c20_ "e1" c0_ (.ref s1_)) (P8 : Exa Z h0 s0_ c13_) (P9 : Exa Z h0 s1_ c13_) (hL : (OwnL Z dz el ee em mr kd ke)) :
    MetH l mn951 y50_ 3 (some (.object c12_)) [((0 : Nat), (24 : Nat), (25 : Nat), (30 : Nat))] (Rm 1 0 0 13) Z vm0 h0 #[(.ref it)] (fun rv h => rv = some (.ref s1_) ∧ Keep h0 h [it] ∧ Fld Z h it c21_ "list" c3_ (.ref r) ∧ Fld Z h it c21_ "size" "I" (.int (2 : Int32)) ∧ Fld Z h it c21_ "cursor" "I" (.int (2 : Int32))) := by
  have hw := cx.1
  refine MetH.of_walk (a0 := a0) #[vr it, un, un] (plainFor_of_name own_pn913) X00 (fun _ => rfl) ?_
  intro p e s m below meth c vm hx hby hml hret hnm hC0 hW0
  have lt_it : h0.size > it := P0.lt
  have lt_r : h0.size > r := P5.lt
  have lt_s0_ : h0.size > s0_ := P8.lt
  have lt_s1_ : h0.size > s1_ := P9.lt
  refine vAN 1 d934 ?_
  refine gF (oz hw 251) P3 4 d935 ?_
  refine vSIN 5 #[vr it, vi (1 : Int32), un] d936 ?_
  refine vAN 6 d937 ?_
  refine gF (oz hw 247) P1 9 d938 ?_
  refine vIN 10 d939 ?_
  refine gmF (xi := mn942) (y := mn444) (oz hw 492) (oz hw 493) (fun _ _ hU => mvT hU (oz hw 494)) (oz hw 495) (oz hw 496) (oz hw 497) (oz hw 498) (oz hw 499) (oz hw 500) (oz hw 438) (fun O => own_gn2_1 cx r s0_ s1_ vm h0 O P5 P6 P7 P8 P9 (by first | assumption | decide | omega)) 15 (argsL := [(.int (1 : Int32))]) (rest := []) P5 own_pd941 d940 ?_
  rintro _ vm1 h1 C1 z1 ⟨rfl, rfl⟩
  refine gat1 ?_
  refine vSAN 16 #[vr it, vi (1 : Int32), vr s1_] d943 ?_
  refine vAN 17 d944 ?_
  refine vIN 18 d945 ?_
  refine vKc 19 (1 : Int32) d946 ?_
  refine viadd 20 (2 : Int32) d947 ?_
  refine gputF (host := "") hx (Or.inl (oz hw 251)) Via.refl P3 P0 (Or.inl (oz hw 252)) (oz hw 231) (ty := .int) (by decide) rfl rfl P4 (fun al => Safe.exa al P0 (by decide) (by decide)) 23 (hb hby d948) rfl ?_
  intro h2 W2 C2
  have z2 := C2.2.1
  have F2 := P3.same W2
  refine vAN 24 d949 ?_
  have f4 := (P1.other W2 (Or.inr (slot_ne (Or.inr (oz hw 248)) (Or.inl (oz hw 252)) (by decide) (t := (.object c24_)) (t' := .int) (by decide) (by decide))))
  have f5 := (P2.other W2 (Or.inr (slot_ne (Or.inr (oz hw 250)) (Or.inl (oz hw 252)) (by decide) (t := .int) (t' := .int) (by decide) (by decide))))
  exact gretA hx hret rfl rfl (hb hby d950) (by decide) (by decide) (fun vq Cq => ⟨rfl, ((Keep.refl h0 [it]).wr W2 (Or.inl (List.mem_of_getElem? (i := 0) rfl))), f4, f5, F2⟩)
theorem own_ait3 {l : Launch} {Z : State} {a0 : Array Value} (cx : Ctx Z a0) (r g : Addr) (kg : ClassId) (s0_ s1_ s2_ : Addr) {dz el ee em mr : Addr} {kd ke : ClassId} (vm0 : Vm) (h0 : Heap) (X00 : Ext Z.heap h0) (P0 : Exa Z h0 r c22_) (P1 : Fld Z h0 r c22_ "elements" c4_ (.ref g)) (P2 : Arv Z h0 g kg (.object c12_) (3 : Int32) [(.ref s0_), (.ref s1_), (.ref s2_)] .null) (P3 : Exa Z h0 s0_ c13_) (P4 : Exa Z h0 s1_ c13_) (P5 : Exa Z h0 s2_ c13_) (hL : (OwnL Z dz el ee em mr kd ke)) :
    Met l mn933 y41_ 1 (some (.object c23_)) [] (Rm 2 1 4 27) Z consts_1 vm0 h0 #[(.ref r)] (fun rv vm h => ∃ (it : Addr), rv = some (.ref it) ∧ Keep h0 h [] ∧ h0.size ≤ it ∧ Z.heap.size ≤ it ∧ Exa Z h it c21_ ∧ Fld Z h it c21_ "list" c3_ (.ref r) ∧ Fld Z h it c21_ "size" "I" (.int (3 : Int32)) ∧ Fld Z h it c21_ "cursor" "I" (.int (0 : Int32))) := by
  have hw := cx.1
  refine Met.of_walk (a0 := a0) #[vr r] (plainFor_of_name own_pn268) X00 cx.2.1 (fun _ => rfl) ?_
  intro p e s m below meth c vm hx hby hml hret hnm hC0 hW0
  have lt_r : h0.size > r := P0.lt
  have lt_g : h0.size > g := P2.lt
  have lt_s0_ : h0.size > s0_ := P3.lt
  have lt_s1_ : h0.size > s1_ := P4.lt
  have lt_s2_ : h0.size > s2_ := P5.lt
  refine gnewO hx (oz hw 230) (oz hw 231) (oz hw 232) 3 (hb hby d924) rfl (by decide) (by decide) ?_
  intro b1 h1 g1 E1 C1 A1 D1 n1 L1
  have z1 := C1.2.1
  have lt_b1 : h1.size > b1 := A1.lt
  have F1_list : Fld Z h1 b1 c21_ "list" c3_ .null := D1 (Or.inr (oz hw 248)) (ty := (.object c24_)) (by decide)
  have F1_size : Fld Z h1 b1 c21_ "size" "I" (.int (0 : Int32)) := D1 (Or.inr (oz hw 250)) (ty := .int) (by decide)
  have F1_cursor : Fld Z h1 b1 c21_ "cursor" "I" (.int (0 : Int32)) := D1 (Or.inl (oz hw 252)) (ty := .int) (by decide)
  have F1_isListIterator : Fld Z h1 b1 c21_ c9_ "Z" (.int (0 : Int32)) := D1 (Or.inr (oz hw 254)) (ty := .boolean) (by decide)
  refine vD 4 d925 ?_
  refine vAN 5 d926 ?_
  refine vAN 6 d927 ?_
  have f3 := (P0.ext E1)
  have f4 := (P1.ext E1)
  have f5 := (P2.ext E1)
  refine gmVU (y := mn929) (z := mn426) (owner := c15_) (oz hw 233) (oz hw 234) (oz hw 235) (oz hw 236) (oz hw 237) (oz hw 239) (oz hw 238) (fun O => own_lsize3 cx r g kg s0_ s1_ s2_ vm h1 O f3 f4 f5) 9 (argsL := []) (rest := [(.ref r), (.ref b1), (.ref b1)]) f3 own_pd139 d928 ?_
  rintro _ vm2 h2 C2 z2 ⟨rfl, rfl⟩
  refine gat1 ?_
  refine gmI (y := mn912) rfl (oz hw 242) (oz hw 243) (oz hw 245) (oz hw 232) (fun O => own_litinit cx b1 r ((3 : Int32)) (.null) ((0 : Int32)) ((0 : Int32)) vm2 h1 O A1 F1_list F1_size F1_cursor F1_isListIterator n1) 12 (argsL := [(.ref r), (.int (3 : Int32))]) (rest := [(.ref b1)]) (a := b1) own_pd931 d930 ?_
  rintro _ vm6 h6 C6 z6 ⟨rfl, K6, q6_0, q6_1, q6_2⟩
  refine gat0 ?_
  have f8 := (A1.keep K6)
  exact gretA hx hret rfl rfl (hb hby d932) (by decide) (by decide) (fun vq Cq => ⟨b1, rfl, (((Keep.refl h0 []).ext E1).trans K6 (allS (Or.inr (by omega)) all0)), (by omega), n1, f8, q6_0, q6_1, q6_2⟩)
theorem own_gn3_0 {l : Launch} {Z : State} {a0 : Array Value} (cx : Ctx Z a0) (r g : Addr) (kg : ClassId) (s0_ s1_ s2_ : Addr) (vm0 : Vm) (h0 : Heap) (X00 : Ext Z.heap h0) (P0 : Exa Z h0 r c22_) (P1 : Fld Z h0 r c22_ "elements" c4_ (.ref g)) (P2 : Arv Z h0 g kg (.object c12_) (3 : Int32) [(.ref s0_), (.ref s1_), (.ref s2_)] .null) :
    Met l mn462 y40_ 2 (some (.object c12_)) [] (Rm 0 0 0 0) Z ([] : List (String × Nat)) vm0 h0 #[(.ref r), (.int (0 : Int32))] (fun rv vm h => rv = some (.ref s0_) ∧ h0 = h) := by
  have hw := cx.1
  refine Met.of_walk (a0 := a0) #[vr r, vi (0 : Int32)] (plainFor_of_name own_pn304) X00 (EW.nil (a0 := a0)) (fun _ => rfl) ?_
  intro p e s m below meth c vm hx hby hml hret hnm hC0 hW0
  have lt_r : h0.size > r := P0.lt
  have lt_g : h0.size > g := P2.lt
  refine vAN 1 d457 ?_
  refine gF (oz hw 240) P1 4 d458 ?_
  refine vIN 5 d459 ?_
  refine gldR hx P2 ⟨by decide, by decide⟩ (i := 0) rfl (v := (.ref s0_)) rfl 6 (hb hby d460) rfl ?_
  exact gretA hx hret rfl rfl (hb hby d461) (by decide) (by decide) (fun vq Cq => ⟨rfl, rfl⟩)
theorem own_ln3_0 {l : Launch} {Z : State} {a0 : Array Value} (cx : Ctx Z a0) (it r g : Addr) (kg : ClassId) (s0_ s1_ s2_ : Addr) {dz el ee em mr : Addr} {kd ke : ClassId} (vm0 : Vm) (h0 : Heap) (X00 : Ext Z.heap h0) (P0 : Exa Z h0 it c21_) (P1 : Fld Z h0 it c21_ "list" c3_ (.ref r)) (P2 : Fld Z h0 it c21_ "size" "I" (.int (3 : Int32))) (P3 : Fld Z h0 it c21_ "cursor" "I" (.int (0 : Int32))) (P4 : Z.heap.size ≤ it) (P5 : Exa Z h0 r c22_) (P6 : Fld Z h0 r c22_ "elements" c4_ (.ref g)) (P7 : Arv Z h0 g kg (.object c12_) (3 : Int32) [(.ref s0_), (.ref s1_), (.ref s2_)] .null) (P8 : Exa Z h0 s0_ c13_) (P9 : Exa Z h0 s1_ c13_) (P10 : Exa Z h0 s2_ c13_) (hL : (OwnL Z dz el ee em mr kd ke)) :
    MetH l mn951 y50_ 3 (some (.object c12_)) [((0 : Nat), (24 : Nat), (25 : Nat), (30 : Nat))] (Rm 1 0 0 13) Z vm0 h0 #[(.ref it)] (fun rv h => rv = some (.ref s0_) ∧ Keep h0 h [it] ∧ Fld Z h it c21_ "list" c3_ (.ref r) ∧ Fld Z h it c21_ "size" "I" (.int (3 : Int32)) ∧ Fld Z h it c21_ "cursor" "I" (.int (1 : Int32))) := by
  have hw := cx.1
  refine MetH.of_walk (a0 := a0) #[vr it, un, un] (plainFor_of_name own_pn913) X00 (fun _ => rfl) ?_
  intro p e s m below meth c vm hx hby hml hret hnm hC0 hW0
  have lt_it : h0.size > it := P0.lt
  have lt_r : h0.size > r := P5.lt
  have lt_g : h0.size > g := P7.lt
  have lt_s0_ : h0.size > s0_ := P8.lt
  have lt_s1_ : h0.size > s1_ := P9.lt
  have lt_s2_ : h0.size > s2_ := P10.lt
  refine vAN 1 d934 ?_
  refine gF (oz hw 251) P3 4 d935 ?_
  refine vSIN 5 #[vr it, vi (0 : Int32), un] d936 ?_
  refine vAN 6 d937 ?_
  refine gF (oz hw 247) P1 9 d938 ?_
  refine vIN 10 d939 ?_
  refine gmF (xi := mn942) (y := mn462) (oz hw 492) (oz hw 493) (fun _ _ hU => mvT hU (oz hw 494)) (oz hw 522) (oz hw 523) (oz hw 524) (oz hw 525) (oz hw 526) (oz hw 527) (oz hw 238) (fun O => own_gn3_0 cx r g kg s0_ s1_ s2_ vm h0 O P5 P6 P7) 15 (argsL := [(.int (0 : Int32))]) (rest := []) P5 own_pd941 d940 ?_
  rintro _ vm1 h1 C1 z1 ⟨rfl, rfl⟩
  refine gat1 ?_
  refine vSAN 16 #[vr it, vi (0 : Int32), vr s0_] d943 ?_
  refine vAN 17 d944 ?_
  refine vIN 18 d945 ?_
  refine vKc 19 (1 : Int32) d946 ?_
  refine viadd 20 (1 : Int32) d947 ?_
  refine gputF (host := "") hx (Or.inl (oz hw 251)) Via.refl P3 P0 (Or.inl (oz hw 252)) (oz hw 231) (ty := .int) (by decide) rfl rfl P4 (fun al => Safe.exa al P0 (by decide) (by decide)) 23 (hb hby d948) rfl ?_
  intro h2 W2 C2
  have z2 := C2.2.1
  have F2 := P3.same W2
  refine vAN 24 d949 ?_
  have f4 := (P1.other W2 (Or.inr (slot_ne (Or.inr (oz hw 248)) (Or.inl (oz hw 252)) (by decide) (t := (.object c24_)) (t' := .int) (by decide) (by decide))))
  have f5 := (P2.other W2 (Or.inr (slot_ne (Or.inr (oz hw 250)) (Or.inl (oz hw 252)) (by decide) (t := .int) (t' := .int) (by decide) (by decide))))
  exact gretA hx hret rfl rfl (hb hby d950) (by decide) (by decide) (fun vq Cq => ⟨rfl, ((Keep.refl h0 [it]).wr W2 (Or.inl (List.mem_of_getElem? (i := 0) rfl))), f4, f5, F2⟩)
theorem own_gn3_1 {l : Launch} {Z : State} {a0 : Array Value} (cx : Ctx Z a0) (r g : Addr) (kg : ClassId) (s0_ s1_ s2_ : Addr) (vm0 : Vm) (h0 : Heap) (X00 : Ext Z.heap h0) (P0 : Exa Z h0 r c22_) (P1 : Fld Z h0 r c22_ "elements" c4_ (.ref g)) (P2 : Arv Z h0 g kg (.object c12_) (3 : Int32) [(.ref s0_), (.ref s1_), (.ref s2_)] .null) :
    Met l mn462 y40_ 2 (some (.object c12_)) [] (Rm 0 0 0 0) Z ([] : List (String × Nat)) vm0 h0 #[(.ref r), (.int (1 : Int32))] (fun rv vm h => rv = some (.ref s1_) ∧ h0 = h) := by
  have hw := cx.1
  refine Met.of_walk (a0 := a0) #[vr r, vi (1 : Int32)] (plainFor_of_name own_pn304) X00 (EW.nil (a0 := a0)) (fun _ => rfl) ?_
  intro p e s m below meth c vm hx hby hml hret hnm hC0 hW0
  have lt_r : h0.size > r := P0.lt
  have lt_g : h0.size > g := P2.lt
  refine vAN 1 d457 ?_
  refine gF (oz hw 240) P1 4 d458 ?_
  refine vIN 5 d459 ?_
  refine gldR hx P2 ⟨by decide, by decide⟩ (i := 1) rfl (v := (.ref s1_)) rfl 6 (hb hby d460) rfl ?_
  exact gretA hx hret rfl rfl (hb hby d461) (by decide) (by decide) (fun vq Cq => ⟨rfl, rfl⟩)
theorem own_ln3_1 {l : Launch} {Z : State} {a0 : Array Value} (cx : Ctx Z a0) (it r g : Addr) (kg : ClassId) (s0_ s1_ s2_ : Addr) {dz el ee em mr : Addr} {kd ke : ClassId} (vm0 : Vm) (h0 : Heap) (X00 : Ext Z.heap h0) (P0 : Exa Z h0 it c21_) (P1 : Fld Z h0 it c21_ "list" c3_ (.ref r)) (P2 : Fld Z h0 it c21_ "size" "I" (.int (3 : Int32))) (P3 : Fld Z h0 it c21_ "cursor" "I" (.int (1 : Int32))) (P4 : Z.heap.size ≤ it) (P5 : Exa Z h0 r c22_) (P6 : Fld Z h0 r c22_ "elements" c4_ (.ref g)) (P7 : Arv Z h0 g kg (.object c12_) (3 : Int32) [(.ref s0_), (.ref s1_), (.ref s2_)] .null) (P8 : Exa Z h0 s0_ c13_) (P9 : Exa Z h0 s1_ c13_) (P10 : Exa Z h0 s2_ c13_) (hL : (OwnL Z dz el ee em mr kd ke)) :
    MetH l mn951 y50_ 3 (some (.object c12_)) [((0 : Nat), (24 : Nat), (25 : Nat), (30 : Nat))] (Rm 1 0 0 13) Z vm0 h0 #[(.ref it)] (fun rv h => rv = some (.ref s1_) ∧ Keep h0 h [it] ∧ Fld Z h it c21_ "list" c3_ (.ref r) ∧ Fld Z h it c21_ "size" "I" (.int (3 : Int32)) ∧ Fld Z h it c21_ "cursor" "I" (.int (2 : Int32))) := by
  have hw := cx.1
  refine MetH.of_walk (a0 := a0) #[vr it, un, un] (plainFor_of_name own_pn913) X00 (fun _ => rfl) ?_
  intro p e s m below meth c vm hx hby hml hret hnm hC0 hW0
  have lt_it : h0.size > it := P0.lt
  have lt_r : h0.size > r := P5.lt
  have lt_g : h0.size > g := P7.lt
  have lt_s0_ : h0.size > s0_ := P8.lt
  have lt_s1_ : h0.size > s1_ := P9.lt
  have lt_s2_ : h0.size > s2_ := P10.lt
  refine vAN 1 d934 ?_
  refine gF (oz hw 251) P3 4 d935 ?_
  refine vSIN 5 #[vr it, vi (1 : Int32), un] d936 ?_
  refine vAN 6 d937 ?_
  refine gF (oz hw 247) P1 9 d938 ?_
  refine vIN 10 d939 ?_
  refine gmF (xi := mn942) (y := mn462) (oz hw 492) (oz hw 493) (fun _ _ hU => mvT hU (oz hw 494)) (oz hw 522) (oz hw 523) (oz hw 524) (oz hw 525) (oz hw 526) (oz hw 527) (oz hw 238) (fun O => own_gn3_1 cx r g kg s0_ s1_ s2_ vm h0 O P5 P6 P7) 15 (argsL := [(.int (1 : Int32))]) (rest := []) P5 own_pd941 d940 ?_
  rintro _ vm1 h1 C1 z1 ⟨rfl, rfl⟩
  refine gat1 ?_
  refine vSAN 16 #[vr it, vi (1 : Int32), vr s1_] d943 ?_
  refine vAN 17 d944 ?_
  refine vIN 18 d945 ?_
  refine vKc 19 (1 : Int32) d946 ?_
  refine viadd 20 (2 : Int32) d947 ?_
  refine gputF (host := "") hx (Or.inl (oz hw 251)) Via.refl P3 P0 (Or.inl (oz hw 252)) (oz hw 231) (ty := .int) (by decide) rfl rfl P4 (fun al => Safe.exa al P0 (by decide) (by decide)) 23 (hb hby d948) rfl ?_
  intro h2 W2 C2
  have z2 := C2.2.1
  have F2 := P3.same W2
  refine vAN 24 d949 ?_
  have f4 := (P1.other W2 (Or.inr (slot_ne (Or.inr (oz hw 248)) (Or.inl (oz hw 252)) (by decide) (t := (.object c24_)) (t' := .int) (by decide) (by decide))))
  have f5 := (P2.other W2 (Or.inr (slot_ne (Or.inr (oz hw 250)) (Or.inl (oz hw 252)) (by decide) (t := .int) (t' := .int) (by decide) (by decide))))
  exact gretA hx hret rfl rfl (hb hby d950) (by decide) (by decide) (fun vq Cq => ⟨rfl, ((Keep.refl h0 [it]).wr W2 (Or.inl (List.mem_of_getElem? (i := 0) rfl))), f4, f5, F2⟩)
theorem own_gn3_2 {l : Launch} {Z : State} {a0 : Array Value} (cx : Ctx Z a0) (r g : Addr) (kg : ClassId) (s0_ s1_ s2_ : Addr) (vm0 : Vm) (h0 : Heap) (X00 : Ext Z.heap h0) (P0 : Exa Z h0 r c22_) (P1 : Fld Z h0 r c22_ "elements" c4_ (.ref g)) (P2 : Arv Z h0 g kg (.object c12_) (3 : Int32) [(.ref s0_), (.ref s1_), (.ref s2_)] .null) :
    Met l mn462 y40_ 2 (some (.object c12_)) [] (Rm 0 0 0 0) Z ([] : List (String × Nat)) vm0 h0 #[(.ref r), (.int (2 : Int32))] (fun rv vm h => rv = some (.ref s2_) ∧ h0 = h) := by
  have hw := cx.1
  refine Met.of_walk (a0 := a0) #[vr r, vi (2 : Int32)] (plainFor_of_name own_pn304) X00 (EW.nil (a0 := a0)) (fun _ => rfl) ?_
  intro p e s m below meth c vm hx hby hml hret hnm hC0 hW0
  have lt_r : h0.size > r := P0.lt
  have lt_g : h0.size > g := P2.lt
  refine vAN 1 d457 ?_
  refine gF (oz hw 240) P1 4 d458 ?_
  refine vIN 5 d459 ?_
  refine gldR hx P2 ⟨by decide, by decide⟩ (i := 2) rfl (v := (.ref s2_)) rfl 6 (hb hby d460) rfl ?_
  exact gretA hx hret rfl rfl (hb hby d461) (by decide) (by decide) (fun vq Cq => ⟨rfl, rfl⟩)
theorem own_ln3_2 {l : Launch} {Z : State} {a0 : Array Value} (cx : Ctx Z a0) (it r g : Addr) (kg : ClassId) (s0_ s1_ s2_ : Addr) {dz el ee em mr : Addr} {kd ke : ClassId} (vm0 : Vm) (h0 : Heap) (X00 : Ext Z.heap h0) (P0 : Exa Z h0 it c21_) (P1 : Fld Z h0 it c21_ "list" c3_ (.ref r)) (P2 : Fld Z h0 it c21_ "size" "I" (.int (3 : Int32))) (P3 : Fld Z h0 it c21_ "cursor" "I" (.int (2 : Int32))) (P4 : Z.heap.size ≤ it) (P5 : Exa Z h0 r c22_) (P6 : Fld Z h0 r c22_ "elements" c4_ (.ref g)) (P7 : Arv Z h0 g kg (.object c12_) (3 : Int32) [(.ref s0_), (.ref s1_), (.ref s2_)] .null) (P8 : Exa Z h0 s0_ c13_) (P9 : Exa Z h0 s1_ c13_) (P10 : Exa Z h0 s2_ c13_) (hL : (OwnL Z dz el ee em mr kd ke)) :
    MetH l mn951 y50_ 3 (some (.object c12_)) [((0 : Nat), (24 : Nat), (25 : Nat), (30 : Nat))] (Rm 1 0 0 13) Z vm0 h0 #[(.ref it)] (fun rv h => rv = some (.ref s2_) ∧ Keep h0 h [it] ∧ Fld Z h it c21_ "list" c3_ (.ref r) ∧ Fld Z h it c21_ "size" "I" (.int (3 : Int32)) ∧ Fld Z h it c21_ "cursor" "I" (.int (3 : Int32))) := by
  have hw := cx.1
  refine MetH.of_walk (a0 := a0) #[vr it, un, un] (plainFor_of_name own_pn913) X00 (fun _ => rfl) ?_
  intro p e s m below meth c vm hx hby hml hret hnm hC0 hW0
  have lt_it : h0.size > it := P0.lt
  have lt_r : h0.size > r := P5.lt
  have lt_g : h0.size > g := P7.lt
  have lt_s0_ : h0.size > s0_ := P8.lt
  have lt_s1_ : h0.size > s1_ := P9.lt
  have lt_s2_ : h0.size > s2_ := P10.lt
  refine vAN 1 d934 ?_
  refine gF (oz hw 251) P3 4 d935 ?_
  refine vSIN 5 #[vr it, vi (2 : Int32), un] d936 ?_
  refine vAN 6 d937 ?_
  refine gF (oz hw 247) P1 9 d938 ?_
  refine vIN 10 d939 ?_
  refine gmF (xi := mn942) (y := mn462) (oz hw 492) (oz hw 493) (fun _ _ hU => mvT hU (oz hw 494)) (oz hw 522) (oz hw 523) (oz hw 524) (oz hw 525) (oz hw 526) (oz hw 527) (oz hw 238) (fun O => own_gn3_2 cx r g kg s0_ s1_ s2_ vm h0 O P5 P6 P7) 15 (argsL := [(.int (2 : Int32))]) (rest := []) P5 own_pd941 d940 ?_
  rintro _ vm1 h1 C1 z1 ⟨rfl, rfl⟩
  refine gat1 ?_
  refine vSAN 16 #[vr it, vi (2 : Int32), vr s2_] d943 ?_
  refine vAN 17 d944 ?_
  refine vIN 18 d945 ?_
  refine vKc 19 (1 : Int32) d946 ?_
  refine viadd 20 (3 : Int32) d947 ?_
  refine gputF (host := "") hx (Or.inl (oz hw 251)) Via.refl P3 P0 (Or.inl (oz hw 252)) (oz hw 231) (ty := .int) (by decide) rfl rfl P4 (fun al => Safe.exa al P0 (by decide) (by decide)) 23 (hb hby d948) rfl ?_
  intro h2 W2 C2
  have z2 := C2.2.1
  have F2 := P3.same W2
  refine vAN 24 d949 ?_
  have f4 := (P1.other W2 (Or.inr (slot_ne (Or.inr (oz hw 248)) (Or.inl (oz hw 252)) (by decide) (t := (.object c24_)) (t' := .int) (by decide) (by decide))))
  have f5 := (P2.other W2 (Or.inr (slot_ne (Or.inr (oz hw 250)) (Or.inl (oz hw 252)) (by decide) (t := .int) (t' := .int) (by decide) (by decide))))
  exact gretA hx hret rfl rfl (hb hby d950) (by decide) (by decide) (fun vq Cq => ⟨rfl, ((Keep.refl h0 [it]).wr W2 (Or.inl (List.mem_of_getElem? (i := 0) rfl))), f4, f5, F2⟩)
theorem d952 : Dc y2_ 0 (.aload_n 0) 1 := by decide +kernel
theorem d953 : Dc y2_ 1 (.invokevirtual 13) 3 := by decide +kernel
abbrev mn954 : MethodName := ⟨"java/util/AbstractCollection", "iterator", "()Ljava/util/Iterator;"⟩
theorem d955 : Dc y2_ 4 (.astore_n 1) 1 := by decide +kernel
theorem d956 : Dc y2_ 5 (.aload_n 1) 1 := by decide +kernel
theorem d957 : Dc y2_ 6 (.invokeinterface 17 1) 5 := by decide +kernel
theorem d958 : Dc y2_ 11 (.ifCond .ne 6) 3 := by decide +kernel
theorem d959 : Dc y2_ 14 (.ldc 92) 2 := by decide +kernel
theorem d960 : Dc y2_ 16 (.areturn) 1 := by decide +kernel
abbrev mn961 : MethodName := ⟨"java/util/AbstractCollection", "toString", "()Ljava/lang/String;"⟩
theorem own_cts0 {l : Launch} {Z : State} {a0 : Array Value} (cx : Ctx Z a0) {dz el ee em mr : Addr} {kd ke : ClassId} (vm0 : Vm) (h0 : Heap) (X00 : Ext Z.heap h0) (hL : (OwnL Z dz el ee em mr kd ke)) :
    Met l mn961 y2_ 4 (some (.object c13_)) [] (Rm 3 3 16 39) Z consts_1 vm0 h0 #[(.ref el)] (fun rv vm h => ∃ (r : Addr), ∃ (t : Addr), rv = some (.ref r) ∧ Keep h0 h [] ∧ Str Z h r t [(91 : Int32), (93 : Int32)] ∧ (∀ z, h0.size > z → Safe Z consts_1 vm0 h0 z → z ≠ r ∧ z ≠ t)) := by
  have hw := cx.1
  have hSA := own_SA hw
  refine Met.of_walk (a0 := a0) #[vr el, un, un, un] (plainFor_of_name own_pn150) X00 cx.2.1 (fun _ => rfl) ?_
  intro p e s m below meth c vm hx hby hml hret hnm hC0 hW0
  obtain ⟨Sdz, Edz, Vdz, Sel, Eel, Fee, Vee, Fan, Sem, Eem, Mmr⟩ := id hL
  refine ginfo fun _ _ OL1 => ?_
  have Eel_1 := Eel.ext OL1
  have lt_el : h0.size > el := Eel_1.lt
  refine vAN 1 d952 ?_
  refine gmV (y := mn954) (z := mn933) (oz hw 224) (oz hw 225) (nfSup (oz hw 118)) (oz hw 226) (oz hw 227) (oz hw 229) (oz hw 228) (fun O => own_ait0 cx  vm h0 O (by first | assumption | decide | omega)) 4 (argsL := []) (rest := []) Eel_1 own_pd545 d953 ?_
  rintro _ vm2 h2 C2 z2 ⟨it2, rfl, K2, q2_0, q2_1, q2_2, q2_3, q2_4, q2_5⟩
  have lt_it2 : h2.size > it2 := q2_2.lt
  refine gat1 ?_
  refine vSAN 5 #[vr el, vr it2, un, un] d955 ?_
  refine vAN 6 d956 ?_
  refine gmF (xi := mn550) (y := mn921) (oz hw 255) (oz hw 91) (fun _ _ hU => mvT hU (oz hw 92)) (oz hw 256) (oz hw 257) (oz hw 258) (oz hw 259) (oz hw 260) (oz hw 261) (oz hw 232) (fun O => own_lhnE cx it2 ((0 : Int32)) vm2 h2 O q2_4 q2_5) 11 (argsL := []) (rest := []) q2_2 own_pd43 d957 ?_
  rintro _ vm3 h3 C3 z3 ⟨rfl, rfl⟩
  refine gat1 ?_
  refine vN 14 d958 ((if0 _ _).trans (teq (by decide)).2) ?_
  refine gldcRq hx (oz hw 262) hSA (by decide) (n := 8) (by decide) (by decide) (vs := [Value.int (91 : Int32), Value.int (93 : Int32)]) (z := (2 : Int32)) (by decide +kernel) (by decide) (by decide) 16 (hb hby d959) rfl (by decide) (by decide) ?_
  intro b4 t4 k4 vm4 h4 E4 C4 Q4a Q4b Q4c Q4d Q4e
  have z4 := C4.2.1
  have S4 : Str Z h4 b4 t4 [(91 : Int32), (93 : Int32)] := Str.lit Q4a Q4b Q4c Q4d (by decide) rfl rfl (by decide)
  have lt_b4 : h4.size > b4 := S4.1.lt
  have lt_t4 : h4.size > t4 := S4.tlt
  exact gretA hx hret rfl rfl (hb hby d960) (by decide) (by decide) (fun vq Cq => ⟨b4, t4, rfl, (((Keep.refl h0 []).trans K2 all0).ext E4), S4, (fun z hz Sz => Q4e z ((hC0.trans ((C2.trans C3).trans C4)).safe hz Sz))⟩)
theorem own_vol0 {l : Launch} {Z : State} {a0 : Array Value} (cx : Ctx Z a0) {dz el ee em mr : Addr} {kd ke : ClassId} (vm0 : Vm) (h0 : Heap) (X00 : Ext Z.heap h0) (hL : (OwnL Z dz el ee em mr kd ke)) :
    Met l mn888 y21_ 1 (some (.object c13_)) [] (Rm 4 3 16 54) Z consts_1 vm0 h0 #[(.ref el)] (fun rv vm h => ∃ (r : Addr), ∃ (t : Addr), rv = some (.ref r) ∧ Keep h0 h [] ∧ Str Z h r t [(91 : Int32), (93 : Int32)] ∧ (∀ z, h0.size > z → Safe Z consts_1 vm0 h0 z → z ≠ r ∧ z ≠ t)) := by
  have hw := cx.1
  refine Met.of_walk (a0 := a0) #[vr el] (plainFor_of_name own_pn17) X00 cx.2.1 (fun _ => rfl) ?_
  intro p e s m below meth c vm hx hby hml hret hnm hC0 hW0
  obtain ⟨Sdz, Edz, Vdz, Sel, Eel, Fee, Vee, Fan, Sem, Eem, Mmr⟩ := id hL
  refine ginfo fun _ _ OL1 => ?_
  have Eel_1 := Eel.ext OL1
  have lt_el : h0.size > el := Eel_1.lt
  refine vAN 1 d880 ?_
  refine vY1 10 d881 ?_
  refine vAN 11 d882 ?_
  refine gmV (y := mn885) (z := mn961) (oz hw 218) (oz hw 219) (nfSame (y' := mn886) (oz hw 425) (oz hw 424) rfl) (oz hw 221) (oz hw 222) (oz hw 223) (oz hw 50) (fun O => own_cts0 cx  vm h0 O (by first | assumption | decide | omega)) 14 (argsL := []) (rest := []) Eel_1 own_pd884 d883 ?_
  rintro _ vm2 h2 C2 z2 ⟨r2, t2, rfl, K2, q2_0, q2_1⟩
  have lt_r2 : h2.size > r2 := q2_0.1.lt
  have lt_t2 : h2.size > t2 := q2_0.tlt
  refine gat1 ?_
  exact gretA hx hret rfl rfl (hb hby d887) (by decide) (by decide) (fun vq Cq => ⟨r2, t2, rfl, ((Keep.refl h0 []).trans K2 all0), q2_0, (fun z hz Sz => q2_1 z hz (hC0.safe hz Sz))⟩)
theorem own_apl0 {l : Launch} {Z : State} {a0 : Array Value} (cx : Ctx Z a0) (b v : Addr) (cap : Nat) (cs : List Int32) {dz el ee em mr : Addr} {kd ke : ClassId} (vm0 : Vm) (h0 : Heap) (X00 : Ext Z.heap h0) (P0 : SBd Z h0 b v cap cs) (P1 : Z.heap.size ≤ b) (P2 : Z.heap.size ≤ v) (P3 : Safe Z consts_1 vm0 h0 v) (hcs : (cs.length ≤ 3)) (hcap : (16 ≤ cap)) (hL : (OwnL Z dz el ee em mr kd ke)) :
    Met l mn896 y61_ 2 (some (.object c14_)) [] (Rm 5 3 16 74) Z consts_1 vm0 h0 #[(.ref b), (.ref el)] (fun rv vm h => rv = some (.ref b) ∧ Keep h0 h [b, v] ∧ SBd Z h b v cap (cs ++ [(91 : Int32), (93 : Int32)]) ∧ Safe Z consts_1 vm h v) := by
  have hw := cx.1
  refine Met.of_walk (a0 := a0) #[vr b, vr el] (plainFor_of_name own_pn596) X00 cx.2.1 (fun _ => rfl) ?_
  intro p e s m below meth c vm hx hby hml hret hnm hC0 hW0
  have lt_v : h0.size > v := P0.vlt
  have lt_b : h0.size > b := P0.1.lt
  have L3 := hC0.safe lt_v P3
  obtain ⟨Sdz, Edz, Vdz, Sel, Eel, Fee, Vee, Fan, Sem, Eem, Mmr⟩ := id hL
  refine ginfo fun _ _ OL1 => ?_
  have Eel_1 := Eel.ext OL1
  have lt_el : h0.size > el := Eel_1.lt
  have eE := P0.1
  refine vAN 1 d889 ?_
  refine vAN 2 d890 ?_
  refine gmS (y := mn888) (oz hw 215) (oz hw 216) (oz hw 217) (oz hw 6) (fun O => own_vol0 cx  vm h0 O (by first | assumption | decide | omega)) 5 (argsL := [(.ref el)]) (rest := [(.ref b)]) own_pd892 d891 ?_
  rintro _ vm2 h2 C2 z2 ⟨r2, t2, rfl, K2, q2_0, q2_1⟩
  have lt_r2 : h2.size > r2 := q2_0.1.lt
  have lt_t2 : h2.size > t2 := q2_0.tlt
  refine gat1 ?_
  have f4 := (P0.keep K2 nin0 nin0)
  have f5 := (C2.sf L3)
  have f6 := (eE.keep K2)
  refine gmV (y := mn684) (z := mn684) (oz hw 263) (oz hw 164) (nfSel (oz hw 166)) (oz hw 166) (oz hw 165) (oz hw 167) (oz hw 144) (fun O => own_sbappend cx b r2 v cap cs t2 ([(91 : Int32), (93 : Int32)]) vm2 h2 O f4 q2_0 P1 P2 f5 (by simp only [lA, lN, lC]; omega) (q2_1 v lt_v L3).2) 8 (argsL := [(.ref r2)]) (rest := []) f6 own_pd894 d893 ?_
  rintro _ vm3 h3 C3 z3 ⟨rfl, K3, q3_0, q3_1⟩
  refine gat1 ?_
  exact gretA hx hret rfl rfl (hb hby d895) (by decide) (by decide) (fun vq Cq => ⟨rfl, (((Keep.refl h0 [b, v]).trans K2 all0).trans K3 (allS (Or.inl (List.mem_of_getElem? (i := 0) rfl)) (allS (Or.inl (List.mem_of_getElem? (i := 1) rfl)) all0))), q3_0, (Cq.sf q3_1)⟩)
theorem d962 : Dc y2_ 17 (.new 94) 3 := by decide +kernel
theorem d963 : Dc y2_ 20 (.dup) 1 := by decide +kernel
theorem d964 : Dc y2_ 21 (.invokespecial 96) 3 := by decide +kernel
theorem d965 : Dc y2_ 24 (.astore_n 2) 1 := by decide +kernel
theorem d966 : Dc y2_ 25 (.aload_n 2) 1 := by decide +kernel
theorem d967 : Dc y2_ 26 (.bipush 91) 2 := by decide +kernel
theorem d968 : Dc y2_ 28 (.invokevirtual 97) 3 := by decide +kernel
theorem own_pd969 : parseMethodDescriptor "(C)Ljava/lang/StringBuilder;" = some ⟨[.char], some (.object "java/lang/StringBuilder")⟩ := by decide +kernel
theorem d970 : Dc y2_ 31 (.pop) 1 := by decide +kernel
theorem d971 : Dc y2_ 32 (.aload_n 1) 1 := by decide +kernel
theorem d972 : Dc y2_ 33 (.invokeinterface 23 1) 5 := by decide +kernel
theorem d973 : Dc y2_ 38 (.astore_n 3) 1 := by decide +kernel
theorem d974 : Dc y2_ 39 (.aload_n 2) 1 := by decide +kernel
theorem d975 : Dc y2_ 40 (.aload_n 3) 1 := by decide +kernel
theorem d976 : Dc y2_ 41 (.aload_n 0) 1 := by decide +kernel
theorem d977 : Dc y2_ 42 (.if_acmp .ne 8) 3 := by decide +kernel
theorem d978 : Dc y2_ 50 (.aload_n 3) 1 := by decide +kernel
theorem d979 : Dc y2_ 51 (.invokevirtual 103) 3 := by decide +kernel
theorem own_pd980 : parseMethodDescriptor "(Ljava/lang/Object;)Ljava/lang/StringBuilder;" = some ⟨[(.object "java/lang/Object")], some (.object "java/lang/StringBuilder")⟩ := by decide +kernel
theorem d981 : Dc y2_ 54 (.pop) 1 := by decide +kernel
theorem d982 : Dc y2_ 55 (.aload_n 1) 1 := by decide +kernel
theorem d983 : Dc y2_ 56 (.invokeinterface 17 1) 5 := by decide +kernel
theorem d984 : Dc y2_ 61 (.ifCond .ne 13) 3 := by decide +kernel
theorem d985 : Dc y2_ 64 (.aload_n 2) 1 := by decide +kernel
theorem d986 : Dc y2_ 65 (.bipush 93) 2 := by decide +kernel
theorem d987 : Dc y2_ 67 (.invokevirtual 97) 3 := by decide +kernel
theorem d988 : Dc y2_ 70 (.invokevirtual 106) 3 := by decide +kernel
theorem d989 : Dc y2_ 73 (.areturn) 1 := by decide +kernel
theorem own_cts1 {l : Launch} {Z : State} {a0 : Array Value} (cx : Ctx Z a0) (r0 s0_ t0_ : Addr) (d0_ : List Int32) {dz el ee em mr : Addr} {kd ke : ClassId} (vm0 : Vm) (h0 : Heap) (X00 : Ext Z.heap h0) (P0 : Exa Z h0 r0 c20_) (P1 : Fld Z h0 r0 c20_ "e0" c0_ (.ref s0_)) (P2 : Fld Z h0 r0 c20_ "e1" c0_ (.ref em)) (P3 : Str Z h0 s0_ t0_ d0_) (P4 : (d0_.length ≤ 2)) (hL : (OwnL Z dz el ee em mr kd ke)) :
    Met l mn961 y2_ 4 (some (.object c13_)) [] (Rm 6 5 60 91) Z consts_1 vm0 h0 #[(.ref r0)] (fun rv vm h => ∃ (r : Addr), ∃ (t : Addr), rv = some (.ref r) ∧ Keep h0 h [] ∧ h0.size ≤ r ∧ h0.size ≤ t ∧ Str Z h r t (((([] : List Int32) ++ [(91 : Int32)]) ++ d0_) ++ [(93 : Int32)])) := by
  have hw := cx.1
  refine Met.of_walk (a0 := a0) #[vr r0, un, un, un] (plainFor_of_name own_pn150) X00 cx.2.1 (fun _ => rfl) ?_
  intro p e s m below meth c vm hx hby hml hret hnm hC0 hW0
  have lt_r0 : h0.size > r0 := P0.lt
  have lt_s0_ : h0.size > s0_ := P3.1.lt
  have lt_t0_ : h0.size > t0_ := P3.tlt
  refine vAN 1 d952 ?_
  refine gmV (y := mn954) (z := mn933) (oz hw 224) (oz hw 225) (nfSup (oz hw 118)) (oz hw 465) (oz hw 227) (oz hw 229) (oz hw 228) (fun O => own_ait1 cx r0 s0_ vm h0 O P0 P1 P2 P3.1 (by first | assumption | decide | omega)) 4 (argsL := []) (rest := []) P0 own_pd545 d953 ?_
  rintro _ vm1 h1 C1 z1 ⟨it1, rfl, K1, q1_0, q1_1, q1_2, q1_3, q1_4, q1_5⟩
  have lt_it1 : h1.size > it1 := q1_2.lt
  refine gat1 ?_
  refine vSAN 5 #[vr r0, vr it1, un, un] d955 ?_
  refine vAN 6 d956 ?_
  refine gmF (xi := mn550) (y := mn921) (oz hw 255) (oz hw 91) (fun _ _ hU => mvT hU (oz hw 92)) (oz hw 256) (oz hw 257) (oz hw 258) (oz hw 259) (oz hw 260) (oz hw 261) (oz hw 232) (fun O => own_lhnN cx it1 ((0 : Int32)) ((1 : Int32)) vm1 h1 O q1_4 q1_5 (by first | assumption | decide | omega)) 11 (argsL := []) (rest := []) q1_2 own_pd43 d957 ?_
  rintro _ vm2 h2 C2 z2 ⟨rfl, rfl⟩
  refine gat1 ?_
  refine vY 17 d958 ((if0 _ _).trans (feq (by decide)).2) ?_
  refine gnewO hx (oz hw 470) (oz hw 143) (oz hw 144) 20 (hb hby d962) rfl (by decide) (by decide) ?_
  intro b3 h3 g3 E3 C3 A3 D3 n3 L3
  have z3 := C3.2.1
  have lt_b3 : h3.size > b3 := A3.lt
  have F3_value : Fld Z h3 b3 c10_ "value" "[B" .null := D3 (Or.inl (oz hw 157)) (ty := (.array .byte)) (by decide)
  have F3_coder : Fld Z h3 b3 c10_ "coder" "B" (.int (0 : Int32)) := D3 (Or.inl (oz hw 159)) (ty := .byte) (by decide)
  have F3_count : Fld Z h3 b3 c10_ "count" "I" (.int (0 : Int32)) := D3 (Or.inl (oz hw 184)) (ty := .int) (by decide)
  refine vD 21 d963 ?_
  refine gmI (y := mn595) rfl (oz hw 471) (oz hw 146) (oz hw 147) (oz hw 144) (fun O => own_sbinit cx b3 (.null) ((.int (0 : Int32))) vm2 h3 O A3 F3_value F3_coder F3_count n3) 24 (argsL := []) (rest := [(.ref b3)]) (a := b3) own_pd153 d964 ?_
  rintro _ vm4 h4 C4 z4 ⟨v4, rfl, K4, q4_0, q4_1, q4_2, q4_3, q4_4⟩
  have lt_v4 : h4.size > v4 := q4_0.vlt
  refine gat0 ?_
  refine vSAN 25 #[vr r0, vr it1, vr b3, un] d965 ?_
  refine vAN 26 d966 ?_
  refine vKb 28 (91 : Int32) d967 ?_
  have f6 := (A3.keep K4)
  refine gmV (y := mn876) (z := mn876) (oz hw 473) (oz hw 474) (nfSel (oz hw 476)) (oz hw 476) (oz hw 475) (oz hw 477) (oz hw 144) (fun O => own_sbC cx b3 ((91 : Int32)) v4 16 (([] : List Int32)) vm4 h4 O q4_0 n3 q4_2 q4_3 (by simp only [lA, lN, lC]; omega) ⟨by decide, by decide⟩) 31 (argsL := [(.int (91 : Int32))]) (rest := []) f6 own_pd969 d968 ?_
  rintro _ vm5 h5 C5 z5 ⟨rfl, K5, q5_0, q5_1⟩
  refine gat1 ?_
  refine vP 32 d970 ?_
  refine vAN 33 d971 ?_
  have f8 := (((q1_2.ext E3).keep K4).keep K5)
  have f9 := (((q1_3.ext E3).keep K4 nL).keep K5 nLL)
  have f10 := (((q1_4.ext E3).keep K4 nL).keep K5 nLL)
  have f11 := (((q1_5.ext E3).keep K4 nL).keep K5 nLL)
  have f12 := ((((P0.keep K1).ext E3).keep K4).keep K5)
  have f13 := ((((P1.keep K1 nin0).ext E3).keep K4 nL).keep K5 nLL)
  have f14 := ((((P2.keep K1 nin0).ext E3).keep K4 nL).keep K5 nLL)
  refine ginfo fun _ _ O7 => ?_
  refine gcallF (xi := mn568) (y := mn951) hx (oz hw 486) (oz hw 397) (fun _ _ hU => mvT hU (oz hw 398)) (oz hw 487) (oz hw 488) (oz hw 489) (oz hw 490) (oz hw 260) (by decide) (fun hZ H hEL => Pay.of_metH (W := 0) (ws := [it1]) (own_ln1_0 cx it1 r0 s0_ vm5 h5 O7 f8 f9 f10 f11 q1_1 f12 f13 f14 ((((P3.1.keep K1).ext E3).keep K4).keep K5) (by first | assumption | decide | omega)) (oz hw 491) (oz hw 232) (by decide) (by decide) hZ H hEL (fun _ _ q => q.2.1) (allS (Safe.exa hZ.alike f8 (by decide) (by decide)) all0)) 38 (argsL := []) (rest := []) f8 (lenOf own_pd567 rfl) rfl rfl (Nat.le_of_eq rfl) (by rw [hml]; rfl) (hb hby d972) rfl (by decide) (by decide) ?_
  rintro _ vm7 h7 C7 ⟨rfl, K7, q7_0, q7_1, q7_2⟩
  have z7 := C7.2.1
  refine gat1 ?_
  refine vSAN 39 #[vr r0, vr it1, vr b3, vr s0_] d973 ?_
  refine vAN 40 d974 ?_
  refine vAN 41 d975 ?_
  refine vAN 42 d976 ?_
  have f15 := (f12.keep K7)
  refine gx (mkF m 50 #[vr r0, vr it1, vr b3, vr s0_] [(.ref b3)]) (fun T locs X _ _ _ _ kq => Jvm.RoadKit.acmp (g := (mkF m 42 #[vr r0, vr it1, vr b3, vr s0_] [(.ref r0), (.ref s0_), (.ref b3)])) X hx rfl rfl rfl (pc0 := 42) (pc' := 50) (same := false) rfl (hb hby d977) rfl (decide_eq_false fun q => (ne_exa (((((P3.1.keep K1).ext E3).keep K4).keep K5).keep K7) f15 (by decide)) (Value.ref.inj q)) (by decide) (by decide) kq) ?_
  refine vAN 51 d978 ?_
  have f17 := (q5_0.keep K7 nG nG)
  have f18 := (((((P3.keep K1 nin0 nin0).ext E3).keep K4 nL nL).keep K5 nLL nLL).keep K7 nL nL)
  have f19 := (C7.sf q5_1)
  have f20 := ((f6.keep K5).keep K7)
  refine gmV (y := mn896) (z := mn896) (oz hw 501) (oz hw 211) (nfSel (oz hw 213)) (oz hw 213) (oz hw 212) (oz hw 214) (oz hw 144) (fun O => own_apO cx b3 s0_ v4 16 ((([] : List Int32) ++ [(91 : Int32)])) t0_ d0_ vm7 h7 O f17 f18 n3 q4_2 f19 (by simp only [lA, lN, lC]; omega) (Nat.ne_of_gt (by omega))) 54 (argsL := [(.ref s0_)]) (rest := []) f20 own_pd980 d979 ?_
  rintro _ vm16 h16 C16 z16 ⟨rfl, K16, q16_0, q16_1⟩
  refine gat1 ?_
  refine vP 55 d981 ?_
  refine vAN 56 d982 ?_
  have f22 := (q7_1.keep K16 nLL)
  have f23 := (q7_2.keep K16 nLL)
  have f24 := ((f8.keep K7).keep K16)
  refine gmF (xi := mn550) (y := mn921) (oz hw 255) (oz hw 91) (fun _ _ hU => mvT hU (oz hw 92)) (oz hw 256) (oz hw 257) (oz hw 258) (oz hw 259) (oz hw 260) (oz hw 261) (oz hw 232) (fun O => own_lhnE cx it1 ((1 : Int32)) vm16 h16 O f22 f23) 61 (argsL := []) (rest := []) f24 own_pd43 d983 ?_
  rintro _ vm21 h21 C21 z21 ⟨rfl, rfl⟩
  refine gat1 ?_
  refine vN 64 d984 ((if0 _ _).trans (teq (by decide)).2) ?_
  refine vAN 65 d985 ?_
  refine vKb 67 (93 : Int32) d986 ?_
  have f26 := (C21.sf q16_1)
  have f27 := (f20.keep K16)
  refine gmV (y := mn876) (z := mn876) (oz hw 473) (oz hw 474) (nfSel (oz hw 476)) (oz hw 476) (oz hw 475) (oz hw 477) (oz hw 144) (fun O => own_sbC cx b3 ((93 : Int32)) v4 16 (((([] : List Int32) ++ [(91 : Int32)]) ++ d0_)) vm21 h16 O q16_0 n3 q4_2 f26 (by simp only [lA, lN, lC]; omega) ⟨by decide, by decide⟩) 70 (argsL := [(.int (93 : Int32))]) (rest := []) f27 own_pd969 d987 ?_
  rintro _ vm25 h25 C25 z25 ⟨rfl, K25, q25_0, q25_1⟩
  refine gat1 ?_
  have f29 := (f27.keep K25)
  refine gmV (y := mn785) (z := mn785) (oz hw 505) (oz hw 265) (nfSel (oz hw 267)) (oz hw 267) (oz hw 266) (oz hw 268) (oz hw 144) (fun O => own_sbtostring cx b3 v4 16 ((((([] : List Int32) ++ [(91 : Int32)]) ++ d0_) ++ [(93 : Int32)])) vm25 h25 O q25_0 (by simp only [lA, lN, lC]; omega) (by simp only [lA, lN, lC]; omega)) 73 (argsL := []) (rest := []) f29 own_pd884 d988 ?_
  rintro _ vm28 h28 C28 z28 ⟨r28, t28, rfl, K28, q28_0, q28_1, q28_2⟩
  have lt_r28 : h28.size > r28 := q28_2.1.lt
  have lt_t28 : h28.size > t28 := q28_2.tlt
  refine gat1 ?_
  exact gretA hx hret rfl rfl (hb hby d989) (by decide) (by decide) (fun vq Cq => ⟨r28, t28, rfl, (((((((((Keep.refl h0 []).trans K1 all0).ext E3).trans K4 (allS (Or.inr (by omega)) all0)).trans K5 (allS (Or.inr (by omega)) (allS (Or.inr (by omega)) all0))).trans K7 (allS (Or.inr (by omega)) all0)).trans K16 (allS (Or.inr (by omega)) (allS (Or.inr (by omega)) all0))).trans K25 (allS (Or.inr (by omega)) (allS (Or.inr (by omega)) all0))).trans K28 all0), (by omega), (by omega), q28_2⟩)
theorem own_vol1 {l : Launch} {Z : State} {a0 : Array Value} (cx : Ctx Z a0) (r0 s0_ t0_ : Addr) (d0_ : List Int32) {dz el ee em mr : Addr} {kd ke : ClassId} (vm0 : Vm) (h0 : Heap) (X00 : Ext Z.heap h0) (P0 : Exa Z h0 r0 c20_) (P1 : Fld Z h0 r0 c20_ "e0" c0_ (.ref s0_)) (P2 : Fld Z h0 r0 c20_ "e1" c0_ (.ref em)) (P3 : Str Z h0 s0_ t0_ d0_) (P4 : (d0_.length ≤ 2)) (hL : (OwnL Z dz el ee em mr kd ke)) :
    Met l mn888 y21_ 1 (some (.object c13_)) [] (Rm 7 5 60 106) Z consts_1 vm0 h0 #[(.ref r0)] (fun rv vm h => ∃ (r : Addr), ∃ (t : Addr), rv = some (.ref r) ∧ Keep h0 h [] ∧ h0.size ≤ r ∧ h0.size ≤ t ∧ Str Z h r t (((([] : List Int32) ++ [(91 : Int32)]) ++ d0_) ++ [(93 : Int32)])) := by
  have hw := cx.1
  refine Met.of_walk (a0 := a0) #[vr r0] (plainFor_of_name own_pn17) X00 cx.2.1 (fun _ => rfl) ?_
  intro p e s m below meth c vm hx hby hml hret hnm hC0 hW0
  have lt_r0 : h0.size > r0 := P0.lt
  have lt_s0_ : h0.size > s0_ := P3.1.lt
  have lt_t0_ : h0.size > t0_ := P3.tlt
  refine vAN 1 d880 ?_
  refine vY1 10 d881 ?_
  refine vAN 11 d882 ?_
  refine gmV (y := mn885) (z := mn961) (oz hw 218) (oz hw 219) (nfSame (y' := mn886) (oz hw 425) (oz hw 424) rfl) (oz hw 464) (oz hw 222) (oz hw 223) (oz hw 50) (fun O => own_cts1 cx r0 s0_ t0_ d0_ vm h0 O P0 P1 P2 P3 (by first | assumption | decide | omega) (by first | assumption | decide | omega)) 14 (argsL := []) (rest := []) P0 own_pd884 d883 ?_
  rintro _ vm1 h1 C1 z1 ⟨r1, t1, rfl, K1, q1_0, q1_1, q1_2⟩
  have lt_r1 : h1.size > r1 := q1_2.1.lt
  have lt_t1 : h1.size > t1 := q1_2.tlt
  refine gat1 ?_
  exact gretA hx hret rfl rfl (hb hby d887) (by decide) (by decide) (fun vq Cq => ⟨r1, t1, rfl, ((Keep.refl h0 []).trans K1 all0), (by omega), (by omega), q1_2⟩)
theorem own_apl1 {l : Launch} {Z : State} {a0 : Array Value} (cx : Ctx Z a0) (b v : Addr) (cap : Nat) (cs : List Int32) (r0 s0_ t0_ : Addr) (d0_ : List Int32) {dz el ee em mr : Addr} {kd ke : ClassId} (vm0 : Vm) (h0 : Heap) (X00 : Ext Z.heap h0) (P0 : SBd Z h0 b v cap cs) (P1 : Z.heap.size ≤ b) (P2 : Z.heap.size ≤ v) (P3 : Safe Z consts_1 vm0 h0 v) (hcs : (cs.length ≤ 3)) (hcap : (16 ≤ cap)) (P6 : Exa Z h0 r0 c20_) (P7 : Fld Z h0 r0 c20_ "e0" c0_ (.ref s0_)) (P8 : Fld Z h0 r0 c20_ "e1" c0_ (.ref em)) (P9 : Str Z h0 s0_ t0_ d0_) (P10 : (d0_.length ≤ 2)) (hL : (OwnL Z dz el ee em mr kd ke)) :
    Met l mn896 y61_ 2 (some (.object c14_)) [] (Rm 8 5 60 119) Z consts_1 vm0 h0 #[(.ref b), (.ref r0)] (fun rv vm h => rv = some (.ref b) ∧ Keep h0 h [b, v] ∧ SBd Z h b v cap (cs ++ (((([] : List Int32) ++ [(91 : Int32)]) ++ d0_) ++ [(93 : Int32)])) ∧ Safe Z consts_1 vm h v) := by
  have hw := cx.1
  refine Met.of_walk (a0 := a0) #[vr b, vr r0] (plainFor_of_name own_pn596) X00 cx.2.1 (fun _ => rfl) ?_
  intro p e s m below meth c vm hx hby hml hret hnm hC0 hW0
  have lt_v : h0.size > v := P0.vlt
  have lt_b : h0.size > b := P0.1.lt
  have L3 := hC0.safe lt_v P3
  have lt_r0 : h0.size > r0 := P6.lt
  have lt_s0_ : h0.size > s0_ := P9.1.lt
  have lt_t0_ : h0.size > t0_ := P9.tlt
  have eE := P0.1
  refine vAN 1 d889 ?_
  refine vAN 2 d890 ?_
  refine gmS (y := mn888) (oz hw 215) (oz hw 216) (oz hw 217) (oz hw 6) (fun O => own_vol1 cx r0 s0_ t0_ d0_ vm h0 O P6 P7 P8 P9 (by first | assumption | decide | omega) (by first | assumption | decide | omega)) 5 (argsL := [(.ref r0)]) (rest := [(.ref b)]) own_pd892 d891 ?_
  rintro _ vm1 h1 C1 z1 ⟨r1, t1, rfl, K1, q1_0, q1_1, q1_2⟩
  have lt_r1 : h1.size > r1 := q1_2.1.lt
  have lt_t1 : h1.size > t1 := q1_2.tlt
  refine gat1 ?_
  have f3 := (P0.keep K1 nin0 nin0)
  have f4 := (C1.sf L3)
  have f5 := (eE.keep K1)
  refine gmV (y := mn684) (z := mn684) (oz hw 263) (oz hw 164) (nfSel (oz hw 166)) (oz hw 166) (oz hw 165) (oz hw 167) (oz hw 144) (fun O => own_sbappend cx b r1 v cap cs t1 ((((([] : List Int32) ++ [(91 : Int32)]) ++ d0_) ++ [(93 : Int32)])) vm1 h1 O f3 q1_2 P1 P2 f4 (by simp only [lA, lN, lC]; omega) (Nat.ne_of_lt (by omega))) 8 (argsL := [(.ref r1)]) (rest := []) f5 own_pd894 d893 ?_
  rintro _ vm2 h2 C2 z2 ⟨rfl, K2, q2_0, q2_1⟩
  refine gat1 ?_
  exact gretA hx hret rfl rfl (hb hby d895) (by decide) (by decide) (fun vq Cq => ⟨rfl, (((Keep.refl h0 [b, v]).trans K1 all0).trans K2 (allS (Or.inl (List.mem_of_getElem? (i := 0) rfl)) (allS (Or.inl (List.mem_of_getElem? (i := 1) rfl)) all0))), q2_0, (Cq.sf q2_1)⟩)
theorem d990 : Dc y2_ 74 (.aload_n 2) 1 := by decide +kernel
theorem d991 : Dc y2_ 75 (.bipush 44) 2 := by decide +kernel
theorem d992 : Dc y2_ 77 (.invokevirtual 97) 3 := by decide +kernel
theorem d993 : Dc y2_ 80 (.bipush 32) 2 := by decide +kernel
theorem d994 : Dc y2_ 82 (.invokevirtual 97) 3 := by decide +kernel
theorem d995 : Dc y2_ 85 (.pop) 1 := by decide +kernel
theorem d996 : Dc y2_ 86 (.goto (-54)) 3 := by decide +kernel
theorem own_cts2 {l : Launch} {Z : State} {a0 : Array Value} (cx : Ctx Z a0) (r0 s0_ t0_ : Addr) (d0_ : List Int32) (s1_ t1_ : Addr) (d1_ : List Int32) {dz el ee em mr : Addr} {kd ke : ClassId} (vm0 : Vm) (h0 : Heap) (X00 : Ext Z.heap h0) (P0 : Exa Z h0 r0 c20_) (P1 : Fld Z h0 r0 c20_ "e0" c0_ (.ref s0_)) (P2 : Fld Z h0 r0 c20_ "e1" c0_ (.ref s1_)) (P3 : Str Z h0 s0_ t0_ d0_) (P4 : (d0_.length ≤ 2)) (P5 : Str Z h0 s1_ t1_ d1_) (P6 : (d1_.length ≤ 2)) (hL : (OwnL Z dz el ee em mr kd ke)) :
    Met l mn961 y2_ 4 (some (.object c13_)) [] (Rm 6 5 60 91) Z consts_1 vm0 h0 #[(.ref r0)] (fun rv vm h => ∃ (r : Addr), ∃ (t : Addr), rv = some (.ref r) ∧ Keep h0 h [] ∧ h0.size ≤ r ∧ h0.size ≤ t ∧ Str Z h r t ((((((([] : List Int32) ++ [(91 : Int32)]) ++ d0_) ++ [(44 : Int32)]) ++ [(32 : Int32)]) ++ d1_) ++ [(93 : Int32)])) := by
  have hw := cx.1
  refine Met.of_walk (a0 := a0) #[vr r0, un, un, un] (plainFor_of_name own_pn150) X00 cx.2.1 (fun _ => rfl) ?_
  intro p e s m below meth c vm hx hby hml hret hnm hC0 hW0
  have lt_r0 : h0.size > r0 := P0.lt
  have lt_s0_ : h0.size > s0_ := P3.1.lt
  have lt_t0_ : h0.size > t0_ := P3.tlt
  have lt_s1_ : h0.size > s1_ := P5.1.lt
  have lt_t1_ : h0.size > t1_ := P5.tlt
  refine vAN 1 d952 ?_
  refine gmV (y := mn954) (z := mn933) (oz hw 224) (oz hw 225) (nfSup (oz hw 118)) (oz hw 465) (oz hw 227) (oz hw 229) (oz hw 228) (fun O => own_ait2 cx r0 s0_ s1_ vm h0 O P0 P1 P2 P3.1 P5.1 (by first | assumption | decide | omega)) 4 (argsL := []) (rest := []) P0 own_pd545 d953 ?_
  rintro _ vm1 h1 C1 z1 ⟨it1, rfl, K1, q1_0, q1_1, q1_2, q1_3, q1_4, q1_5⟩
  have lt_it1 : h1.size > it1 := q1_2.lt
  refine gat1 ?_
  refine vSAN 5 #[vr r0, vr it1, un, un] d955 ?_
  refine vAN 6 d956 ?_
  refine gmF (xi := mn550) (y := mn921) (oz hw 255) (oz hw 91) (fun _ _ hU => mvT hU (oz hw 92)) (oz hw 256) (oz hw 257) (oz hw 258) (oz hw 259) (oz hw 260) (oz hw 261) (oz hw 232) (fun O => own_lhnN cx it1 ((0 : Int32)) ((2 : Int32)) vm1 h1 O q1_4 q1_5 (by first | assumption | decide | omega)) 11 (argsL := []) (rest := []) q1_2 own_pd43 d957 ?_
  rintro _ vm2 h2 C2 z2 ⟨rfl, rfl⟩
  refine gat1 ?_
  refine vY 17 d958 ((if0 _ _).trans (feq (by decide)).2) ?_
  refine gnewO hx (oz hw 470) (oz hw 143) (oz hw 144) 20 (hb hby d962) rfl (by decide) (by decide) ?_
  intro b3 h3 g3 E3 C3 A3 D3 n3 L3
  have z3 := C3.2.1
  have lt_b3 : h3.size > b3 := A3.lt
  have F3_value : Fld Z h3 b3 c10_ "value" "[B" .null := D3 (Or.inl (oz hw 157)) (ty := (.array .byte)) (by decide)
  have F3_coder : Fld Z h3 b3 c10_ "coder" "B" (.int (0 : Int32)) := D3 (Or.inl (oz hw 159)) (ty := .byte) (by decide)
  have F3_count : Fld Z h3 b3 c10_ "count" "I" (.int (0 : Int32)) := D3 (Or.inl (oz hw 184)) (ty := .int) (by decide)
  refine vD 21 d963 ?_
  refine gmI (y := mn595) rfl (oz hw 471) (oz hw 146) (oz hw 147) (oz hw 144) (fun O => own_sbinit cx b3 (.null) ((.int (0 : Int32))) vm2 h3 O A3 F3_value F3_coder F3_count n3) 24 (argsL := []) (rest := [(.ref b3)]) (a := b3) own_pd153 d964 ?_
  rintro _ vm4 h4 C4 z4 ⟨v4, rfl, K4, q4_0, q4_1, q4_2, q4_3, q4_4⟩
  have lt_v4 : h4.size > v4 := q4_0.vlt
  refine gat0 ?_
  refine vSAN 25 #[vr r0, vr it1, vr b3, un] d965 ?_
  refine vAN 26 d966 ?_
  refine vKb 28 (91 : Int32) d967 ?_
  have f6 := (A3.keep K4)
  refine gmV (y := mn876) (z := mn876) (oz hw 473) (oz hw 474) (nfSel (oz hw 476)) (oz hw 476) (oz hw 475) (oz hw 477) (oz hw 144) (fun O => own_sbC cx b3 ((91 : Int32)) v4 16 (([] : List Int32)) vm4 h4 O q4_0 n3 q4_2 q4_3 (by simp only [lA, lN, lC]; omega) ⟨by decide, by decide⟩) 31 (argsL := [(.int (91 : Int32))]) (rest := []) f6 own_pd969 d968 ?_
  rintro _ vm5 h5 C5 z5 ⟨rfl, K5, q5_0, q5_1⟩
  refine gat1 ?_
  refine vP 32 d970 ?_
  refine vAN 33 d971 ?_
  have f8 := (((q1_2.ext E3).keep K4).keep K5)
  have f9 := (((q1_3.ext E3).keep K4 nL).keep K5 nLL)
  have f10 := (((q1_4.ext E3).keep K4 nL).keep K5 nLL)
  have f11 := (((q1_5.ext E3).keep K4 nL).keep K5 nLL)
  have f12 := ((((P0.keep K1).ext E3).keep K4).keep K5)
  have f13 := ((((P1.keep K1 nin0).ext E3).keep K4 nL).keep K5 nLL)
  have f14 := ((((P2.keep K1 nin0).ext E3).keep K4 nL).keep K5 nLL)
  refine ginfo fun _ _ O7 => ?_
  refine gcallF (xi := mn568) (y := mn951) hx (oz hw 486) (oz hw 397) (fun _ _ hU => mvT hU (oz hw 398)) (oz hw 487) (oz hw 488) (oz hw 489) (oz hw 490) (oz hw 260) (by decide) (fun hZ H hEL => Pay.of_metH (W := 0) (ws := [it1]) (own_ln2_0 cx it1 r0 s0_ s1_ vm5 h5 O7 f8 f9 f10 f11 q1_1 f12 f13 f14 ((((P3.1.keep K1).ext E3).keep K4).keep K5) ((((P5.1.keep K1).ext E3).keep K4).keep K5) (by first | assumption | decide | omega)) (oz hw 491) (oz hw 232) (by decide) (by decide) hZ H hEL (fun _ _ q => q.2.1) (allS (Safe.exa hZ.alike f8 (by decide) (by decide)) all0)) 38 (argsL := []) (rest := []) f8 (lenOf own_pd567 rfl) rfl rfl (Nat.le_of_eq rfl) (by rw [hml]; rfl) (hb hby d972) rfl (by decide) (by decide) ?_
  rintro _ vm7 h7 C7 ⟨rfl, K7, q7_0, q7_1, q7_2⟩
  have z7 := C7.2.1
  refine gat1 ?_
  refine vSAN 39 #[vr r0, vr it1, vr b3, vr s0_] d973 ?_
  refine vAN 40 d974 ?_
  refine vAN 41 d975 ?_
  refine vAN 42 d976 ?_
  have f15 := (f12.keep K7)
  refine gx (mkF m 50 #[vr r0, vr it1, vr b3, vr s0_] [(.ref b3)]) (fun T locs X _ _ _ _ kq => Jvm.RoadKit.acmp (g := (mkF m 42 #[vr r0, vr it1, vr b3, vr s0_] [(.ref r0), (.ref s0_), (.ref b3)])) X hx rfl rfl rfl (pc0 := 42) (pc' := 50) (same := false) rfl (hb hby d977) rfl (decide_eq_false fun q => (ne_exa (((((P3.1.keep K1).ext E3).keep K4).keep K5).keep K7) f15 (by decide)) (Value.ref.inj q)) (by decide) (by decide) kq) ?_
  refine vAN 51 d978 ?_
  have f17 := (q5_0.keep K7 nG nG)
  have f18 := (((((P3.keep K1 nin0 nin0).ext E3).keep K4 nL nL).keep K5 nLL nLL).keep K7 nL nL)
  have f19 := (C7.sf q5_1)
  have f20 := ((f6.keep K5).keep K7)
  refine gmV (y := mn896) (z := mn896) (oz hw 501) (oz hw 211) (nfSel (oz hw 213)) (oz hw 213) (oz hw 212) (oz hw 214) (oz hw 144) (fun O => own_apO cx b3 s0_ v4 16 ((([] : List Int32) ++ [(91 : Int32)])) t0_ d0_ vm7 h7 O f17 f18 n3 q4_2 f19 (by simp only [lA, lN, lC]; omega) (Nat.ne_of_gt (by omega))) 54 (argsL := [(.ref s0_)]) (rest := []) f20 own_pd980 d979 ?_
  rintro _ vm16 h16 C16 z16 ⟨rfl, K16, q16_0, q16_1⟩
  refine gat1 ?_
  refine vP 55 d981 ?_
  refine vAN 56 d982 ?_
  have f22 := (q7_1.keep K16 nLL)
  have f23 := (q7_2.keep K16 nLL)
  have f24 := ((f8.keep K7).keep K16)
  refine gmF (xi := mn550) (y := mn921) (oz hw 255) (oz hw 91) (fun _ _ hU => mvT hU (oz hw 92)) (oz hw 256) (oz hw 257) (oz hw 258) (oz hw 259) (oz hw 260) (oz hw 261) (oz hw 232) (fun O => own_lhnN cx it1 ((1 : Int32)) ((2 : Int32)) vm16 h16 O f22 f23 (by first | assumption | decide | omega)) 61 (argsL := []) (rest := []) f24 own_pd43 d983 ?_
  rintro _ vm21 h21 C21 z21 ⟨rfl, rfl⟩
  refine gat1 ?_
  refine vY 74 d984 ((if0 _ _).trans (feq (by decide)).2) ?_
  refine vAN 75 d990 ?_
  refine vKb 77 (44 : Int32) d991 ?_
  have f26 := (C21.sf q16_1)
  have f27 := (f20.keep K16)
  refine gmV (y := mn876) (z := mn876) (oz hw 473) (oz hw 474) (nfSel (oz hw 476)) (oz hw 476) (oz hw 475) (oz hw 477) (oz hw 144) (fun O => own_sbC cx b3 ((44 : Int32)) v4 16 (((([] : List Int32) ++ [(91 : Int32)]) ++ d0_)) vm21 h16 O q16_0 n3 q4_2 f26 (by simp only [lA, lN, lC]; omega) ⟨by decide, by decide⟩) 80 (argsL := [(.int (44 : Int32))]) (rest := []) f27 own_pd969 d992 ?_
  rintro _ vm25 h25 C25 z25 ⟨rfl, K25, q25_0, q25_1⟩
  refine gat1 ?_
  refine vKb 82 (32 : Int32) d993 ?_
  have f29 := (f27.keep K25)
  refine gmV (y := mn876) (z := mn876) (oz hw 473) (oz hw 474) (nfSel (oz hw 476)) (oz hw 476) (oz hw 475) (oz hw 477) (oz hw 144) (fun O => own_sbC cx b3 ((32 : Int32)) v4 16 ((((([] : List Int32) ++ [(91 : Int32)]) ++ d0_) ++ [(44 : Int32)])) vm25 h25 O q25_0 n3 q4_2 q25_1 (by simp only [lA, lN, lC]; omega) ⟨by decide, by decide⟩) 85 (argsL := [(.int (32 : Int32))]) (rest := []) f29 own_pd969 d994 ?_
  rintro _ vm28 h28 C28 z28 ⟨rfl, K28, q28_0, q28_1⟩
  refine gat1 ?_
  refine vP 86 d995 ?_
  refine vG 32 d996 ?_
  refine vAN 33 d971 ?_
  have f31 := ((f24.keep K25).keep K28)
  have f32 := (((q7_0.keep K16 nLL).keep K25 nLL).keep K28 nLL)
  have f33 := ((f22.keep K25 nLL).keep K28 nLL)
  have f34 := ((f23.keep K25 nLL).keep K28 nLL)
  have f35 := (((f15.keep K16).keep K25).keep K28)
  have f36 := ((((f13.keep K7 nL).keep K16 nLL).keep K25 nLL).keep K28 nLL)
  have f37 := ((((f14.keep K7 nL).keep K16 nLL).keep K25 nLL).keep K28 nLL)
  refine ginfo fun _ _ O30 => ?_
  refine gcallF (xi := mn568) (y := mn951) hx (oz hw 486) (oz hw 397) (fun _ _ hU => mvT hU (oz hw 398)) (oz hw 487) (oz hw 488) (oz hw 489) (oz hw 490) (oz hw 260) (by decide) (fun hZ H hEL => Pay.of_metH (W := 0) (ws := [it1]) (own_ln2_1 cx it1 r0 s0_ s1_ vm28 h28 O30 f31 f32 f33 f34 q1_1 f35 f36 f37 (((f18.1.keep K16).keep K25).keep K28) ((((((((P5.1.keep K1).ext E3).keep K4).keep K5).keep K7).keep K16).keep K25).keep K28) (by first | assumption | decide | omega)) (oz hw 491) (oz hw 232) (by decide) (by decide) hZ H hEL (fun _ _ q => q.2.1) (allS (Safe.exa hZ.alike f31 (by decide) (by decide)) all0)) 38 (argsL := []) (rest := []) f31 (lenOf own_pd567 rfl) rfl rfl (Nat.le_of_eq rfl) (by rw [hml]; rfl) (hb hby d972) rfl (by decide) (by decide) ?_
  rintro _ vm30 h30 C30 ⟨rfl, K30, q30_0, q30_1, q30_2⟩
  have z30 := C30.2.1
  refine gat1 ?_
  refine vSAN 39 #[vr r0, vr it1, vr b3, vr s1_] d973 ?_
  refine vAN 40 d974 ?_
  refine vAN 41 d975 ?_
  refine vAN 42 d976 ?_
  have f38 := (f35.keep K30)
  refine gx (mkF m 50 #[vr r0, vr it1, vr b3, vr s1_] [(.ref b3)]) (fun T locs X _ _ _ _ kq => Jvm.RoadKit.acmp (g := (mkF m 42 #[vr r0, vr it1, vr b3, vr s1_] [(.ref r0), (.ref s1_), (.ref b3)])) X hx rfl rfl rfl (pc0 := 42) (pc' := 50) (same := false) rfl (hb hby d977) rfl (decide_eq_false fun q => (ne_exa (((((((((P5.1.keep K1).ext E3).keep K4).keep K5).keep K7).keep K16).keep K25).keep K28).keep K30) f38 (by decide)) (Value.ref.inj q)) (by decide) (by decide) kq) ?_
  refine vAN 51 d978 ?_
  have f40 := (q28_0.keep K30 nG nG)
  have f41 := (((((((((P5.keep K1 nin0 nin0).ext E3).keep K4 nL nL).keep K5 nLL nLL).keep K7 nL nL).keep K16 nLL nLL).keep K25 nLL nLL).keep K28 nLL nLL).keep K30 nL nL)
  have f42 := (C30.sf q28_1)
  have f43 := ((f29.keep K28).keep K30)
  refine gmV (y := mn896) (z := mn896) (oz hw 501) (oz hw 211) (nfSel (oz hw 213)) (oz hw 213) (oz hw 212) (oz hw 214) (oz hw 144) (fun O => own_apO cx b3 s1_ v4 16 (((((([] : List Int32) ++ [(91 : Int32)]) ++ d0_) ++ [(44 : Int32)]) ++ [(32 : Int32)])) t1_ d1_ vm30 h30 O f40 f41 n3 q4_2 f42 (by simp only [lA, lN, lC]; omega) (Nat.ne_of_gt (by omega))) 54 (argsL := [(.ref s1_)]) (rest := []) f43 own_pd980 d979 ?_
  rintro _ vm39 h39 C39 z39 ⟨rfl, K39, q39_0, q39_1⟩
  refine gat1 ?_
  refine vP 55 d981 ?_
  refine vAN 56 d982 ?_
  have f45 := (q30_1.keep K39 nLL)
  have f46 := (q30_2.keep K39 nLL)
  have f47 := ((f31.keep K30).keep K39)
  refine gmF (xi := mn550) (y := mn921) (oz hw 255) (oz hw 91) (fun _ _ hU => mvT hU (oz hw 92)) (oz hw 256) (oz hw 257) (oz hw 258) (oz hw 259) (oz hw 260) (oz hw 261) (oz hw 232) (fun O => own_lhnE cx it1 ((2 : Int32)) vm39 h39 O f45 f46) 61 (argsL := []) (rest := []) f47 own_pd43 d983 ?_
  rintro _ vm44 h44 C44 z44 ⟨rfl, rfl⟩
  refine gat1 ?_
  refine vN 64 d984 ((if0 _ _).trans (teq (by decide)).2) ?_
  refine vAN 65 d985 ?_
  refine vKb 67 (93 : Int32) d986 ?_
  have f49 := (C44.sf q39_1)
  have f50 := (f43.keep K39)
  refine gmV (y := mn876) (z := mn876) (oz hw 473) (oz hw 474) (nfSel (oz hw 476)) (oz hw 476) (oz hw 475) (oz hw 477) (oz hw 144) (fun O => own_sbC cx b3 ((93 : Int32)) v4 16 ((((((([] : List Int32) ++ [(91 : Int32)]) ++ d0_) ++ [(44 : Int32)]) ++ [(32 : Int32)]) ++ d1_)) vm44 h39 O q39_0 n3 q4_2 f49 (by simp only [lA, lN, lC]; omega) ⟨by decide, by decide⟩) 70 (argsL := [(.int (93 : Int32))]) (rest := []) f50 own_pd969 d987 ?_
  rintro _ vm48 h48 C48 z48 ⟨rfl, K48, q48_0, q48_1⟩
  refine gat1 ?_
  have f52 := (f50.keep K48)
  refine gmV (y := mn785) (z := mn785) (oz hw 505) (oz hw 265) (nfSel (oz hw 267)) (oz hw 267) (oz hw 266) (oz hw 268) (oz hw 144) (fun O => own_sbtostring cx b3 v4 16 (((((((([] : List Int32) ++ [(91 : Int32)]) ++ d0_) ++ [(44 : Int32)]) ++ [(32 : Int32)]) ++ d1_) ++ [(93 : Int32)])) vm48 h48 O q48_0 (by simp only [lA, lN, lC]; omega) (by simp only [lA, lN, lC]; omega)) 73 (argsL := []) (rest := []) f52 own_pd884 d988 ?_
  rintro _ vm51 h51 C51 z51 ⟨r51, t51, rfl, K51, q51_0, q51_1, q51_2⟩
  have lt_r51 : h51.size > r51 := q51_2.1.lt
  have lt_t51 : h51.size > t51 := q51_2.tlt
  refine gat1 ?_
  exact gretA hx hret rfl rfl (hb hby d989) (by decide) (by decide) (fun vq Cq => ⟨r51, t51, rfl, (((((((((((((Keep.refl h0 []).trans K1 all0).ext E3).trans K4 (allS (Or.inr (by omega)) all0)).trans K5 (allS (Or.inr (by omega)) (allS (Or.inr (by omega)) all0))).trans K7 (allS (Or.inr (by omega)) all0)).trans K16 (allS (Or.inr (by omega)) (allS (Or.inr (by omega)) all0))).trans K25 (allS (Or.inr (by omega)) (allS (Or.inr (by omega)) all0))).trans K28 (allS (Or.inr (by omega)) (allS (Or.inr (by omega)) all0))).trans K30 (allS (Or.inr (by omega)) all0)).trans K39 (allS (Or.inr (by omega)) (allS (Or.inr (by omega)) all0))).trans K48 (allS (Or.inr (by omega)) (allS (Or.inr (by omega)) all0))).trans K51 all0), (by omega), (by omega), q51_2⟩)
theorem own_vol2 {l : Launch} {Z : State} {a0 : Array Value} (cx : Ctx Z a0) (r0 s0_ t0_ : Addr) (d0_ : List Int32) (s1_ t1_ : Addr) (d1_ : List Int32) {dz el ee em mr : Addr} {kd ke : ClassId} (vm0 : Vm) (h0 : Heap) (X00 : Ext Z.heap h0) (P0 : Exa Z h0 r0 c20_) (P1 : Fld Z h0 r0 c20_ "e0" c0_ (.ref s0_)) (P2 : Fld Z h0 r0 c20_ "e1" c0_ (.ref s1_)) (P3 : Str Z h0 s0_ t0_ d0_) (P4 : (d0_.length ≤ 2)) (P5 : Str Z h0 s1_ t1_ d1_) (P6 : (d1_.length ≤ 2)) (hL : (OwnL Z dz el ee em mr kd ke)) :
    Met l mn888 y21_ 1 (some (.object c13_)) [] (Rm 7 5 60 106) Z consts_1 vm0 h0 #[(.ref r0)] (fun rv vm h => ∃ (r : Addr), ∃ (t : Addr), rv = some (.ref r) ∧ Keep h0 h [] ∧ h0.size ≤ r ∧ h0.size ≤ t ∧ Str Z h r t ((((((([] : List Int32) ++ [(91 : Int32)]) ++ d0_) ++ [(44 : Int32)]) ++ [(32 : Int32)]) ++ d1_) ++ [(93 : Int32)])) := by
  have hw := cx.1
  refine Met.of_walk (a0 := a0) #[vr r0] (plainFor_of_name own_pn17) X00 cx.2.1 (fun _ => rfl) ?_
  intro p e s m below meth c vm hx hby hml hret hnm hC0 hW0
  have lt_r0 : h0.size > r0 := P0.lt
  have lt_s0_ : h0.size > s0_ := P3.1.lt
  have lt_t0_ : h0.size > t0_ := P3.tlt
  have lt_s1_ : h0.size > s1_ := P5.1.lt
  have lt_t1_ : h0.size > t1_ := P5.tlt
  refine vAN 1 d880 ?_
  refine vY1 10 d881 ?_
  refine vAN 11 d882 ?_
  refine gmV (y := mn885) (z := mn961) (oz hw 218) (oz hw 219) (nfSame (y' := mn886) (oz hw 425) (oz hw 424) rfl) (oz hw 464) (oz hw 222) (oz hw 223) (oz hw 50) (fun O => own_cts2 cx r0 s0_ t0_ d0_ s1_ t1_ d1_ vm h0 O P0 P1 P2 P3 (by first | assumption | decide | omega) P5 (by first | assumption | decide | omega) (by first | assumption | decide | omega)) 14 (argsL := []) (rest := []) P0 own_pd884 d883 ?_
  rintro _ vm1 h1 C1 z1 ⟨r1, t1, rfl, K1, q1_0, q1_1, q1_2⟩
  have lt_r1 : h1.size > r1 := q1_2.1.lt
  have lt_t1 : h1.size > t1 := q1_2.tlt
  refine gat1 ?_
  exact gretA hx hret rfl rfl (hb hby d887) (by decide) (by decide) (fun vq Cq => ⟨r1, t1, rfl, ((Keep.refl h0 []).trans K1 all0), (by omega), (by omega), q1_2⟩)
theorem own_apl2 {l : Launch} {Z : State} {a0 : Array Value} (cx : Ctx Z a0) (b v : Addr) (cap : Nat) (cs : List Int32) (r0 s0_ t0_ : Addr) (d0_ : List Int32) (s1_ t1_ : Addr) (d1_ : List Int32) {dz el ee em mr : Addr} {kd ke : ClassId} (vm0 : Vm) (h0 : Heap) (X00 : Ext Z.heap h0) (P0 : SBd Z h0 b v cap cs) (P1 : Z.heap.size ≤ b) (P2 : Z.heap.size ≤ v) (P3 : Safe Z consts_1 vm0 h0 v) (hcs : (cs.length ≤ 3)) (hcap : (16 ≤ cap)) (P6 : Exa Z h0 r0 c20_) (P7 : Fld Z h0 r0 c20_ "e0" c0_ (.ref s0_)) (P8 : Fld Z h0 r0 c20_ "e1" c0_ (.ref s1_)) (P9 : Str Z h0 s0_ t0_ d0_) (P10 : (d0_.length ≤ 2)) (P11 : Str Z h0 s1_ t1_ d1_) (P12 : (d1_.length ≤ 2)) (hL : (OwnL Z dz el ee em mr kd ke)) :
    Met l mn896 y61_ 2 (some (.object c14_)) [] (Rm 8 5 60 119) Z consts_1 vm0 h0 #[(.ref b), (.ref r0)] (fun rv vm h => rv = some (.ref b) ∧ Keep h0 h [b, v] ∧ SBd Z h b v cap (cs ++ ((((((([] : List Int32) ++ [(91 : Int32)]) ++ d0_) ++ [(44 : Int32)]) ++ [(32 : Int32)]) ++ d1_) ++ [(93 : Int32)])) ∧ Safe Z consts_1 vm h v) := by
  have hw := cx.1
  refine Met.of_walk (a0 := a0) #[vr b, vr r0] (plainFor_of_name own_pn596) X00 cx.2.1 (fun _ => rfl) ?_
  intro p e s m below meth c vm hx hby hml hret hnm hC0 hW0
  have lt_v : h0.size > v := P0.vlt
  have lt_b : h0.size > b := P0.1.lt
  have L3 := hC0.safe lt_v P3
  have lt_r0 : h0.size > r0 := P6.lt
  have lt_s0_ : h0.size > s0_ := P9.1.lt
  have lt_t0_ : h0.size > t0_ := P9.tlt
  have lt_s1_ : h0.size > s1_ := P11.1.lt
  have lt_t1_ : h0.size > t1_ := P11.tlt
  have eE := P0.1
  refine vAN 1 d889 ?_
  refine vAN 2 d890 ?_
  refine gmS (y := mn888) (oz hw 215) (oz hw 216) (oz hw 217) (oz hw 6) (fun O => own_vol2 cx r0 s0_ t0_ d0_ s1_ t1_ d1_ vm h0 O P6 P7 P8 P9 (by first | assumption | decide | omega) P11 (by first | assumption | decide | omega) (by first | assumption | decide | omega)) 5 (argsL := [(.ref r0)]) (rest := [(.ref b)]) own_pd892 d891 ?_
  rintro _ vm1 h1 C1 z1 ⟨r1, t1, rfl, K1, q1_0, q1_1, q1_2⟩
  have lt_r1 : h1.size > r1 := q1_2.1.lt
  have lt_t1 : h1.size > t1 := q1_2.tlt
  refine gat1 ?_
  have f3 := (P0.keep K1 nin0 nin0)
  have f4 := (C1.sf L3)
  have f5 := (eE.keep K1)
  refine gmV (y := mn684) (z := mn684) (oz hw 263) (oz hw 164) (nfSel (oz hw 166)) (oz hw 166) (oz hw 165) (oz hw 167) (oz hw 144) (fun O => own_sbappend cx b r1 v cap cs t1 (((((((([] : List Int32) ++ [(91 : Int32)]) ++ d0_) ++ [(44 : Int32)]) ++ [(32 : Int32)]) ++ d1_) ++ [(93 : Int32)])) vm1 h1 O f3 q1_2 P1 P2 f4 (by simp only [lA, lN, lC]; omega) (Nat.ne_of_lt (by omega))) 8 (argsL := [(.ref r1)]) (rest := []) f5 own_pd894 d893 ?_
  rintro _ vm2 h2 C2 z2 ⟨rfl, K2, q2_0, q2_1⟩
  refine gat1 ?_
  exact gretA hx hret rfl rfl (hb hby d895) (by decide) (by decide) (fun vq Cq => ⟨rfl, (((Keep.refl h0 [b, v]).trans K1 all0).trans K2 (allS (Or.inl (List.mem_of_getElem? (i := 0) rfl)) (allS (Or.inl (List.mem_of_getElem? (i := 1) rfl)) all0))), q2_0, (Cq.sf q2_1)⟩)
theorem own_cts3 {l : Launch} {Z : State} {a0 : Array Value} (cx : Ctx Z a0) (r0 g : Addr) (kg : ClassId) (s0_ t0_ : Addr) (d0_ : List Int32) (s1_ t1_ : Addr) (d1_ : List Int32) (s2_ t2_ : Addr) (d2_ : List Int32) {dz el ee em mr : Addr} {kd ke : ClassId} (vm0 : Vm) (h0 : Heap) (X00 : Ext Z.heap h0) (P0 : Exa Z h0 r0 c22_) (P1 : Fld Z h0 r0 c22_ "elements" c4_ (.ref g)) (P2 : Arv Z h0 g kg (.object c12_) (3 : Int32) [(.ref s0_), (.ref s1_), (.ref s2_)] .null) (P3 : Str Z h0 s0_ t0_ d0_) (P4 : (d0_.length ≤ 2)) (P5 : Str Z h0 s1_ t1_ d1_) (P6 : (d1_.length ≤ 2)) (P7 : Str Z h0 s2_ t2_ d2_) (P8 : (d2_.length ≤ 2)) (hL : (OwnL Z dz el ee em mr kd ke)) :
    Met l mn961 y2_ 4 (some (.object c13_)) [] (Rm 6 5 60 91) Z consts_1 vm0 h0 #[(.ref r0)] (fun rv vm h => ∃ (r : Addr), ∃ (t : Addr), rv = some (.ref r) ∧ Keep h0 h [] ∧ h0.size ≤ r ∧ h0.size ≤ t ∧ Str Z h r t (((((((((([] : List Int32) ++ [(91 : Int32)]) ++ d0_) ++ [(44 : Int32)]) ++ [(32 : Int32)]) ++ d1_) ++ [(44 : Int32)]) ++ [(32 : Int32)]) ++ d2_) ++ [(93 : Int32)])) := by
  have hw := cx.1
  refine Met.of_walk (a0 := a0) #[vr r0, un, un, un] (plainFor_of_name own_pn150) X00 cx.2.1 (fun _ => rfl) ?_
  intro p e s m below meth c vm hx hby hml hret hnm hC0 hW0
  have lt_r0 : h0.size > r0 := P0.lt
  have lt_g : h0.size > g := P2.lt
  have lt_s0_ : h0.size > s0_ := P3.1.lt
  have lt_t0_ : h0.size > t0_ := P3.tlt
  have lt_s1_ : h0.size > s1_ := P5.1.lt
  have lt_t1_ : h0.size > t1_ := P5.tlt
  have lt_s2_ : h0.size > s2_ := P7.1.lt
  have lt_t2_ : h0.size > t2_ := P7.tlt
  refine vAN 1 d952 ?_
  refine gmV (y := mn954) (z := mn933) (oz hw 224) (oz hw 225) (nfSup (oz hw 118)) (oz hw 226) (oz hw 227) (oz hw 229) (oz hw 228) (fun O => own_ait3 cx r0 g kg s0_ s1_ s2_ vm h0 O P0 P1 P2 P3.1 P5.1 P7.1 (by first | assumption | decide | omega)) 4 (argsL := []) (rest := []) P0 own_pd545 d953 ?_
  rintro _ vm1 h1 C1 z1 ⟨it1, rfl, K1, q1_0, q1_1, q1_2, q1_3, q1_4, q1_5⟩
  have lt_it1 : h1.size > it1 := q1_2.lt
  refine gat1 ?_
  refine vSAN 5 #[vr r0, vr it1, un, un] d955 ?_
  refine vAN 6 d956 ?_
  refine gmF (xi := mn550) (y := mn921) (oz hw 255) (oz hw 91) (fun _ _ hU => mvT hU (oz hw 92)) (oz hw 256) (oz hw 257) (oz hw 258) (oz hw 259) (oz hw 260) (oz hw 261) (oz hw 232) (fun O => own_lhnN cx it1 ((0 : Int32)) ((3 : Int32)) vm1 h1 O q1_4 q1_5 (by first | assumption | decide | omega)) 11 (argsL := []) (rest := []) q1_2 own_pd43 d957 ?_
  rintro _ vm2 h2 C2 z2 ⟨rfl, rfl⟩
  refine gat1 ?_
  refine vY 17 d958 ((if0 _ _).trans (feq (by decide)).2) ?_
  refine gnewO hx (oz hw 470) (oz hw 143) (oz hw 144) 20 (hb hby d962) rfl (by decide) (by decide) ?_
  intro b3 h3 g3 E3 C3 A3 D3 n3 L3
  have z3 := C3.2.1
  have lt_b3 : h3.size > b3 := A3.lt
  have F3_value : Fld Z h3 b3 c10_ "value" "[B" .null := D3 (Or.inl (oz hw 157)) (ty := (.array .byte)) (by decide)
  have F3_coder : Fld Z h3 b3 c10_ "coder" "B" (.int (0 : Int32)) := D3 (Or.inl (oz hw 159)) (ty := .byte) (by decide)
  have F3_count : Fld Z h3 b3 c10_ "count" "I" (.int (0 : Int32)) := D3 (Or.inl (oz hw 184)) (ty := .int) (by decide)
  refine vD 21 d963 ?_
  refine gmI (y := mn595) rfl (oz hw 471) (oz hw 146) (oz hw 147) (oz hw 144) (fun O => own_sbinit cx b3 (.null) ((.int (0 : Int32))) vm2 h3 O A3 F3_value F3_coder F3_count n3) 24 (argsL := []) (rest := [(.ref b3)]) (a := b3) own_pd153 d964 ?_
  rintro _ vm4 h4 C4 z4 ⟨v4, rfl, K4, q4_0, q4_1, q4_2, q4_3, q4_4⟩
  have lt_v4 : h4.size > v4 := q4_0.vlt
  refine gat0 ?_
  refine vSAN 25 #[vr r0, vr it1, vr b3, un] d965 ?_
  refine vAN 26 d966 ?_
  refine vKb 28 (91 : Int32) d967 ?_
  have f6 := (A3.keep K4)
  refine gmV (y := mn876) (z := mn876) (oz hw 473) (oz hw 474) (nfSel (oz hw 476)) (oz hw 476) (oz hw 475) (oz hw 477) (oz hw 144) (fun O => own_sbC cx b3 ((91 : Int32)) v4 16 (([] : List Int32)) vm4 h4 O q4_0 n3 q4_2 q4_3 (by simp only [lA, lN, lC]; omega) ⟨by decide, by decide⟩) 31 (argsL := [(.int (91 : Int32))]) (rest := []) f6 own_pd969 d968 ?_
  rintro _ vm5 h5 C5 z5 ⟨rfl, K5, q5_0, q5_1⟩
  refine gat1 ?_
  refine vP 32 d970 ?_
  refine vAN 33 d971 ?_
  have f8 := (((q1_2.ext E3).keep K4).keep K5)
  have f9 := (((q1_3.ext E3).keep K4 nL).keep K5 nLL)
  have f10 := (((q1_4.ext E3).keep K4 nL).keep K5 nLL)
  have f11 := (((q1_5.ext E3).keep K4 nL).keep K5 nLL)
  have f12 := ((((P0.keep K1).ext E3).keep K4).keep K5)
  have f13 := ((((P1.keep K1 nin0).ext E3).keep K4 nL).keep K5 nLL)
  have f14 := ((((P2.keep K1 nin0).ext E3).keep K4 nL).keep K5 nLL)
  refine ginfo fun _ _ O7 => ?_
  refine gcallF (xi := mn568) (y := mn951) hx (oz hw 486) (oz hw 397) (fun _ _ hU => mvT hU (oz hw 398)) (oz hw 487) (oz hw 488) (oz hw 489) (oz hw 490) (oz hw 260) (by decide) (fun hZ H hEL => Pay.of_metH (W := 0) (ws := [it1]) (own_ln3_0 cx it1 r0 g kg s0_ s1_ s2_ vm5 h5 O7 f8 f9 f10 f11 q1_1 f12 f13 f14 ((((P3.1.keep K1).ext E3).keep K4).keep K5) ((((P5.1.keep K1).ext E3).keep K4).keep K5) ((((P7.1.keep K1).ext E3).keep K4).keep K5) (by first | assumption | decide | omega)) (oz hw 491) (oz hw 232) (by decide) (by decide) hZ H hEL (fun _ _ q => q.2.1) (allS (Safe.exa hZ.alike f8 (by decide) (by decide)) all0)) 38 (argsL := []) (rest := []) f8 (lenOf own_pd567 rfl) rfl rfl (Nat.le_of_eq rfl) (by rw [hml]; rfl) (hb hby d972) rfl (by decide) (by decide) ?_
  rintro _ vm7 h7 C7 ⟨rfl, K7, q7_0, q7_1, q7_2⟩
  have z7 := C7.2.1
  refine gat1 ?_
  refine vSAN 39 #[vr r0, vr it1, vr b3, vr s0_] d973 ?_
  refine vAN 40 d974 ?_
  refine vAN 41 d975 ?_
  refine vAN 42 d976 ?_
  have f15 := (f12.keep K7)
  refine gx (mkF m 50 #[vr r0, vr it1, vr b3, vr s0_] [(.ref b3)]) (fun T locs X _ _ _ _ kq => Jvm.RoadKit.acmp (g := (mkF m 42 #[vr r0, vr it1, vr b3, vr s0_] [(.ref r0), (.ref s0_), (.ref b3)])) X hx rfl rfl rfl (pc0 := 42) (pc' := 50) (same := false) rfl (hb hby d977) rfl (decide_eq_false fun q => (ne_exa (((((P3.1.keep K1).ext E3).keep K4).keep K5).keep K7) f15 (by decide)) (Value.ref.inj q)) (by decide) (by decide) kq) ?_
  refine vAN 51 d978 ?_
  have f17 := (q5_0.keep K7 nG nG)
  have f18 := (((((P3.keep K1 nin0 nin0).ext E3).keep K4 nL nL).keep K5 nLL nLL).keep K7 nL nL)
  have f19 := (C7.sf q5_1)
  have f20 := ((f6.keep K5).keep K7)
  refine gmV (y := mn896) (z := mn896) (oz hw 501) (oz hw 211) (nfSel (oz hw 213)) (oz hw 213) (oz hw 212) (oz hw 214) (oz hw 144) (fun O => own_apO cx b3 s0_ v4 16 ((([] : List Int32) ++ [(91 : Int32)])) t0_ d0_ vm7 h7 O f17 f18 n3 q4_2 f19 (by simp only [lA, lN, lC]; omega) (Nat.ne_of_gt (by omega))) 54 (argsL := [(.ref s0_)]) (rest := []) f20 own_pd980 d979 ?_
  rintro _ vm16 h16 C16 z16 ⟨rfl, K16, q16_0, q16_1⟩
  refine gat1 ?_
  refine vP 55 d981 ?_
  refine vAN 56 d982 ?_
  have f22 := (q7_1.keep K16 nLL)
  have f23 := (q7_2.keep K16 nLL)
  have f24 := ((f8.keep K7).keep K16)
  refine gmF (xi := mn550) (y := mn921) (oz hw 255) (oz hw 91) (fun _ _ hU => mvT hU (oz hw 92)) (oz hw 256) (oz hw 257) (oz hw 258) (oz hw 259) (oz hw 260) (oz hw 261) (oz hw 232) (fun O => own_lhnN cx it1 ((1 : Int32)) ((3 : Int32)) vm16 h16 O f22 f23 (by first | assumption | decide | omega)) 61 (argsL := []) (rest := []) f24 own_pd43 d983 ?_
  rintro _ vm21 h21 C21 z21 ⟨rfl, rfl⟩
  refine gat1 ?_
  refine vY 74 d984 ((if0 _ _).trans (feq (by decide)).2) ?_
  refine vAN 75 d990 ?_
  refine vKb 77 (44 : Int32) d991 ?_
  have f26 := (C21.sf q16_1)
  have f27 := (f20.keep K16)
  refine gmV (y := mn876) (z := mn876) (oz hw 473) (oz hw 474) (nfSel (oz hw 476)) (oz hw 476) (oz hw 475) (oz hw 477) (oz hw 144) (fun O => own_sbC cx b3 ((44 : Int32)) v4 16 (((([] : List Int32) ++ [(91 : Int32)]) ++ d0_)) vm21 h16 O q16_0 n3 q4_2 f26 (by simp only [lA, lN, lC]; omega) ⟨by decide, by decide⟩) 80 (argsL := [(.int (44 : Int32))]) (rest := []) f27 own_pd969 d992 ?_
  rintro _ vm25 h25 C25 z25 ⟨rfl, K25, q25_0, q25_1⟩
  refine gat1 ?_
  refine vKb 82 (32 : Int32) d993 ?_
  have f29 := (f27.keep K25)
  refine gmV (y := mn876) (z := mn876) (oz hw 473) (oz hw 474) (nfSel (oz hw 476)) (oz hw 476) (oz hw 475) (oz hw 477) (oz hw 144) (fun O => own_sbC cx b3 ((32 : Int32)) v4 16 ((((([] : List Int32) ++ [(91 : Int32)]) ++ d0_) ++ [(44 : Int32)])) vm25 h25 O q25_0 n3 q4_2 q25_1 (by simp only [lA, lN, lC]; omega) ⟨by decide, by decide⟩) 85 (argsL := [(.int (32 : Int32))]) (rest := []) f29 own_pd969 d994 ?_
  rintro _ vm28 h28 C28 z28 ⟨rfl, K28, q28_0, q28_1⟩
  refine gat1 ?_
  refine vP 86 d995 ?_
  refine vG 32 d996 ?_
  refine vAN 33 d971 ?_
  have f31 := ((f24.keep K25).keep K28)
  have f32 := (((q7_0.keep K16 nLL).keep K25 nLL).keep K28 nLL)
  have f33 := ((f22.keep K25 nLL).keep K28 nLL)
  have f34 := ((f23.keep K25 nLL).keep K28 nLL)
  have f35 := (((f15.keep K16).keep K25).keep K28)
  have f36 := ((((f13.keep K7 nL).keep K16 nLL).keep K25 nLL).keep K28 nLL)
  have f37 := ((((f14.keep K7 nL).keep K16 nLL).keep K25 nLL).keep K28 nLL)
  refine ginfo fun _ _ O30 => ?_
  refine gcallF (xi := mn568) (y := mn951) hx (oz hw 486) (oz hw 397) (fun _ _ hU => mvT hU (oz hw 398)) (oz hw 487) (oz hw 488) (oz hw 489) (oz hw 490) (oz hw 260) (by decide) (fun hZ H hEL => Pay.of_metH (W := 0) (ws := [it1]) (own_ln3_1 cx it1 r0 g kg s0_ s1_ s2_ vm28 h28 O30 f31 f32 f33 f34 q1_1 f35 f36 f37 (((f18.1.keep K16).keep K25).keep K28) ((((((((P5.1.keep K1).ext E3).keep K4).keep K5).keep K7).keep K16).keep K25).keep K28) ((((((((P7.1.keep K1).ext E3).keep K4).keep K5).keep K7).keep K16).keep K25).keep K28) (by first | assumption | decide | omega)) (oz hw 491) (oz hw 232) (by decide) (by decide) hZ H hEL (fun _ _ q => q.2.1) (allS (Safe.exa hZ.alike f31 (by decide) (by decide)) all0)) 38 (argsL := []) (rest := []) f31 (lenOf own_pd567 rfl) rfl rfl (Nat.le_of_eq rfl) (by rw [hml]; rfl) (hb hby d972) rfl (by decide) (by decide) ?_
  rintro _ vm30 h30 C30 ⟨rfl, K30, q30_0, q30_1, q30_2⟩
  have z30 := C30.2.1
  refine gat1 ?_
  refine vSAN 39 #[vr r0, vr it1, vr b3, vr s1_] d973 ?_
  refine vAN 40 d974 ?_
  refine vAN 41 d975 ?_
  refine vAN 42 d976 ?_
  have f38 := (f35.keep K30)
  refine gx (mkF m 50 #[vr r0, vr it1, vr b3, vr s1_] [(.ref b3)]) (fun T locs X _ _ _ _ kq => Jvm.RoadKit.acmp (g := (mkF m 42 #[vr r0, vr it1, vr b3, vr s1_] [(.ref r0), (.ref s1_), (.ref b3)])) X hx rfl rfl rfl (pc0 := 42) (pc' := 50) (same := false) rfl (hb hby d977) rfl (decide_eq_false fun q => (ne_exa (((((((((P5.1.keep K1).ext E3).keep K4).keep K5).keep K7).keep K16).keep K25).keep K28).keep K30) f38 (by decide)) (Value.ref.inj q)) (by decide) (by decide) kq) ?_
  refine vAN 51 d978 ?_
  have f40 := (q28_0.keep K30 nG nG)
  have f41 := (((((((((P5.keep K1 nin0 nin0).ext E3).keep K4 nL nL).keep K5 nLL nLL).keep K7 nL nL).keep K16 nLL nLL).keep K25 nLL nLL).keep K28 nLL nLL).keep K30 nL nL)
  have f42 := (C30.sf q28_1)
  have f43 := ((f29.keep K28).keep K30)
  refine gmV (y := mn896) (z := mn896) (oz hw 501) (oz hw 211) (nfSel (oz hw 213)) (oz hw 213) (oz hw 212) (oz hw 214) (oz hw 144) (fun O => own_apO cx b3 s1_ v4 16 (((((([] : List Int32) ++ [(91 : Int32)]) ++ d0_) ++ [(44 : Int32)]) ++ [(32 : Int32)])) t1_ d1_ vm30 h30 O f40 f41 n3 q4_2 f42 (by simp only [lA, lN, lC]; omega) (Nat.ne_of_gt (by omega))) 54 (argsL := [(.ref s1_)]) (rest := []) f43 own_pd980 d979 ?_
  rintro _ vm39 h39 C39 z39 ⟨rfl, K39, q39_0, q39_1⟩
  refine gat1 ?_
  refine vP 55 d981 ?_
  refine vAN 56 d982 ?_
  have f45 := (q30_1.keep K39 nLL)
  have f46 := (q30_2.keep K39 nLL)
  have f47 := ((f31.keep K30).keep K39)
  refine gmF (xi := mn550) (y := mn921) (oz hw 255) (oz hw 91) (fun _ _ hU => mvT hU (oz hw 92)) (oz hw 256) (oz hw 257) (oz hw 258) (oz hw 259) (oz hw 260) (oz hw 261) (oz hw 232) (fun O => own_lhnN cx it1 ((2 : Int32)) ((3 : Int32)) vm39 h39 O f45 f46 (by first | assumption | decide | omega)) 61 (argsL := []) (rest := []) f47 own_pd43 d983 ?_
  rintro _ vm44 h44 C44 z44 ⟨rfl, rfl⟩
  refine gat1 ?_
  refine vY 74 d984 ((if0 _ _).trans (feq (by decide)).2) ?_
  refine vAN 75 d990 ?_
  refine vKb 77 (44 : Int32) d991 ?_
  have f49 := (C44.sf q39_1)
  have f50 := (f43.keep K39)
  refine gmV (y := mn876) (z := mn876) (oz hw 473) (oz hw 474) (nfSel (oz hw 476)) (oz hw 476) (oz hw 475) (oz hw 477) (oz hw 144) (fun O => own_sbC cx b3 ((44 : Int32)) v4 16 ((((((([] : List Int32) ++ [(91 : Int32)]) ++ d0_) ++ [(44 : Int32)]) ++ [(32 : Int32)]) ++ d1_)) vm44 h39 O q39_0 n3 q4_2 f49 (by simp only [lA, lN, lC]; omega) ⟨by decide, by decide⟩) 80 (argsL := [(.int (44 : Int32))]) (rest := []) f50 own_pd969 d992 ?_
  rintro _ vm48 h48 C48 z48 ⟨rfl, K48, q48_0, q48_1⟩
  refine gat1 ?_
  refine vKb 82 (32 : Int32) d993 ?_
  have f52 := (f50.keep K48)
  refine gmV (y := mn876) (z := mn876) (oz hw 473) (oz hw 474) (nfSel (oz hw 476)) (oz hw 476) (oz hw 475) (oz hw 477) (oz hw 144) (fun O => own_sbC cx b3 ((32 : Int32)) v4 16 (((((((([] : List Int32) ++ [(91 : Int32)]) ++ d0_) ++ [(44 : Int32)]) ++ [(32 : Int32)]) ++ d1_) ++ [(44 : Int32)])) vm48 h48 O q48_0 n3 q4_2 q48_1 (by simp only [lA, lN, lC]; omega) ⟨by decide, by decide⟩) 85 (argsL := [(.int (32 : Int32))]) (rest := []) f52 own_pd969 d994 ?_
  rintro _ vm51 h51 C51 z51 ⟨rfl, K51, q51_0, q51_1⟩
  refine gat1 ?_
  refine vP 86 d995 ?_
  refine vG 32 d996 ?_
  refine vAN 33 d971 ?_
  have f54 := ((f47.keep K48).keep K51)
  have f55 := (((q30_0.keep K39 nLL).keep K48 nLL).keep K51 nLL)
  have f56 := ((f45.keep K48 nLL).keep K51 nLL)
  have f57 := ((f46.keep K48 nLL).keep K51 nLL)
  have f58 := (((f38.keep K39).keep K48).keep K51)
  have f59 := ((((f36.keep K30 nL).keep K39 nLL).keep K48 nLL).keep K51 nLL)
  have f60 := ((((f37.keep K30 nL).keep K39 nLL).keep K48 nLL).keep K51 nLL)
  refine ginfo fun _ _ O53 => ?_
  refine gcallF (xi := mn568) (y := mn951) hx (oz hw 486) (oz hw 397) (fun _ _ hU => mvT hU (oz hw 398)) (oz hw 487) (oz hw 488) (oz hw 489) (oz hw 490) (oz hw 260) (by decide) (fun hZ H hEL => Pay.of_metH (W := 0) (ws := [it1]) (own_ln3_2 cx it1 r0 g kg s0_ s1_ s2_ vm51 h51 O53 f54 f55 f56 f57 q1_1 f58 f59 f60 (((((((f18.1.keep K16).keep K25).keep K28).keep K30).keep K39).keep K48).keep K51) (((f41.1.keep K39).keep K48).keep K51) ((((((((((((P7.1.keep K1).ext E3).keep K4).keep K5).keep K7).keep K16).keep K25).keep K28).keep K30).keep K39).keep K48).keep K51) (by first | assumption | decide | omega)) (oz hw 491) (oz hw 232) (by decide) (by decide) hZ H hEL (fun _ _ q => q.2.1) (allS (Safe.exa hZ.alike f54 (by decide) (by decide)) all0)) 38 (argsL := []) (rest := []) f54 (lenOf own_pd567 rfl) rfl rfl (Nat.le_of_eq rfl) (by rw [hml]; rfl) (hb hby d972) rfl (by decide) (by decide) ?_
  rintro _ vm53 h53 C53 ⟨rfl, K53, q53_0, q53_1, q53_2⟩
  have z53 := C53.2.1
  refine gat1 ?_
  refine vSAN 39 #[vr r0, vr it1, vr b3, vr s2_] d973 ?_
  refine vAN 40 d974 ?_
  refine vAN 41 d975 ?_
  refine vAN 42 d976 ?_
  have f61 := (f58.keep K53)
  refine gx (mkF m 50 #[vr r0, vr it1, vr b3, vr s2_] [(.ref b3)]) (fun T locs X _ _ _ _ kq => Jvm.RoadKit.acmp (g := (mkF m 42 #[vr r0, vr it1, vr b3, vr s2_] [(.ref r0), (.ref s2_), (.ref b3)])) X hx rfl rfl rfl (pc0 := 42) (pc' := 50) (same := false) rfl (hb hby d977) rfl (decide_eq_false fun q => (ne_exa (((((((((((((P7.1.keep K1).ext E3).keep K4).keep K5).keep K7).keep K16).keep K25).keep K28).keep K30).keep K39).keep K48).keep K51).keep K53) f61 (by decide)) (Value.ref.inj q)) (by decide) (by decide) kq) ?_
  refine vAN 51 d978 ?_
  have f63 := (q51_0.keep K53 nG nG)
  have f64 := (((((((((((((P7.keep K1 nin0 nin0).ext E3).keep K4 nL nL).keep K5 nLL nLL).keep K7 nL nL).keep K16 nLL nLL).keep K25 nLL nLL).keep K28 nLL nLL).keep K30 nL nL).keep K39 nLL nLL).keep K48 nLL nLL).keep K51 nLL nLL).keep K53 nL nL)
  have f65 := (C53.sf q51_1)
  have f66 := ((f52.keep K51).keep K53)
  refine gmV (y := mn896) (z := mn896) (oz hw 501) (oz hw 211) (nfSel (oz hw 213)) (oz hw 213) (oz hw 212) (oz hw 214) (oz hw 144) (fun O => own_apO cx b3 s2_ v4 16 ((((((((([] : List Int32) ++ [(91 : Int32)]) ++ d0_) ++ [(44 : Int32)]) ++ [(32 : Int32)]) ++ d1_) ++ [(44 : Int32)]) ++ [(32 : Int32)])) t2_ d2_ vm53 h53 O f63 f64 n3 q4_2 f65 (by simp only [lA, lN, lC]; omega) (Nat.ne_of_gt (by omega))) 54 (argsL := [(.ref s2_)]) (rest := []) f66 own_pd980 d979 ?_
  rintro _ vm62 h62 C62 z62 ⟨rfl, K62, q62_0, q62_1⟩
  refine gat1 ?_
  refine vP 55 d981 ?_
  refine vAN 56 d982 ?_
  have f68 := (q53_1.keep K62 nLL)
  have f69 := (q53_2.keep K62 nLL)
  have f70 := ((f54.keep K53).keep K62)
  refine gmF (xi := mn550) (y := mn921) (oz hw 255) (oz hw 91) (fun _ _ hU => mvT hU (oz hw 92)) (oz hw 256) (oz hw 257) (oz hw 258) (oz hw 259) (oz hw 260) (oz hw 261) (oz hw 232) (fun O => own_lhnE cx it1 ((3 : Int32)) vm62 h62 O f68 f69) 61 (argsL := []) (rest := []) f70 own_pd43 d983 ?_
  rintro _ vm67 h67 C67 z67 ⟨rfl, rfl⟩
  refine gat1 ?_
  refine vN 64 d984 ((if0 _ _).trans (teq (by decide)).2) ?_
  refine vAN 65 d985 ?_
  refine vKb 67 (93 : Int32) d986 ?_
  have f72 := (C67.sf q62_1)
  have f73 := (f66.keep K62)
  refine gmV (y := mn876) (z := mn876) (oz hw 473) (oz hw 474) (nfSel (oz hw 476)) (oz hw 476) (oz hw 475) (oz hw 477) (oz hw 144) (fun O => own_sbC cx b3 ((93 : Int32)) v4 16 (((((((((([] : List Int32) ++ [(91 : Int32)]) ++ d0_) ++ [(44 : Int32)]) ++ [(32 : Int32)]) ++ d1_) ++ [(44 : Int32)]) ++ [(32 : Int32)]) ++ d2_)) vm67 h62 O q62_0 n3 q4_2 f72 (by simp only [lA, lN, lC]; omega) ⟨by decide, by decide⟩) 70 (argsL := [(.int (93 : Int32))]) (rest := []) f73 own_pd969 d987 ?_
  rintro _ vm71 h71 C71 z71 ⟨rfl, K71, q71_0, q71_1⟩
  refine gat1 ?_
  have f75 := (f73.keep K71)
  refine gmV (y := mn785) (z := mn785) (oz hw 505) (oz hw 265) (nfSel (oz hw 267)) (oz hw 267) (oz hw 266) (oz hw 268) (oz hw 144) (fun O => own_sbtostring cx b3 v4 16 ((((((((((([] : List Int32) ++ [(91 : Int32)]) ++ d0_) ++ [(44 : Int32)]) ++ [(32 : Int32)]) ++ d1_) ++ [(44 : Int32)]) ++ [(32 : Int32)]) ++ d2_) ++ [(93 : Int32)])) vm71 h71 O q71_0 (by simp only [lA, lN, lC]; omega) (by simp only [lA, lN, lC]; omega)) 73 (argsL := []) (rest := []) f75 own_pd884 d988 ?_
  rintro _ vm74 h74 C74 z74 ⟨r74, t74, rfl, K74, q74_0, q74_1, q74_2⟩
  have lt_r74 : h74.size > r74 := q74_2.1.lt
  have lt_t74 : h74.size > t74 := q74_2.tlt
  refine gat1 ?_
  exact gretA hx hret rfl rfl (hb hby d989) (by decide) (by decide) (fun vq Cq => ⟨r74, t74, rfl, (((((((((((((((((Keep.refl h0 []).trans K1 all0).ext E3).trans K4 (allS (Or.inr (by omega)) all0)).trans K5 (allS (Or.inr (by omega)) (allS (Or.inr (by omega)) all0))).trans K7 (allS (Or.inr (by omega)) all0)).trans K16 (allS (Or.inr (by omega)) (allS (Or.inr (by omega)) all0))).trans K25 (allS (Or.inr (by omega)) (allS (Or.inr (by omega)) all0))).trans K28 (allS (Or.inr (by omega)) (allS (Or.inr (by omega)) all0))).trans K30 (allS (Or.inr (by omega)) all0)).trans K39 (allS (Or.inr (by omega)) (allS (Or.inr (by omega)) all0))).trans K48 (allS (Or.inr (by omega)) (allS (Or.inr (by omega)) all0))).trans K51 (allS (Or.inr (by omega)) (allS (Or.inr (by omega)) all0))).trans K53 (allS (Or.inr (by omega)) all0)).trans K62 (allS (Or.inr (by omega)) (allS (Or.inr (by omega)) all0))).trans K71 (allS (Or.inr (by omega)) (allS (Or.inr (by omega)) all0))).trans K74 all0), (by omega), (by omega), q74_2⟩)
theorem own_vol3 {l : Launch} {Z : State} {a0 : Array Value} (cx : Ctx Z a0) (r0 g : Addr) (kg : ClassId) (s0_ t0_ : Addr) (d0_ : List Int32) (s1_ t1_ : Addr) (d1_ : List Int32) (s2_ t2_ : Addr) (d2_ : List Int32) {dz el ee em mr : Addr} {kd ke : ClassId} (vm0 : Vm) (h0 : Heap) (X00 : Ext Z.heap h0) (P0 : Exa Z h0 r0 c22_) (P1 : Fld Z h0 r0 c22_ "elements" c4_ (.ref g)) (P2 : Arv Z h0 g kg (.object c12_) (3 : Int32) [(.ref s0_), (.ref s1_), (.ref s2_)] .null) (P3 : Str Z h0 s0_ t0_ d0_) (P4 : (d0_.length ≤ 2)) (P5 : Str Z h0 s1_ t1_ d1_) (P6 : (d1_.length ≤ 2)) (P7 : Str Z h0 s2_ t2_ d2_) (P8 : (d2_.length ≤ 2)) (hL : (OwnL Z dz el ee em mr kd ke)) :
    Met l mn888 y21_ 1 (some (.object c13_)) [] (Rm 7 5 60 106) Z consts_1 vm0 h0 #[(.ref r0)] (fun rv vm h => ∃ (r : Addr), ∃ (t : Addr), rv = some (.ref r) ∧ Keep h0 h [] ∧ h0.size ≤ r ∧ h0.size ≤ t ∧ Str Z h r t (((((((((([] : List Int32) ++ [(91 : Int32)]) ++ d0_) ++ [(44 : Int32)]) ++ [(32 : Int32)]) ++ d1_) ++ [(44 : Int32)]) ++ [(32 : Int32)]) ++ d2_) ++ [(93 : Int32)])) := by
  have hw := cx.1
  refine Met.of_walk (a0 := a0) #[vr r0] (plainFor_of_name own_pn17) X00 cx.2.1 (fun _ => rfl) ?_
  intro p e s m below meth c vm hx hby hml hret hnm hC0 hW0
  have lt_r0 : h0.size > r0 := P0.lt
  have lt_g : h0.size > g := P2.lt
  have lt_s0_ : h0.size > s0_ := P3.1.lt
  have lt_t0_ : h0.size > t0_ := P3.tlt
  have lt_s1_ : h0.size > s1_ := P5.1.lt
  have lt_t1_ : h0.size > t1_ := P5.tlt
  have lt_s2_ : h0.size > s2_ := P7.1.lt
  have lt_t2_ : h0.size > t2_ := P7.tlt
  refine vAN 1 d880 ?_
  refine vY1 10 d881 ?_
  refine vAN 11 d882 ?_
  refine gmV (y := mn885) (z := mn961) (oz hw 218) (oz hw 219) (nfSame (y' := mn886) (oz hw 425) (oz hw 424) rfl) (oz hw 221) (oz hw 222) (oz hw 223) (oz hw 50) (fun O => own_cts3 cx r0 g kg s0_ t0_ d0_ s1_ t1_ d1_ s2_ t2_ d2_ vm h0 O P0 P1 P2 P3 (by first | assumption | decide | omega) P5 (by first | assumption | decide | omega) P7 (by first | assumption | decide | omega) (by first | assumption | decide | omega)) 14 (argsL := []) (rest := []) P0 own_pd884 d883 ?_
  rintro _ vm1 h1 C1 z1 ⟨r1, t1, rfl, K1, q1_0, q1_1, q1_2⟩
  have lt_r1 : h1.size > r1 := q1_2.1.lt
  have lt_t1 : h1.size > t1 := q1_2.tlt
  refine gat1 ?_
  exact gretA hx hret rfl rfl (hb hby d887) (by decide) (by decide) (fun vq Cq => ⟨r1, t1, rfl, ((Keep.refl h0 []).trans K1 all0), (by omega), (by omega), q1_2⟩)
theorem own_apl3 {l : Launch} {Z : State} {a0 : Array Value} (cx : Ctx Z a0) (b v : Addr) (cap : Nat) (cs : List Int32) (r0 g : Addr) (kg : ClassId) (s0_ t0_ : Addr) (d0_ : List Int32) (s1_ t1_ : Addr) (d1_ : List Int32) (s2_ t2_ : Addr) (d2_ : List Int32) {dz el ee em mr : Addr} {kd ke : ClassId} (vm0 : Vm) (h0 : Heap) (X00 : Ext Z.heap h0) (P0 : SBd Z h0 b v cap cs) (P1 : Z.heap.size ≤ b) (P2 : Z.heap.size ≤ v) (P3 : Safe Z consts_1 vm0 h0 v) (hcs : (cs.length ≤ 3)) (hcap : (16 ≤ cap)) (P6 : Exa Z h0 r0 c22_) (P7 : Fld Z h0 r0 c22_ "elements" c4_ (.ref g)) (P8 : Arv Z h0 g kg (.object c12_) (3 : Int32) [(.ref s0_), (.ref s1_), (.ref s2_)] .null) (P9 : Str Z h0 s0_ t0_ d0_) (P10 : (d0_.length ≤ 2)) (P11 : Str Z h0 s1_ t1_ d1_) (P12 : (d1_.length ≤ 2)) (P13 : Str Z h0 s2_ t2_ d2_) (P14 : (d2_.length ≤ 2)) (hL : (OwnL Z dz el ee em mr kd ke)) :
    Met l mn896 y61_ 2 (some (.object c14_)) [] (Rm 8 5 60 119) Z consts_1 vm0 h0 #[(.ref b), (.ref r0)] (fun rv vm h => rv = some (.ref b) ∧ Keep h0 h [b, v] ∧ SBd Z h b v cap (cs ++ (((((((((([] : List Int32) ++ [(91 : Int32)]) ++ d0_) ++ [(44 : Int32)]) ++ [(32 : Int32)]) ++ d1_) ++ [(44 : Int32)]) ++ [(32 : Int32)]) ++ d2_) ++ [(93 : Int32)])) ∧ Safe Z consts_1 vm h v) := by
  have hw := cx.1
  refine Met.of_walk (a0 := a0) #[vr b, vr r0] (plainFor_of_name own_pn596) X00 cx.2.1 (fun _ => rfl) ?_
  intro p e s m below meth c vm hx hby hml hret hnm hC0 hW0
  have lt_v : h0.size > v := P0.vlt
  have lt_b : h0.size > b := P0.1.lt
  have L3 := hC0.safe lt_v P3
  have lt_r0 : h0.size > r0 := P6.lt
  have lt_g : h0.size > g := P8.lt
  have lt_s0_ : h0.size > s0_ := P9.1.lt
  have lt_t0_ : h0.size > t0_ := P9.tlt
  have lt_s1_ : h0.size > s1_ := P11.1.lt
  have lt_t1_ : h0.size > t1_ := P11.tlt
  have lt_s2_ : h0.size > s2_ := P13.1.lt
  have lt_t2_ : h0.size > t2_ := P13.tlt
  have eE := P0.1
  refine vAN 1 d889 ?_
  refine vAN 2 d890 ?_
  refine gmS (y := mn888) (oz hw 215) (oz hw 216) (oz hw 217) (oz hw 6) (fun O => own_vol3 cx r0 g kg s0_ t0_ d0_ s1_ t1_ d1_ s2_ t2_ d2_ vm h0 O P6 P7 P8 P9 (by first | assumption | decide | omega) P11 (by first | assumption | decide | omega) P13 (by first | assumption | decide | omega) (by first | assumption | decide | omega)) 5 (argsL := [(.ref r0)]) (rest := [(.ref b)]) own_pd892 d891 ?_
  rintro _ vm1 h1 C1 z1 ⟨r1, t1, rfl, K1, q1_0, q1_1, q1_2⟩
  have lt_r1 : h1.size > r1 := q1_2.1.lt
  have lt_t1 : h1.size > t1 := q1_2.tlt
  refine gat1 ?_
  have f3 := (P0.keep K1 nin0 nin0)
  have f4 := (C1.sf L3)
  have f5 := (eE.keep K1)
  refine gmV (y := mn684) (z := mn684) (oz hw 263) (oz hw 164) (nfSel (oz hw 166)) (oz hw 166) (oz hw 165) (oz hw 167) (oz hw 144) (fun O => own_sbappend cx b r1 v cap cs t1 ((((((((((([] : List Int32) ++ [(91 : Int32)]) ++ d0_) ++ [(44 : Int32)]) ++ [(32 : Int32)]) ++ d1_) ++ [(44 : Int32)]) ++ [(32 : Int32)]) ++ d2_) ++ [(93 : Int32)])) vm1 h1 O f3 q1_2 P1 P2 f4 (by simp only [lA, lN, lC]; omega) (Nat.ne_of_lt (by omega))) 8 (argsL := [(.ref r1)]) (rest := []) f5 own_pd894 d893 ?_
  rintro _ vm2 h2 C2 z2 ⟨rfl, K2, q2_0, q2_1⟩
  refine gat1 ?_
  exact gretA hx hret rfl rfl (hb hby d895) (by decide) (by decide) (fun vq Cq => ⟨rfl, (((Keep.refl h0 [b, v]).trans K1 all0).trans K2 (allS (Or.inl (List.mem_of_getElem? (i := 0) rfl)) (allS (Or.inl (List.mem_of_getElem? (i := 1) rfl)) all0))), q2_0, (Cq.sf q2_1)⟩)
def own_u (f : Int32) (d : List Int32) : List Int32 := if f = (0 : Int32) then [] else d ++ [(32 : Int32)]
theorem own_ul {f : Int32} {d : List Int32} (h : d.length ≤ 2) : (own_u f d).length ≤ 3 := by unfold own_u; split <;> simp; omega
theorem d997 : Dc y77_ 0 (.new 74) 3 := by decide +kernel
theorem d998 : Dc y77_ 3 (.dup) 1 := by decide +kernel
theorem d999 : Dc y77_ 4 (.invokespecial 76) 3 := by decide +kernel
theorem d1000 : Dc y77_ 7 (.aload_n 0) 1 := by decide +kernel
theorem d1001 : Dc y77_ 8 (.getfield 37) 3 := by decide +kernel
theorem d1002 : Dc y77_ 11 (.ifnonnull 8) 3 := by decide +kernel
theorem d1003 : Dc y77_ 14 (.ldc 77) 2 := by decide +kernel
theorem d1004 : Dc y77_ 16 (.goto 25) 3 := by decide +kernel
theorem d1005 : Dc y77_ 19 (.new 74) 3 := by decide +kernel
theorem d1006 : Dc y77_ 22 (.dup) 1 := by decide +kernel
theorem d1007 : Dc y77_ 23 (.invokespecial 76) 3 := by decide +kernel
theorem d1008 : Dc y77_ 26 (.aload_n 0) 1 := by decide +kernel
theorem d1009 : Dc y77_ 27 (.getfield 37) 3 := by decide +kernel
theorem d1010 : Dc y77_ 30 (.invokevirtual 79) 3 := by decide +kernel
theorem d1011 : Dc y77_ 33 (.ldc 83) 2 := by decide +kernel
theorem d1012 : Dc y77_ 35 (.invokevirtual 79) 3 := by decide +kernel
theorem d1013 : Dc y77_ 38 (.invokevirtual 85) 3 := by decide +kernel
theorem d1014 : Dc y77_ 41 (.invokevirtual 79) 3 := by decide +kernel
theorem d1015 : Dc y77_ 44 (.aload_n 0) 1 := by decide +kernel
theorem d1016 : Dc y77_ 45 (.getfield 51) 3 := by decide +kernel
theorem d1017 : Dc y77_ 48 (.invokevirtual 89) 3 := by decide +kernel
theorem d1018 : Dc y77_ 51 (.invokevirtual 85) 3 := by decide +kernel
theorem d1019 : Dc y77_ 54 (.areturn) 1 := by decide +kernel
abbrev mn1020 : MethodName := ⟨"com/example/headings_from_text/headingsfromtext/vocabulary/Concept", "toString", "()Ljava/lang/String;"⟩
theorem own_ct0 {l : Launch} {Z : State} {a0 : Array Value} (cx : Ctx Z a0) (y : Addr) (uv : Value) (fg : Int32) (du : List Int32) {dz el ee em mr : Addr} {kd ke : ClassId} (vm0 : Vm) (h0 : Heap) (X00 : Ext Z.heap h0) (P0 : own_U Z h0 uv du fg) (hdu : (du.length ≤ 2)) (P2 : Exa Z h0 y c6_) (P3 : Fld Z h0 y c6_ "ui" c1_ uv) (isRef_uv : (uv.isRef = true)) (P5 : Fld Z h0 y c6_ "terms" c3_ (.ref el)) (hL : (OwnL Z dz el ee em mr kd ke)) :
    Met l mn1020 y77_ 1 (some (.object c13_)) [] (Rm 6 13 136 92) Z consts_1 vm0 h0 #[(.ref y)] (fun rv vm h => ∃ (r : Addr), ∃ (t : Addr), rv = some (.ref r) ∧ Keep h0 h [] ∧ h0.size ≤ r ∧ Str Z h r t ((([] : List Int32) ++ (own_u fg du)) ++ [(91 : Int32), (93 : Int32)])) := by
  have hw := cx.1
  have hSA := own_SA hw
  refine Met.of_walk (a0 := a0) #[vr y] (plainFor_of_name own_pn564) X00 cx.2.1 (fun _ => rfl) ?_
  intro p e s m below meth c vm hx hby hml hret hnm hC0 hW0
  have lt_y : h0.size > y := P2.lt
  obtain ⟨Sdz, Edz, Vdz, Sel, Eel, Fee, Vee, Fan, Sem, Eem, Mmr⟩ := id hL
  refine ginfo fun _ _ OL1 => ?_
  have Eel_1 := Eel.ext OL1
  have lt_el : h0.size > el := Eel_1.lt
  refine gnewO hx (oz hw 142) (oz hw 143) (oz hw 144) 3 (hb hby d997) rfl (by decide) (by decide) ?_
  intro b2 h2 g2 E2 C2 A2 D2 n2 L2
  have z2 := C2.2.1
  have lt_b2 : h2.size > b2 := A2.lt
  have F2_value : Fld Z h2 b2 c10_ "value" "[B" .null := D2 (Or.inl (oz hw 157)) (ty := (.array .byte)) (by decide)
  have F2_coder : Fld Z h2 b2 c10_ "coder" "B" (.int (0 : Int32)) := D2 (Or.inl (oz hw 159)) (ty := .byte) (by decide)
  have F2_count : Fld Z h2 b2 c10_ "count" "I" (.int (0 : Int32)) := D2 (Or.inl (oz hw 184)) (ty := .int) (by decide)
  refine vD 4 d998 ?_
  refine gmI (y := mn595) rfl (oz hw 145) (oz hw 146) (oz hw 147) (oz hw 144) (fun O => own_sbinit cx b2 (.null) ((.int (0 : Int32))) vm h2 O A2 F2_value F2_coder F2_count n2) 7 (argsL := []) (rest := [(.ref b2)]) (a := b2) own_pd153 d999 ?_
  rintro _ vm3 h3 C3 z3 ⟨v3, rfl, K3, q3_0, q3_1, q3_2, q3_3, q3_4⟩
  have lt_v3 : h3.size > v3 := q3_0.vlt
  refine gat0 ?_
  refine gjoin (fun vmJ hJ gJ => ∃ (sx4 : Addr), ∃ (tx4 : Addr), ∃ (ds4 : List Int32), gJ = (mkF m 41 #[vr y] [(.ref sx4), (.ref b2)]) ∧ Keep h3 hJ [] ∧ CHq Z consts_1 vm3 h3 vmJ hJ ∧ Str Z hJ sx4 tx4 ds4 ∧ (ds4 = own_u fg du) ∧ (v3 ≠ tx4)) 8 84 ?_ ?_
  · rintro vm4 h4 _ ⟨sx4, tx4, ds4, rfl, K4, C4, q4_0, q4_1, q4_2⟩
    have z4 := C4.2.1
    have lt_sx4 : h4.size > sx4 := q4_0.1.lt
    have lt_tx4 : h4.size > tx4 := q4_0.tlt
    subst q4_1
    have hul := own_ul (f := fg) hdu
    have f27 := (q3_0.keep K4 nin0 nin0)
    have f28 := (C4.sf q3_3)
    have f29 := ((A2.keep K3).keep K4)
    refine gmV (y := mn684) (z := mn684) (oz hw 163) (oz hw 164) (nfSel (oz hw 166)) (oz hw 166) (oz hw 165) (oz hw 167) (oz hw 144) (fun O => own_sbappend cx b2 sx4 v3 16 (([] : List Int32)) tx4 ((own_u fg du)) vm4 h4 O f27 q4_0 n2 q3_2 f28 (by simp only [lA, lN, lC]; omega) q4_2) 44 (argsL := [(.ref sx4)]) (rest := []) f29 own_pd894 d1014 ?_
    rintro _ vm26 h26 C26 z26 ⟨rfl, K26, q26_0, q26_1⟩
    refine gat1 ?_
    refine vAN 45 d1015 ?_
    have f30 := ((((P5.ext E2).keep K3 nL).keep K4 nin0).keep K26 nLL)
    refine gF (oz hw 135) f30 48 d1016 ?_
    have f32 := (f29.keep K26)
    refine gmV (y := mn896) (z := mn896) (oz hw 210) (oz hw 211) (nfSel (oz hw 213)) (oz hw 213) (oz hw 212) (oz hw 214) (oz hw 144) (fun O => own_apl0 cx b2 v3 16 ((([] : List Int32) ++ (own_u fg du))) vm26 h26 O q26_0 n2 q3_2 q26_1 (by simp only [lA, lN, lC]; omega) (by decide) (by first | assumption | decide | omega)) 51 (argsL := [(.ref el)]) (rest := []) f32 own_pd980 d1017 ?_
    rintro _ vm31 h31 C31 z31 ⟨rfl, K31, q31_0, q31_1⟩
    refine gat1 ?_
    have f34 := (f32.keep K31)
    refine gmV (y := mn785) (z := mn785) (oz hw 264) (oz hw 265) (nfSel (oz hw 267)) (oz hw 267) (oz hw 266) (oz hw 268) (oz hw 144) (fun O => own_sbtostring cx b2 v3 16 (((([] : List Int32) ++ (own_u fg du)) ++ [(91 : Int32), (93 : Int32)])) vm31 h31 O q31_0 (by simp only [lA, lN, lC]; omega) (by simp only [lA, lN, lC]; omega)) 54 (argsL := []) (rest := []) f34 own_pd884 d1018 ?_
    rintro _ vm33 h33 C33 z33 ⟨r33, t33, rfl, K33, q33_0, q33_1, q33_2⟩
    have lt_r33 : h33.size > r33 := q33_2.1.lt
    have lt_t33 : h33.size > t33 := q33_2.tlt
    refine gat1 ?_
    exact gretA hx hret rfl rfl (hb hby d1019) (by decide) (by decide) (fun vq Cq => ⟨r33, t33, rfl, (((((((Keep.refl h0 []).ext E2).trans K3 (allS (Or.inr (by omega)) all0)).trans K4 all0).trans K26 (allS (Or.inr (by omega)) (allS (Or.inr (by omega)) all0))).trans K31 (allS (Or.inr (by omega)) (allS (Or.inr (by omega)) all0))).trans K33 all0), (by omega), q33_2⟩)
  · intro J4
    refine vAN 8 d1000 ?_
    rcases P0 with ⟨e5, rfl⟩ | ⟨e5, ui, tu, rfl, Su⟩
    · have f5 := ((P3.ext E2).keep K3 nL)
      refine gF (oz hw 103) f5 11 d1001 ?_
      refine vN1 14 d1002 ?_
      refine gldcRq hx (oz hw 160) hSA (by decide) (n := 0) (by decide) (by decide) (vs := []) (z := (0 : Int32)) (by decide +kernel) (by decide) (by decide) 16 (hb hby d1003) rfl (by decide) (by decide) ?_
      intro b6 t6 k6 vm6 h6 E6 C6 Q6a Q6b Q6c Q6d Q6e
      have z6 := C6.2.1
      have S6 : Str Z h6 b6 t6 ([] : List Int32) := Str.lit Q6a Q6b Q6c Q6d (by decide) rfl rfl (by decide)
      have lt_b6 : h6.size > b6 := S6.1.lt
      have lt_t6 : h6.size > t6 := S6.tlt
      have f7 := (C6.sf (C3.sf L2))
      have ne6_b2 := Q6e b2 f7
      have f8 := (C6.sf q3_3)
      have ne6_v3 := Q6e v3 f8
      refine vG 41 d1004 ?_
      exact gmono (by decide) (by decide) (J4 _ _ _ ⟨b6, t6, ([] : List Int32), rfl, ((Keep.refl h3 []).ext E6), C6, S6, (by rw [own_u, if_pos e5]), ne6_v3.2⟩)
    · have lt_ui : h0.size > ui := Su.1.lt
      have lt_tu : h0.size > tu := Su.tlt
      have f9 := ((P3.ext E2).keep K3 nL)
      refine gF (oz hw 103) f9 11 d1001 ?_
      refine vY1 19 d1002 ?_
      refine gnewO hx (oz hw 142) (oz hw 143) (oz hw 144) 22 (hb hby d1005) rfl (by decide) (by decide) ?_
      intro b10 h10 g10 E10 C10 A10 D10 n10 L10
      have z10 := C10.2.1
      have lt_b10 : h10.size > b10 := A10.lt
      have F10_value : Fld Z h10 b10 c10_ "value" "[B" .null := D10 (Or.inl (oz hw 157)) (ty := (.array .byte)) (by decide)
      have F10_coder : Fld Z h10 b10 c10_ "coder" "B" (.int (0 : Int32)) := D10 (Or.inl (oz hw 159)) (ty := .byte) (by decide)
      have F10_count : Fld Z h10 b10 c10_ "count" "I" (.int (0 : Int32)) := D10 (Or.inl (oz hw 184)) (ty := .int) (by decide)
      refine vD 23 d1006 ?_
      refine gmI (y := mn595) rfl (oz hw 145) (oz hw 146) (oz hw 147) (oz hw 144) (fun O => own_sbinit cx b10 (.null) ((.int (0 : Int32))) vm3 h10 O A10 F10_value F10_coder F10_count n10) 26 (argsL := []) (rest := [(.ref b10), (.ref b2)]) (a := b10) own_pd153 d1007 ?_
      rintro _ vm11 h11 C11 z11 ⟨v11, rfl, K11, q11_0, q11_1, q11_2, q11_3, q11_4⟩
      have lt_v11 : h11.size > v11 := q11_0.vlt
      refine gat0 ?_
      refine vAN 27 d1008 ?_
      have f12 := ((f9.ext E10).keep K11 nL)
      refine gF (oz hw 103) f12 30 d1009 ?_
      have f14 := ((((Su.ext E2).keep K3 nL nL).ext E10).keep K11 nL nL)
      have f15 := (A10.keep K11)
      refine gmV (y := mn684) (z := mn684) (oz hw 163) (oz hw 164) (nfSel (oz hw 166)) (oz hw 166) (oz hw 165) (oz hw 167) (oz hw 144) (fun O => own_sbappend cx b10 ui v11 16 (([] : List Int32)) tu du vm11 h11 O q11_0 f14 n10 q11_2 q11_3 (by simp only [lA, lN, lC]; omega) (Nat.ne_of_gt (by omega))) 33 (argsL := [(.ref ui)]) (rest := [(.ref b2)]) f15 own_pd894 d1010 ?_
      rintro _ vm13 h13 C13 z13 ⟨rfl, K13, q13_0, q13_1⟩
      refine gat1 ?_
      refine gldcRq hx (oz hw 365) hSA (by decide) (n := 4) (by decide) (by decide) (vs := [Value.int (32 : Int32)]) (z := (1 : Int32)) (by decide +kernel) (by decide) (by decide) 35 (hb hby d1011) rfl (by decide) (by decide) ?_
      intro b16 t16 k16 vm16 h16 E16 C16 Q16a Q16b Q16c Q16d Q16e
      have z16 := C16.2.1
      have S16 : Str Z h16 b16 t16 [(32 : Int32)] := Str.lit Q16a Q16b Q16c Q16d (by decide) rfl rfl (by decide)
      have lt_b16 : h16.size > b16 := S16.1.lt
      have lt_t16 : h16.size > t16 := S16.tlt
      have f17 := (C16.sf (C13.sf (C11.sf (C10.sf (C3.sf L2)))))
      have ne16_b2 := Q16e b2 f17
      have f18 := (C16.sf (C13.sf (C11.sf (C10.sf q3_3))))
      have ne16_v3 := Q16e v3 f18
      have f19 := (C16.sf (C13.sf (C11.sf L10)))
      have ne16_b10 := Q16e b10 f19
      have f20 := (C16.sf q13_1)
      have ne16_v11 := Q16e v11 f20
      have f22 := (q13_0.ext E16)
      have f23 := ((f15.keep K13).ext E16)
      refine gmV (y := mn684) (z := mn684) (oz hw 163) (oz hw 164) (nfSel (oz hw 166)) (oz hw 166) (oz hw 165) (oz hw 167) (oz hw 144) (fun O => own_sbappend cx b10 b16 v11 16 ((([] : List Int32) ++ du)) t16 ([(32 : Int32)]) vm16 h16 O f22 S16 n10 q11_2 f20 (by simp only [lA, lN, lC]; omega) ne16_v11.2) 38 (argsL := [(.ref b16)]) (rest := [(.ref b2)]) f23 own_pd894 d1012 ?_
      rintro _ vm21 h21 C21 z21 ⟨rfl, K21, q21_0, q21_1⟩
      refine gat1 ?_
      have f25 := (f23.keep K21)
      refine gmV (y := mn785) (z := mn785) (oz hw 264) (oz hw 265) (nfSel (oz hw 267)) (oz hw 267) (oz hw 266) (oz hw 268) (oz hw 144) (fun O => own_sbtostring cx b10 v11 16 (((([] : List Int32) ++ du) ++ [(32 : Int32)])) vm21 h21 O q21_0 (by simp only [lA, lN, lC]; omega) (by simp only [lA, lN, lC]; omega)) 41 (argsL := []) (rest := [(.ref b2)]) f25 own_pd884 d1013 ?_
      rintro _ vm24 h24 C24 z24 ⟨r24, t24, rfl, K24, q24_0, q24_1, q24_2⟩
      have lt_r24 : h24.size > r24 := q24_2.1.lt
      have lt_t24 : h24.size > t24 := q24_2.tlt
      refine gat1 ?_
      exact gmono (by decide) (by decide) (J4 _ _ _ ⟨r24, t24, ((([] : List Int32) ++ du) ++ [(32 : Int32)]), rfl, (((((((Keep.refl h3 []).ext E10).trans K11 (allS (Or.inr (by omega)) all0)).trans K13 (allS (Or.inr (by omega)) (allS (Or.inr (by omega)) all0))).ext E16).trans K21 (allS (Or.inr (by omega)) (allS (Or.inr (by omega)) all0))).trans K24 all0), (((((C10.trans C11).trans C13).trans C16).trans C21).trans C24), q24_2, (by rw [own_u, if_neg e5, List.nil_append]), (Nat.ne_of_lt (by omega))⟩)
theorem own_ct1 {l : Launch} {Z : State} {a0 : Array Value} (cx : Ctx Z a0) (y : Addr) (uv : Value) (fg : Int32) (du : List Int32) (r0 s0_ t0_ : Addr) (d0_ : List Int32) {dz el ee em mr : Addr} {kd ke : ClassId} (vm0 : Vm) (h0 : Heap) (X00 : Ext Z.heap h0) (P0 : own_U Z h0 uv du fg) (hdu : (du.length ≤ 2)) (P2 : Exa Z h0 y c6_) (P3 : Fld Z h0 y c6_ "ui" c1_ uv) (isRef_uv : (uv.isRef = true)) (P5 : Fld Z h0 y c6_ "terms" c3_ (.ref r0)) (P6 : Exa Z h0 r0 c20_) (P7 : Fld Z h0 r0 c20_ "e0" c0_ (.ref s0_)) (P8 : Fld Z h0 r0 c20_ "e1" c0_ (.ref em)) (P9 : Str Z h0 s0_ t0_ d0_) (P10 : (d0_.length ≤ 2)) (hL : (OwnL Z dz el ee em mr kd ke)) :
    Met l mn1020 y77_ 1 (some (.object c13_)) [] (Rm 9 15 180 132) Z consts_1 vm0 h0 #[(.ref y)] (fun rv vm h => ∃ (r : Addr), ∃ (t : Addr), rv = some (.ref r) ∧ Keep h0 h [] ∧ h0.size ≤ r ∧ Str Z h r t ((([] : List Int32) ++ (own_u fg du)) ++ (((([] : List Int32) ++ [(91 : Int32)]) ++ d0_) ++ [(93 : Int32)]))) := by
  have hw := cx.1
  have hSA := own_SA hw
  refine Met.of_walk (a0 := a0) #[vr y] (plainFor_of_name own_pn564) X00 cx.2.1 (fun _ => rfl) ?_
  intro p e s m below meth c vm hx hby hml hret hnm hC0 hW0
  have lt_y : h0.size > y := P2.lt
  have lt_r0 : h0.size > r0 := P6.lt
  have lt_s0_ : h0.size > s0_ := P9.1.lt
  have lt_t0_ : h0.size > t0_ := P9.tlt
  refine gnewO hx (oz hw 142) (oz hw 143) (oz hw 144) 3 (hb hby d997) rfl (by decide) (by decide) ?_
  intro b1 h1 g1 E1 C1 A1 D1 n1 L1
  have z1 := C1.2.1
  have lt_b1 : h1.size > b1 := A1.lt
  have F1_value : Fld Z h1 b1 c10_ "value" "[B" .null := D1 (Or.inl (oz hw 157)) (ty := (.array .byte)) (by decide)
  have F1_coder : Fld Z h1 b1 c10_ "coder" "B" (.int (0 : Int32)) := D1 (Or.inl (oz hw 159)) (ty := .byte) (by decide)
  have F1_count : Fld Z h1 b1 c10_ "count" "I" (.int (0 : Int32)) := D1 (Or.inl (oz hw 184)) (ty := .int) (by decide)
  refine vD 4 d998 ?_
  refine gmI (y := mn595) rfl (oz hw 145) (oz hw 146) (oz hw 147) (oz hw 144) (fun O => own_sbinit cx b1 (.null) ((.int (0 : Int32))) vm h1 O A1 F1_value F1_coder F1_count n1) 7 (argsL := []) (rest := [(.ref b1)]) (a := b1) own_pd153 d999 ?_
  rintro _ vm2 h2 C2 z2 ⟨v2, rfl, K2, q2_0, q2_1, q2_2, q2_3, q2_4⟩
  have lt_v2 : h2.size > v2 := q2_0.vlt
  refine gat0 ?_
  refine gjoin (fun vmJ hJ gJ => ∃ (sx3 : Addr), ∃ (tx3 : Addr), ∃ (ds3 : List Int32), gJ = (mkF m 41 #[vr y] [(.ref sx3), (.ref b1)]) ∧ Keep h2 hJ [] ∧ CHq Z consts_1 vm2 h2 vmJ hJ ∧ Str Z hJ sx3 tx3 ds3 ∧ (ds3 = own_u fg du) ∧ (v2 ≠ tx3)) 8 84 ?_ ?_
  · rintro vm3 h3 _ ⟨sx3, tx3, ds3, rfl, K3, C3, q3_0, q3_1, q3_2⟩
    have z3 := C3.2.1
    have lt_sx3 : h3.size > sx3 := q3_0.1.lt
    have lt_tx3 : h3.size > tx3 := q3_0.tlt
    subst q3_1
    have hul := own_ul (f := fg) hdu
    have f26 := (q2_0.keep K3 nin0 nin0)
    have f27 := (C3.sf q2_3)
    have f28 := ((A1.keep K2).keep K3)
    refine gmV (y := mn684) (z := mn684) (oz hw 163) (oz hw 164) (nfSel (oz hw 166)) (oz hw 166) (oz hw 165) (oz hw 167) (oz hw 144) (fun O => own_sbappend cx b1 sx3 v2 16 (([] : List Int32)) tx3 ((own_u fg du)) vm3 h3 O f26 q3_0 n1 q2_2 f27 (by simp only [lA, lN, lC]; omega) q3_2) 44 (argsL := [(.ref sx3)]) (rest := []) f28 own_pd894 d1014 ?_
    rintro _ vm25 h25 C25 z25 ⟨rfl, K25, q25_0, q25_1⟩
    refine gat1 ?_
    refine vAN 45 d1015 ?_
    have f29 := ((((P5.ext E1).keep K2 nL).keep K3 nin0).keep K25 nLL)
    refine gF (oz hw 135) f29 48 d1016 ?_
    have f31 := ((((P6.ext E1).keep K2).keep K3).keep K25)
    have f32 := ((((P7.ext E1).keep K2 nL).keep K3 nin0).keep K25 nLL)
    have f33 := ((((P8.ext E1).keep K2 nL).keep K3 nin0).keep K25 nLL)
    have f34 := ((((P9.ext E1).keep K2 nL nL).keep K3 nin0 nin0).keep K25 nLL nLL)
    have f35 := (f28.keep K25)
    refine gmV (y := mn896) (z := mn896) (oz hw 210) (oz hw 211) (nfSel (oz hw 213)) (oz hw 213) (oz hw 212) (oz hw 214) (oz hw 144) (fun O => own_apl1 cx b1 v2 16 ((([] : List Int32) ++ (own_u fg du))) r0 s0_ t0_ d0_ vm25 h25 O q25_0 n1 q2_2 q25_1 (by simp only [lA, lN, lC]; omega) (by decide) f31 f32 f33 f34 (by first | assumption | decide | omega) (by first | assumption | decide | omega)) 51 (argsL := [(.ref r0)]) (rest := []) f35 own_pd980 d1017 ?_
    rintro _ vm30 h30 C30 z30 ⟨rfl, K30, q30_0, q30_1⟩
    refine gat1 ?_
    have f37 := (f35.keep K30)
    refine gmV (y := mn785) (z := mn785) (oz hw 264) (oz hw 265) (nfSel (oz hw 267)) (oz hw 267) (oz hw 266) (oz hw 268) (oz hw 144) (fun O => own_sbtostring cx b1 v2 16 (((([] : List Int32) ++ (own_u fg du)) ++ (((([] : List Int32) ++ [(91 : Int32)]) ++ d0_) ++ [(93 : Int32)]))) vm30 h30 O q30_0 (by simp only [lA, lN, lC]; omega) (by simp only [lA, lN, lC]; omega)) 54 (argsL := []) (rest := []) f37 own_pd884 d1018 ?_
    rintro _ vm36 h36 C36 z36 ⟨r36, t36, rfl, K36, q36_0, q36_1, q36_2⟩
    have lt_r36 : h36.size > r36 := q36_2.1.lt
    have lt_t36 : h36.size > t36 := q36_2.tlt
    refine gat1 ?_
    exact gretA hx hret rfl rfl (hb hby d1019) (by decide) (by decide) (fun vq Cq => ⟨r36, t36, rfl, (((((((Keep.refl h0 []).ext E1).trans K2 (allS (Or.inr (by omega)) all0)).trans K3 all0).trans K25 (allS (Or.inr (by omega)) (allS (Or.inr (by omega)) all0))).trans K30 (allS (Or.inr (by omega)) (allS (Or.inr (by omega)) all0))).trans K36 all0), (by omega), q36_2⟩)
  · intro J3
    refine vAN 8 d1000 ?_
    rcases P0 with ⟨e5, rfl⟩ | ⟨e5, ui, tu, rfl, Su⟩
    · have f4 := ((P3.ext E1).keep K2 nL)
      refine gF (oz hw 103) f4 11 d1001 ?_
      refine vN1 14 d1002 ?_
      refine gldcRq hx (oz hw 160) hSA (by decide) (n := 0) (by decide) (by decide) (vs := []) (z := (0 : Int32)) (by decide +kernel) (by decide) (by decide) 16 (hb hby d1003) rfl (by decide) (by decide) ?_
      intro b5 t5 k5 vm5 h5 E5 C5 Q5a Q5b Q5c Q5d Q5e
      have z5 := C5.2.1
      have S5 : Str Z h5 b5 t5 ([] : List Int32) := Str.lit Q5a Q5b Q5c Q5d (by decide) rfl rfl (by decide)
      have lt_b5 : h5.size > b5 := S5.1.lt
      have lt_t5 : h5.size > t5 := S5.tlt
      have f6 := (C5.sf (C2.sf L1))
      have ne5_b1 := Q5e b1 f6
      have f7 := (C5.sf q2_3)
      have ne5_v2 := Q5e v2 f7
      refine vG 41 d1004 ?_
      exact gmono (by decide) (by decide) (J3 _ _ _ ⟨b5, t5, ([] : List Int32), rfl, ((Keep.refl h2 []).ext E5), C5, S5, (by rw [own_u, if_pos e5]), ne5_v2.2⟩)
    · have lt_ui : h0.size > ui := Su.1.lt
      have lt_tu : h0.size > tu := Su.tlt
      have f8 := ((P3.ext E1).keep K2 nL)
      refine gF (oz hw 103) f8 11 d1001 ?_
      refine vY1 19 d1002 ?_
      refine gnewO hx (oz hw 142) (oz hw 143) (oz hw 144) 22 (hb hby d1005) rfl (by decide) (by decide) ?_
      intro b9 h9 g9 E9 C9 A9 D9 n9 L9
      have z9 := C9.2.1
      have lt_b9 : h9.size > b9 := A9.lt
      have F9_value : Fld Z h9 b9 c10_ "value" "[B" .null := D9 (Or.inl (oz hw 157)) (ty := (.array .byte)) (by decide)
      have F9_coder : Fld Z h9 b9 c10_ "coder" "B" (.int (0 : Int32)) := D9 (Or.inl (oz hw 159)) (ty := .byte) (by decide)
      have F9_count : Fld Z h9 b9 c10_ "count" "I" (.int (0 : Int32)) := D9 (Or.inl (oz hw 184)) (ty := .int) (by decide)
      refine vD 23 d1006 ?_
      refine gmI (y := mn595) rfl (oz hw 145) (oz hw 146) (oz hw 147) (oz hw 144) (fun O => own_sbinit cx b9 (.null) ((.int (0 : Int32))) vm2 h9 O A9 F9_value F9_coder F9_count n9) 26 (argsL := []) (rest := [(.ref b9), (.ref b1)]) (a := b9) own_pd153 d1007 ?_
      rintro _ vm10 h10 C10 z10 ⟨v10, rfl, K10, q10_0, q10_1, q10_2, q10_3, q10_4⟩
      have lt_v10 : h10.size > v10 := q10_0.vlt
      refine gat0 ?_
      refine vAN 27 d1008 ?_
      have f11 := ((f8.ext E9).keep K10 nL)
      refine gF (oz hw 103) f11 30 d1009 ?_
      have f13 := ((((Su.ext E1).keep K2 nL nL).ext E9).keep K10 nL nL)
      have f14 := (A9.keep K10)
      refine gmV (y := mn684) (z := mn684) (oz hw 163) (oz hw 164) (nfSel (oz hw 166)) (oz hw 166) (oz hw 165) (oz hw 167) (oz hw 144) (fun O => own_sbappend cx b9 ui v10 16 (([] : List Int32)) tu du vm10 h10 O q10_0 f13 n9 q10_2 q10_3 (by simp only [lA, lN, lC]; omega) (Nat.ne_of_gt (by omega))) 33 (argsL := [(.ref ui)]) (rest := [(.ref b1)]) f14 own_pd894 d1010 ?_
      rintro _ vm12 h12 C12 z12 ⟨rfl, K12, q12_0, q12_1⟩
      refine gat1 ?_
      refine gldcRq hx (oz hw 365) hSA (by decide) (n := 4) (by decide) (by decide) (vs := [Value.int (32 : Int32)]) (z := (1 : Int32)) (by decide +kernel) (by decide) (by decide) 35 (hb hby d1011) rfl (by decide) (by decide) ?_
      intro b15 t15 k15 vm15 h15 E15 C15 Q15a Q15b Q15c Q15d Q15e
      have z15 := C15.2.1
      have S15 : Str Z h15 b15 t15 [(32 : Int32)] := Str.lit Q15a Q15b Q15c Q15d (by decide) rfl rfl (by decide)
      have lt_b15 : h15.size > b15 := S15.1.lt
      have lt_t15 : h15.size > t15 := S15.tlt
      have f16 := (C15.sf (C12.sf (C10.sf (C9.sf (C2.sf L1)))))
      have ne15_b1 := Q15e b1 f16
      have f17 := (C15.sf (C12.sf (C10.sf (C9.sf q2_3))))
      have ne15_v2 := Q15e v2 f17
      have f18 := (C15.sf (C12.sf (C10.sf L9)))
      have ne15_b9 := Q15e b9 f18
      have f19 := (C15.sf q12_1)
      have ne15_v10 := Q15e v10 f19
      have f21 := (q12_0.ext E15)
      have f22 := ((f14.keep K12).ext E15)
      refine gmV (y := mn684) (z := mn684) (oz hw 163) (oz hw 164) (nfSel (oz hw 166)) (oz hw 166) (oz hw 165) (oz hw 167) (oz hw 144) (fun O => own_sbappend cx b9 b15 v10 16 ((([] : List Int32) ++ du)) t15 ([(32 : Int32)]) vm15 h15 O f21 S15 n9 q10_2 f19 (by simp only [lA, lN, lC]; omega) ne15_v10.2) 38 (argsL := [(.ref b15)]) (rest := [(.ref b1)]) f22 own_pd894 d1012 ?_
      rintro _ vm20 h20 C20 z20 ⟨rfl, K20, q20_0, q20_1⟩
      refine gat1 ?_
      have f24 := (f22.keep K20)
      refine gmV (y := mn785) (z := mn785) (oz hw 264) (oz hw 265) (nfSel (oz hw 267)) (oz hw 267) (oz hw 266) (oz hw 268) (oz hw 144) (fun O => own_sbtostring cx b9 v10 16 (((([] : List Int32) ++ du) ++ [(32 : Int32)])) vm20 h20 O q20_0 (by simp only [lA, lN, lC]; omega) (by simp only [lA, lN, lC]; omega)) 41 (argsL := []) (rest := [(.ref b1)]) f24 own_pd884 d1013 ?_
      rintro _ vm23 h23 C23 z23 ⟨r23, t23, rfl, K23, q23_0, q23_1, q23_2⟩
      have lt_r23 : h23.size > r23 := q23_2.1.lt
      have lt_t23 : h23.size > t23 := q23_2.tlt
      refine gat1 ?_
      exact gmono (by decide) (by decide) (J3 _ _ _ ⟨r23, t23, ((([] : List Int32) ++ du) ++ [(32 : Int32)]), rfl, (((((((Keep.refl h2 []).ext E9).trans K10 (allS (Or.inr (by omega)) all0)).trans K12 (allS (Or.inr (by omega)) (allS (Or.inr (by omega)) all0))).ext E15).trans K20 (allS (Or.inr (by omega)) (allS (Or.inr (by omega)) all0))).trans K23 all0), (((((C9.trans C10).trans C12).trans C15).trans C20).trans C23), q23_2, (by rw [own_u, if_neg e5, List.nil_append]), (Nat.ne_of_lt (by omega))⟩)
theorem own_ct2 {l : Launch} {Z : State} {a0 : Array Value} (cx : Ctx Z a0) (y : Addr) (uv : Value) (fg : Int32) (du : List Int32) (r0 s0_ t0_ : Addr) (d0_ : List Int32) (s1_ t1_ : Addr) (d1_ : List Int32) {dz el ee em mr : Addr} {kd ke : ClassId} (vm0 : Vm) (h0 : Heap) (X00 : Ext Z.heap h0) (P0 : own_U Z h0 uv du fg) (hdu : (du.length ≤ 2)) (P2 : Exa Z h0 y c6_) (P3 : Fld Z h0 y c6_ "ui" c1_ uv) (isRef_uv : (uv.isRef = true)) (P5 : Fld Z h0 y c6_ "terms" c3_ (.ref r0)) (P6 : Exa Z h0 r0 c20_) (P7 : Fld Z h0 r0 c20_ "e0" c0_ (.ref s0_)) (P8 : Fld Z h0 r0 c20_ "e1" c0_ (.ref s1_)) (P9 : Str Z h0 s0_ t0_ d0_) (P10 : (d0_.length ≤ 2)) (P11 : Str Z h0 s1_ t1_ d1_) (P12 : (d1_.length ≤ 2)) (hL : (OwnL Z dz el ee em mr kd ke)) :
    Met l mn1020 y77_ 1 (some (.object c13_)) [] (Rm 9 15 180 132) Z consts_1 vm0 h0 #[(.ref y)] (fun rv vm h => ∃ (r : Addr), ∃ (t : Addr), rv = some (.ref r) ∧ Keep h0 h [] ∧ h0.size ≤ r ∧ Str Z h r t ((([] : List Int32) ++ (own_u fg du)) ++ ((((((([] : List Int32) ++ [(91 : Int32)]) ++ d0_) ++ [(44 : Int32)]) ++ [(32 : Int32)]) ++ d1_) ++ [(93 : Int32)]))) := by
  have hw := cx.1
  have hSA := own_SA hw
  refine Met.of_walk (a0 := a0) #[vr y] (plainFor_of_name own_pn564) X00 cx.2.1 (fun _ => rfl) ?_
  intro p e s m below meth c vm hx hby hml hret hnm hC0 hW0
  have lt_y : h0.size > y := P2.lt
  have lt_r0 : h0.size > r0 := P6.lt
  have lt_s0_ : h0.size > s0_ := P9.1.lt
  have lt_t0_ : h0.size > t0_ := P9.tlt
  have lt_s1_ : h0.size > s1_ := P11.1.lt
  have lt_t1_ : h0.size > t1_ := P11.tlt
  refine gnewO hx (oz hw 142) (oz hw 143) (oz hw 144) 3 (hb hby d997) rfl (by decide) (by decide) ?_
  intro b1 h1 g1 E1 C1 A1 D1 n1 L1
  have z1 := C1.2.1
  have lt_b1 : h1.size > b1 := A1.lt
  have F1_value : Fld Z h1 b1 c10_ "value" "[B" .null := D1 (Or.inl (oz hw 157)) (ty := (.array .byte)) (by decide)
  have F1_coder : Fld Z h1 b1 c10_ "coder" "B" (.int (0 : Int32)) := D1 (Or.inl (oz hw 159)) (ty := .byte) (by decide)
  have F1_count : Fld Z h1 b1 c10_ "count" "I" (.int (0 : Int32)) := D1 (Or.inl (oz hw 184)) (ty := .int) (by decide)
  refine vD 4 d998 ?_
  refine gmI (y := mn595) rfl (oz hw 145) (oz hw 146) (oz hw 147) (oz hw 144) (fun O => own_sbinit cx b1 (.null) ((.int (0 : Int32))) vm h1 O A1 F1_value F1_coder F1_count n1) 7 (argsL := []) (rest := [(.ref b1)]) (a := b1) own_pd153 d999 ?_
  rintro _ vm2 h2 C2 z2 ⟨v2, rfl, K2, q2_0, q2_1, q2_2, q2_3, q2_4⟩
  have lt_v2 : h2.size > v2 := q2_0.vlt
  refine gat0 ?_
  refine gjoin (fun vmJ hJ gJ => ∃ (sx3 : Addr), ∃ (tx3 : Addr), ∃ (ds3 : List Int32), gJ = (mkF m 41 #[vr y] [(.ref sx3), (.ref b1)]) ∧ Keep h2 hJ [] ∧ CHq Z consts_1 vm2 h2 vmJ hJ ∧ Str Z hJ sx3 tx3 ds3 ∧ (ds3 = own_u fg du) ∧ (v2 ≠ tx3)) 8 84 ?_ ?_
  · rintro vm3 h3 _ ⟨sx3, tx3, ds3, rfl, K3, C3, q3_0, q3_1, q3_2⟩
    have z3 := C3.2.1
    have lt_sx3 : h3.size > sx3 := q3_0.1.lt
    have lt_tx3 : h3.size > tx3 := q3_0.tlt
    subst q3_1
    have hul := own_ul (f := fg) hdu
    have f26 := (q2_0.keep K3 nin0 nin0)
    have f27 := (C3.sf q2_3)
    have f28 := ((A1.keep K2).keep K3)
    refine gmV (y := mn684) (z := mn684) (oz hw 163) (oz hw 164) (nfSel (oz hw 166)) (oz hw 166) (oz hw 165) (oz hw 167) (oz hw 144) (fun O => own_sbappend cx b1 sx3 v2 16 (([] : List Int32)) tx3 ((own_u fg du)) vm3 h3 O f26 q3_0 n1 q2_2 f27 (by simp only [lA, lN, lC]; omega) q3_2) 44 (argsL := [(.ref sx3)]) (rest := []) f28 own_pd894 d1014 ?_
    rintro _ vm25 h25 C25 z25 ⟨rfl, K25, q25_0, q25_1⟩
    refine gat1 ?_
    refine vAN 45 d1015 ?_
    have f29 := ((((P5.ext E1).keep K2 nL).keep K3 nin0).keep K25 nLL)
    refine gF (oz hw 135) f29 48 d1016 ?_
    have f31 := ((((P6.ext E1).keep K2).keep K3).keep K25)
    have f32 := ((((P7.ext E1).keep K2 nL).keep K3 nin0).keep K25 nLL)
    have f33 := ((((P8.ext E1).keep K2 nL).keep K3 nin0).keep K25 nLL)
    have f34 := ((((P9.ext E1).keep K2 nL nL).keep K3 nin0 nin0).keep K25 nLL nLL)
    have f35 := ((((P11.ext E1).keep K2 nL nL).keep K3 nin0 nin0).keep K25 nLL nLL)
    have f36 := (f28.keep K25)
    refine gmV (y := mn896) (z := mn896) (oz hw 210) (oz hw 211) (nfSel (oz hw 213)) (oz hw 213) (oz hw 212) (oz hw 214) (oz hw 144) (fun O => own_apl2 cx b1 v2 16 ((([] : List Int32) ++ (own_u fg du))) r0 s0_ t0_ d0_ s1_ t1_ d1_ vm25 h25 O q25_0 n1 q2_2 q25_1 (by simp only [lA, lN, lC]; omega) (by decide) f31 f32 f33 f34 (by first | assumption | decide | omega) f35 (by first | assumption | decide | omega) (by first | assumption | decide | omega)) 51 (argsL := [(.ref r0)]) (rest := []) f36 own_pd980 d1017 ?_
    rintro _ vm30 h30 C30 z30 ⟨rfl, K30, q30_0, q30_1⟩
    refine gat1 ?_
    have f38 := (f36.keep K30)
    refine gmV (y := mn785) (z := mn785) (oz hw 264) (oz hw 265) (nfSel (oz hw 267)) (oz hw 267) (oz hw 266) (oz hw 268) (oz hw 144) (fun O => own_sbtostring cx b1 v2 16 (((([] : List Int32) ++ (own_u fg du)) ++ ((((((([] : List Int32) ++ [(91 : Int32)]) ++ d0_) ++ [(44 : Int32)]) ++ [(32 : Int32)]) ++ d1_) ++ [(93 : Int32)]))) vm30 h30 O q30_0 (by simp only [lA, lN, lC]; omega) (by simp only [lA, lN, lC]; omega)) 54 (argsL := []) (rest := []) f38 own_pd884 d1018 ?_
    rintro _ vm37 h37 C37 z37 ⟨r37, t37, rfl, K37, q37_0, q37_1, q37_2⟩
    have lt_r37 : h37.size > r37 := q37_2.1.lt
    have lt_t37 : h37.size > t37 := q37_2.tlt
    refine gat1 ?_
    exact gretA hx hret rfl rfl (hb hby d1019) (by decide) (by decide) (fun vq Cq => ⟨r37, t37, rfl, (((((((Keep.refl h0 []).ext E1).trans K2 (allS (Or.inr (by omega)) all0)).trans K3 all0).trans K25 (allS (Or.inr (by omega)) (allS (Or.inr (by omega)) all0))).trans K30 (allS (Or.inr (by omega)) (allS (Or.inr (by omega)) all0))).trans K37 all0), (by omega), q37_2⟩)
  · intro J3
    refine vAN 8 d1000 ?_
    rcases P0 with ⟨e5, rfl⟩ | ⟨e5, ui, tu, rfl, Su⟩
    · have f4 := ((P3.ext E1).keep K2 nL)
      refine gF (oz hw 103) f4 11 d1001 ?_
      refine vN1 14 d1002 ?_
      refine gldcRq hx (oz hw 160) hSA (by decide) (n := 0) (by decide) (by decide) (vs := []) (z := (0 : Int32)) (by decide +kernel) (by decide) (by decide) 16 (hb hby d1003) rfl (by decide) (by decide) ?_
      intro b5 t5 k5 vm5 h5 E5 C5 Q5a Q5b Q5c Q5d Q5e
      have z5 := C5.2.1
      have S5 : Str Z h5 b5 t5 ([] : List Int32) := Str.lit Q5a Q5b Q5c Q5d (by decide) rfl rfl (by decide)
      have lt_b5 : h5.size > b5 := S5.1.lt
      have lt_t5 : h5.size > t5 := S5.tlt
      have f6 := (C5.sf (C2.sf L1))
      have ne5_b1 := Q5e b1 f6
      have f7 := (C5.sf q2_3)
      have ne5_v2 := Q5e v2 f7
      refine vG 41 d1004 ?_
      exact gmono (by decide) (by decide) (J3 _ _ _ ⟨b5, t5, ([] : List Int32), rfl, ((Keep.refl h2 []).ext E5), C5, S5, (by rw [own_u, if_pos e5]), ne5_v2.2⟩)
    · have lt_ui : h0.size > ui := Su.1.lt
      have lt_tu : h0.size > tu := Su.tlt
      have f8 := ((P3.ext E1).keep K2 nL)
      refine gF (oz hw 103) f8 11 d1001 ?_
      refine vY1 19 d1002 ?_
      refine gnewO hx (oz hw 142) (oz hw 143) (oz hw 144) 22 (hb hby d1005) rfl (by decide) (by decide) ?_
      intro b9 h9 g9 E9 C9 A9 D9 n9 L9
      have z9 := C9.2.1
      have lt_b9 : h9.size > b9 := A9.lt
      have F9_value : Fld Z h9 b9 c10_ "value" "[B" .null := D9 (Or.inl (oz hw 157)) (ty := (.array .byte)) (by decide)
      have F9_coder : Fld Z h9 b9 c10_ "coder" "B" (.int (0 : Int32)) := D9 (Or.inl (oz hw 159)) (ty := .byte) (by decide)
      have F9_count : Fld Z h9 b9 c10_ "count" "I" (.int (0 : Int32)) := D9 (Or.inl (oz hw 184)) (ty := .int) (by decide)
      refine vD 23 d1006 ?_
      refine gmI (y := mn595) rfl (oz hw 145) (oz hw 146) (oz hw 147) (oz hw 144) (fun O => own_sbinit cx b9 (.null) ((.int (0 : Int32))) vm2 h9 O A9 F9_value F9_coder F9_count n9) 26 (argsL := []) (rest := [(.ref b9), (.ref b1)]) (a := b9) own_pd153 d1007 ?_
      rintro _ vm10 h10 C10 z10 ⟨v10, rfl, K10, q10_0, q10_1, q10_2, q10_3, q10_4⟩
      have lt_v10 : h10.size > v10 := q10_0.vlt
      refine gat0 ?_
      refine vAN 27 d1008 ?_
      have f11 := ((f8.ext E9).keep K10 nL)
      refine gF (oz hw 103) f11 30 d1009 ?_
      have f13 := ((((Su.ext E1).keep K2 nL nL).ext E9).keep K10 nL nL)
      have f14 := (A9.keep K10)
      refine gmV (y := mn684) (z := mn684) (oz hw 163) (oz hw 164) (nfSel (oz hw 166)) (oz hw 166) (oz hw 165) (oz hw 167) (oz hw 144) (fun O => own_sbappend cx b9 ui v10 16 (([] : List Int32)) tu du vm10 h10 O q10_0 f13 n9 q10_2 q10_3 (by simp only [lA, lN, lC]; omega) (Nat.ne_of_gt (by omega))) 33 (argsL := [(.ref ui)]) (rest := [(.ref b1)]) f14 own_pd894 d1010 ?_
      rintro _ vm12 h12 C12 z12 ⟨rfl, K12, q12_0, q12_1⟩
      refine gat1 ?_
      refine gldcRq hx (oz hw 365) hSA (by decide) (n := 4) (by decide) (by decide) (vs := [Value.int (32 : Int32)]) (z := (1 : Int32)) (by decide +kernel) (by decide) (by decide) 35 (hb hby d1011) rfl (by decide) (by decide) ?_
      intro b15 t15 k15 vm15 h15 E15 C15 Q15a Q15b Q15c Q15d Q15e
      have z15 := C15.2.1
      have S15 : Str Z h15 b15 t15 [(32 : Int32)] := Str.lit Q15a Q15b Q15c Q15d (by decide) rfl rfl (by decide)
      have lt_b15 : h15.size > b15 := S15.1.lt
      have lt_t15 : h15.size > t15 := S15.tlt
      have f16 := (C15.sf (C12.sf (C10.sf (C9.sf (C2.sf L1)))))
      have ne15_b1 := Q15e b1 f16
      have f17 := (C15.sf (C12.sf (C10.sf (C9.sf q2_3))))
      have ne15_v2 := Q15e v2 f17
      have f18 := (C15.sf (C12.sf (C10.sf L9)))
      have ne15_b9 := Q15e b9 f18
      have f19 := (C15.sf q12_1)
      have ne15_v10 := Q15e v10 f19
      have f21 := (q12_0.ext E15)
      have f22 := ((f14.keep K12).ext E15)
      refine gmV (y := mn684) (z := mn684) (oz hw 163) (oz hw 164) (nfSel (oz hw 166)) (oz hw 166) (oz hw 165) (oz hw 167) (oz hw 144) (fun O => own_sbappend cx b9 b15 v10 16 ((([] : List Int32) ++ du)) t15 ([(32 : Int32)]) vm15 h15 O f21 S15 n9 q10_2 f19 (by simp only [lA, lN, lC]; omega) ne15_v10.2) 38 (argsL := [(.ref b15)]) (rest := [(.ref b1)]) f22 own_pd894 d1012 ?_
      rintro _ vm20 h20 C20 z20 ⟨rfl, K20, q20_0, q20_1⟩
      refine gat1 ?_
      have f24 := (f22.keep K20)
      refine gmV (y := mn785) (z := mn785) (oz hw 264) (oz hw 265) (nfSel (oz hw 267)) (oz hw 267) (oz hw 266) (oz hw 268) (oz hw 144) (fun O => own_sbtostring cx b9 v10 16 (((([] : List Int32) ++ du) ++ [(32 : Int32)])) vm20 h20 O q20_0 (by simp only [lA, lN, lC]; omega) (by simp only [lA, lN, lC]; omega)) 41 (argsL := []) (rest := [(.ref b1)]) f24 own_pd884 d1013 ?_
      rintro _ vm23 h23 C23 z23 ⟨r23, t23, rfl, K23, q23_0, q23_1, q23_2⟩
      have lt_r23 : h23.size > r23 := q23_2.1.lt
      have lt_t23 : h23.size > t23 := q23_2.tlt
      refine gat1 ?_
      exact gmono (by decide) (by decide) (J3 _ _ _ ⟨r23, t23, ((([] : List Int32) ++ du) ++ [(32 : Int32)]), rfl, (((((((Keep.refl h2 []).ext E9).trans K10 (allS (Or.inr (by omega)) all0)).trans K12 (allS (Or.inr (by omega)) (allS (Or.inr (by omega)) all0))).ext E15).trans K20 (allS (Or.inr (by omega)) (allS (Or.inr (by omega)) all0))).trans K23 all0), (((((C9.trans C10).trans C12).trans C15).trans C20).trans C23), q23_2, (by rw [own_u, if_neg e5, List.nil_append]), (Nat.ne_of_lt (by omega))⟩)
theorem own_ct3 {l : Launch} {Z : State} {a0 : Array Value} (cx : Ctx Z a0) (y : Addr) (uv : Value) (fg : Int32) (du : List Int32) (r0 g : Addr) (kg : ClassId) (s0_ t0_ : Addr) (d0_ : List Int32) (s1_ t1_ : Addr) (d1_ : List Int32) (s2_ t2_ : Addr) (d2_ : List Int32) {dz el ee em mr : Addr} {kd ke : ClassId} (vm0 : Vm) (h0 : Heap) (X00 : Ext Z.heap h0) (P0 : own_U Z h0 uv du fg) (hdu : (du.length ≤ 2)) (P2 : Exa Z h0 y c6_) (P3 : Fld Z h0 y c6_ "ui" c1_ uv) (isRef_uv : (uv.isRef = true)) (P5 : Fld Z h0 y c6_ "terms" c3_ (.ref r0)) (P6 : Exa Z h0 r0 c22_) (P7 : Fld Z h0 r0 c22_ "elements" c4_ (.ref g)) (P8 : Arv Z h0 g kg (.object c12_) (3 : Int32) [(.ref s0_), (.ref s1_), (.ref s2_)] .null) (P9 : Str Z h0 s0_ t0_ d0_) (P10 : (d0_.length ≤ 2)) (P11 : Str Z h0 s1_ t1_ d1_) (P12 : (d1_.length ≤ 2)) (P13 : Str Z h0 s2_ t2_ d2_) (P14 : (d2_.length ≤ 2)) (hL : (OwnL Z dz el ee em mr kd ke)) :
    Met l mn1020 y77_ 1 (some (.object c13_)) [] (Rm 9 15 180 132) Z consts_1 vm0 h0 #[(.ref y)] (fun rv vm h => ∃ (r : Addr), ∃ (t : Addr), rv = some (.ref r) ∧ Keep h0 h [] ∧ h0.size ≤ r ∧ Str Z h r t ((([] : List Int32) ++ (own_u fg du)) ++ (((((((((([] : List Int32) ++ [(91 : Int32)]) ++ d0_) ++ [(44 : Int32)]) ++ [(32 : Int32)]) ++ d1_) ++ [(44 : Int32)]) ++ [(32 : Int32)]) ++ d2_) ++ [(93 : Int32)]))) := by
  have hw := cx.1
  have hSA := own_SA hw
  refine Met.of_walk (a0 := a0) #[vr y] (plainFor_of_name own_pn564) X00 cx.2.1 (fun _ => rfl) ?_
  intro p e s m below meth c vm hx hby hml hret hnm hC0 hW0
  have lt_y : h0.size > y := P2.lt
  have lt_r0 : h0.size > r0 := P6.lt
  have lt_g : h0.size > g := P8.lt
  have lt_s0_ : h0.size > s0_ := P9.1.lt
  have lt_t0_ : h0.size > t0_ := P9.tlt
  have lt_s1_ : h0.size > s1_ := P11.1.lt
  have lt_t1_ : h0.size > t1_ := P11.tlt
  have lt_s2_ : h0.size > s2_ := P13.1.lt
  have lt_t2_ : h0.size > t2_ := P13.tlt
  refine gnewO hx (oz hw 142) (oz hw 143) (oz hw 144) 3 (hb hby d997) rfl (by decide) (by decide) ?_
  intro b1 h1 g1 E1 C1 A1 D1 n1 L1
  have z1 := C1.2.1
  have lt_b1 : h1.size > b1 := A1.lt
  have F1_value : Fld Z h1 b1 c10_ "value" "[B" .null := D1 (Or.inl (oz hw 157)) (ty := (.array .byte)) (by decide)
  have F1_coder : Fld Z h1 b1 c10_ "coder" "B" (.int (0 : Int32)) := D1 (Or.inl (oz hw 159)) (ty := .byte) (by decide)
  have F1_count : Fld Z h1 b1 c10_ "count" "I" (.int (0 : Int32)) := D1 (Or.inl (oz hw 184)) (ty := .int) (by decide)
  refine vD 4 d998 ?_
  refine gmI (y := mn595) rfl (oz hw 145) (oz hw 146) (oz hw 147) (oz hw 144) (fun O => own_sbinit cx b1 (.null) ((.int (0 : Int32))) vm h1 O A1 F1_value F1_coder F1_count n1) 7 (argsL := []) (rest := [(.ref b1)]) (a := b1) own_pd153 d999 ?_
  rintro _ vm2 h2 C2 z2 ⟨v2, rfl, K2, q2_0, q2_1, q2_2, q2_3, q2_4⟩
  have lt_v2 : h2.size > v2 := q2_0.vlt
  refine gat0 ?_
  refine gjoin (fun vmJ hJ gJ => ∃ (sx3 : Addr), ∃ (tx3 : Addr), ∃ (ds3 : List Int32), gJ = (mkF m 41 #[vr y] [(.ref sx3), (.ref b1)]) ∧ Keep h2 hJ [] ∧ CHq Z consts_1 vm2 h2 vmJ hJ ∧ Str Z hJ sx3 tx3 ds3 ∧ (ds3 = own_u fg du) ∧ (v2 ≠ tx3)) 8 84 ?_ ?_
  · rintro vm3 h3 _ ⟨sx3, tx3, ds3, rfl, K3, C3, q3_0, q3_1, q3_2⟩
    have z3 := C3.2.1
    have lt_sx3 : h3.size > sx3 := q3_0.1.lt
    have lt_tx3 : h3.size > tx3 := q3_0.tlt
    subst q3_1
    have hul := own_ul (f := fg) hdu
    have f26 := (q2_0.keep K3 nin0 nin0)
    have f27 := (C3.sf q2_3)
    have f28 := ((A1.keep K2).keep K3)
    refine gmV (y := mn684) (z := mn684) (oz hw 163) (oz hw 164) (nfSel (oz hw 166)) (oz hw 166) (oz hw 165) (oz hw 167) (oz hw 144) (fun O => own_sbappend cx b1 sx3 v2 16 (([] : List Int32)) tx3 ((own_u fg du)) vm3 h3 O f26 q3_0 n1 q2_2 f27 (by simp only [lA, lN, lC]; omega) q3_2) 44 (argsL := [(.ref sx3)]) (rest := []) f28 own_pd894 d1014 ?_
    rintro _ vm25 h25 C25 z25 ⟨rfl, K25, q25_0, q25_1⟩
    refine gat1 ?_
    refine vAN 45 d1015 ?_
    have f29 := ((((P5.ext E1).keep K2 nL).keep K3 nin0).keep K25 nLL)
    refine gF (oz hw 135) f29 48 d1016 ?_
    have f31 := ((((P6.ext E1).keep K2).keep K3).keep K25)
    have f32 := ((((P7.ext E1).keep K2 nL).keep K3 nin0).keep K25 nLL)
    have f33 := ((((P8.ext E1).keep K2 nL).keep K3 nin0).keep K25 nLL)
    have f34 := ((((P9.ext E1).keep K2 nL nL).keep K3 nin0 nin0).keep K25 nLL nLL)
    have f35 := ((((P11.ext E1).keep K2 nL nL).keep K3 nin0 nin0).keep K25 nLL nLL)
    have f36 := ((((P13.ext E1).keep K2 nL nL).keep K3 nin0 nin0).keep K25 nLL nLL)
    have f37 := (f28.keep K25)
    refine gmV (y := mn896) (z := mn896) (oz hw 210) (oz hw 211) (nfSel (oz hw 213)) (oz hw 213) (oz hw 212) (oz hw 214) (oz hw 144) (fun O => own_apl3 cx b1 v2 16 ((([] : List Int32) ++ (own_u fg du))) r0 g kg s0_ t0_ d0_ s1_ t1_ d1_ s2_ t2_ d2_ vm25 h25 O q25_0 n1 q2_2 q25_1 (by simp only [lA, lN, lC]; omega) (by decide) f31 f32 f33 f34 (by first | assumption | decide | omega) f35 (by first | assumption | decide | omega) f36 (by first | assumption | decide | omega) (by first | assumption | decide | omega)) 51 (argsL := [(.ref r0)]) (rest := []) f37 own_pd980 d1017 ?_
    rintro _ vm30 h30 C30 z30 ⟨rfl, K30, q30_0, q30_1⟩
    refine gat1 ?_
    have f39 := (f37.keep K30)
    refine gmV (y := mn785) (z := mn785) (oz hw 264) (oz hw 265) (nfSel (oz hw 267)) (oz hw 267) (oz hw 266) (oz hw 268) (oz hw 144) (fun O => own_sbtostring cx b1 v2 16 (((([] : List Int32) ++ (own_u fg du)) ++ (((((((((([] : List Int32) ++ [(91 : Int32)]) ++ d0_) ++ [(44 : Int32)]) ++ [(32 : Int32)]) ++ d1_) ++ [(44 : Int32)]) ++ [(32 : Int32)]) ++ d2_) ++ [(93 : Int32)]))) vm30 h30 O q30_0 (by simp only [lA, lN, lC]; omega) (by simp only [lA, lN, lC]; omega)) 54 (argsL := []) (rest := []) f39 own_pd884 d1018 ?_
    rintro _ vm38 h38 C38 z38 ⟨r38, t38, rfl, K38, q38_0, q38_1, q38_2⟩
    have lt_r38 : h38.size > r38 := q38_2.1.lt
    have lt_t38 : h38.size > t38 := q38_2.tlt
    refine gat1 ?_
    exact gretA hx hret rfl rfl (hb hby d1019) (by decide) (by decide) (fun vq Cq => ⟨r38, t38, rfl, (((((((Keep.refl h0 []).ext E1).trans K2 (allS (Or.inr (by omega)) all0)).trans K3 all0).trans K25 (allS (Or.inr (by omega)) (allS (Or.inr (by omega)) all0))).trans K30 (allS (Or.inr (by omega)) (allS (Or.inr (by omega)) all0))).trans K38 all0), (by omega), q38_2⟩)
  · intro J3
    refine vAN 8 d1000 ?_
    rcases P0 with ⟨e5, rfl⟩ | ⟨e5, ui, tu, rfl, Su⟩
    · have f4 := ((P3.ext E1).keep K2 nL)
      refine gF (oz hw 103) f4 11 d1001 ?_
      refine vN1 14 d1002 ?_
      refine gldcRq hx (oz hw 160) hSA (by decide) (n := 0) (by decide) (by decide) (vs := []) (z := (0 : Int32)) (by decide +kernel) (by decide) (by decide) 16 (hb hby d1003) rfl (by decide) (by decide) ?_
      intro b5 t5 k5 vm5 h5 E5 C5 Q5a Q5b Q5c Q5d Q5e
      have z5 := C5.2.1
      have S5 : Str Z h5 b5 t5 ([] : List Int32) := Str.lit Q5a Q5b Q5c Q5d (by decide) rfl rfl (by decide)
      have lt_b5 : h5.size > b5 := S5.1.lt
      have lt_t5 : h5.size > t5 := S5.tlt
      have f6 := (C5.sf (C2.sf L1))
      have ne5_b1 := Q5e b1 f6
      have f7 := (C5.sf q2_3)
      have ne5_v2 := Q5e v2 f7
      refine vG 41 d1004 ?_
      exact gmono (by decide) (by decide) (J3 _ _ _ ⟨b5, t5, ([] : List Int32), rfl, ((Keep.refl h2 []).ext E5), C5, S5, (by rw [own_u, if_pos e5]), ne5_v2.2⟩)
    · have lt_ui : h0.size > ui := Su.1.lt
      have lt_tu : h0.size > tu := Su.tlt
      have f8 := ((P3.ext E1).keep K2 nL)
      refine gF (oz hw 103) f8 11 d1001 ?_
      refine vY1 19 d1002 ?_
      refine gnewO hx (oz hw 142) (oz hw 143) (oz hw 144) 22 (hb hby d1005) rfl (by decide) (by decide) ?_
      intro b9 h9 g9 E9 C9 A9 D9 n9 L9
      have z9 := C9.2.1
      have lt_b9 : h9.size > b9 := A9.lt
      have F9_value : Fld Z h9 b9 c10_ "value" "[B" .null := D9 (Or.inl (oz hw 157)) (ty := (.array .byte)) (by decide)
      have F9_coder : Fld Z h9 b9 c10_ "coder" "B" (.int (0 : Int32)) := D9 (Or.inl (oz hw 159)) (ty := .byte) (by decide)
      have F9_count : Fld Z h9 b9 c10_ "count" "I" (.int (0 : Int32)) := D9 (Or.inl (oz hw 184)) (ty := .int) (by decide)
      refine vD 23 d1006 ?_
      refine gmI (y := mn595) rfl (oz hw 145) (oz hw 146) (oz hw 147) (oz hw 144) (fun O => own_sbinit cx b9 (.null) ((.int (0 : Int32))) vm2 h9 O A9 F9_value F9_coder F9_count n9) 26 (argsL := []) (rest := [(.ref b9), (.ref b1)]) (a := b9) own_pd153 d1007 ?_
      rintro _ vm10 h10 C10 z10 ⟨v10, rfl, K10, q10_0, q10_1, q10_2, q10_3, q10_4⟩
      have lt_v10 : h10.size > v10 := q10_0.vlt
      refine gat0 ?_
      refine vAN 27 d1008 ?_
      have f11 := ((f8.ext E9).keep K10 nL)
      refine gF (oz hw 103) f11 30 d1009 ?_
      have f13 := ((((Su.ext E1).keep K2 nL nL).ext E9).keep K10 nL nL)
      have f14 := (A9.keep K10)
      refine gmV (y := mn684) (z := mn684) (oz hw 163) (oz hw 164) (nfSel (oz hw 166)) (oz hw 166) (oz hw 165) (oz hw 167) (oz hw 144) (fun O => own_sbappend cx b9 ui v10 16 (([] : List Int32)) tu du vm10 h10 O q10_0 f13 n9 q10_2 q10_3 (by simp only [lA, lN, lC]; omega) (Nat.ne_of_gt (by omega))) 33 (argsL := [(.ref ui)]) (rest := [(.ref b1)]) f14 own_pd894 d1010 ?_
      rintro _ vm12 h12 C12 z12 ⟨rfl, K12, q12_0, q12_1⟩
      refine gat1 ?_
      refine gldcRq hx (oz hw 365) hSA (by decide) (n := 4) (by decide) (by decide) (vs := [Value.int (32 : Int32)]) (z := (1 : Int32)) (by decide +kernel) (by decide) (by decide) 35 (hb hby d1011) rfl (by decide) (by decide) ?_
      intro b15 t15 k15 vm15 h15 E15 C15 Q15a Q15b Q15c Q15d Q15e
      have z15 := C15.2.1
      have S15 : Str Z h15 b15 t15 [(32 : Int32)] := Str.lit Q15a Q15b Q15c Q15d (by decide) rfl rfl (by decide)
      have lt_b15 : h15.size > b15 := S15.1.lt
      have lt_t15 : h15.size > t15 := S15.tlt
      have f16 := (C15.sf (C12.sf (C10.sf (C9.sf (C2.sf L1)))))
      have ne15_b1 := Q15e b1 f16
      have f17 := (C15.sf (C12.sf (C10.sf (C9.sf q2_3))))
      have ne15_v2 := Q15e v2 f17
      have f18 := (C15.sf (C12.sf (C10.sf L9)))
      have ne15_b9 := Q15e b9 f18
      have f19 := (C15.sf q12_1)
      have ne15_v10 := Q15e v10 f19
      have f21 := (q12_0.ext E15)
      have f22 := ((f14.keep K12).ext E15)
      refine gmV (y := mn684) (z := mn684) (oz hw 163) (oz hw 164) (nfSel (oz hw 166)) (oz hw 166) (oz hw 165) (oz hw 167) (oz hw 144) (fun O => own_sbappend cx b9 b15 v10 16 ((([] : List Int32) ++ du)) t15 ([(32 : Int32)]) vm15 h15 O f21 S15 n9 q10_2 f19 (by simp only [lA, lN, lC]; omega) ne15_v10.2) 38 (argsL := [(.ref b15)]) (rest := [(.ref b1)]) f22 own_pd894 d1012 ?_
      rintro _ vm20 h20 C20 z20 ⟨rfl, K20, q20_0, q20_1⟩
      refine gat1 ?_
      have f24 := (f22.keep K20)
      refine gmV (y := mn785) (z := mn785) (oz hw 264) (oz hw 265) (nfSel (oz hw 267)) (oz hw 267) (oz hw 266) (oz hw 268) (oz hw 144) (fun O => own_sbtostring cx b9 v10 16 (((([] : List Int32) ++ du) ++ [(32 : Int32)])) vm20 h20 O q20_0 (by simp only [lA, lN, lC]; omega) (by simp only [lA, lN, lC]; omega)) 41 (argsL := []) (rest := [(.ref b1)]) f24 own_pd884 d1013 ?_
      rintro _ vm23 h23 C23 z23 ⟨r23, t23, rfl, K23, q23_0, q23_1, q23_2⟩
      have lt_r23 : h23.size > r23 := q23_2.1.lt
      have lt_t23 : h23.size > t23 := q23_2.tlt
      refine gat1 ?_
      exact gmono (by decide) (by decide) (J3 _ _ _ ⟨r23, t23, ((([] : List Int32) ++ du) ++ [(32 : Int32)]), rfl, (((((((Keep.refl h2 []).ext E9).trans K10 (allS (Or.inr (by omega)) all0)).trans K12 (allS (Or.inr (by omega)) (allS (Or.inr (by omega)) all0))).ext E15).trans K20 (allS (Or.inr (by omega)) (allS (Or.inr (by omega)) all0))).trans K23 all0), (((((C9.trans C10).trans C12).trans C15).trans C20).trans C23), q23_2, (by rw [own_u, if_neg e5, List.nil_append]), (Nat.ne_of_lt (by omega))⟩)
def own_ca (k : Nat) (ds : List Int32) : List Value := ds.map Value.int ++ List.replicate (k - ds.length) (.int (0 : Int32))
theorem own_cal {k : Nat} {ds : List Int32} (h : ds.length ≤ k) : (own_ca k ds).length = k := by rw [own_ca, List.length_append, List.length_map, List.length_replicate]; omega
theorem own_ca0 (k : Nat) : List.replicate k (Value.int (0 : Int32)) = own_ca k [] := by rw [own_ca]; simp
theorem own_ca1 {k : Nat} {ds : List Int32} {c : Int32} (h : ds.length < k) : (own_ca k ds).set ds.length (.int c) = own_ca k (ds ++ [c]) := by
  obtain ⟨j, hj⟩ : ∃ j, k - ds.length = j + 1 := ⟨k - ds.length - 1, by omega⟩
  rw [own_ca, own_ca, List.set_append_right _ _ (by rw [List.length_map]; exact Nat.le_refl _), List.length_map, Nat.sub_self, hj, List.length_append, List.map_append, List.append_assoc, show k - (ds.length + [c].length) = j by simp; omega]
  rfl
theorem own_cag {k : Nat} {ds : List Int32} {q : Nat} (h : q < ds.length) : (own_ca k ds).getD q (.int (0 : Int32)) = .int (ds.getD q 0) := by
  rw [own_ca, List.getD_eq_getElem?_getD, List.getElem?_append_left (by rw [List.length_map]; exact h), List.getElem?_map, List.getD_eq_getElem?_getD, List.getElem?_eq_getElem h]; rfl
theorem own_len1 {ds : List Int32} {c : Int32} (h : ds.length ≤ 3000) : Int32.ofNat ds.length + (1 : Int32) = Int32.ofNat (ds ++ [c]).length := by rw [own_addo (by omega), List.length_append]; rfl
theorem own_len2 {ds : List Int32} {c d : Int32} (h : ds.length ≤ 3000) : Int32.ofNat ds.length + (2 : Int32) = Int32.ofNat ((ds ++ [c]) ++ [d]).length := by rw [List.length_append, List.length_append]; exact addOf (b := 2) (by omega)
theorem own_nb8 {c : Int32} (h : B8 c) : nar .char c = c := own_b8c h
theorem d1021 : Dc y74_ 0 (.aload_n 0) 1 := by decide +kernel
theorem d1022 : Dc y74_ 1 (.iload_n 1) 1 := by decide +kernel
theorem d1023 : Dc y74_ 2 (.aload_n 2) 1 := by decide +kernel
theorem d1024 : Dc y74_ 3 (.iconst 0) 1 := by decide +kernel
theorem d1025 : Dc y74_ 4 (.invokevirtual 12) 3 := by decide +kernel
theorem own_pd1026 : parseMethodDescriptor "(I)C" = some ⟨[.int], some .char⟩ := by decide +kernel
theorem d1027 : Dc y74_ 7 (.castore) 1 := by decide +kernel
theorem d1028 : Dc y74_ 8 (.aload_n 2) 1 := by decide +kernel
theorem d1029 : Dc y74_ 9 (.invokevirtual 16) 3 := by decide +kernel
theorem d1030 : Dc y74_ 12 (.iconst 1) 1 := by decide +kernel
theorem d1031 : Dc y74_ 13 (.if_icmp .le 13) 3 := by decide +kernel
theorem d1032 : Dc y74_ 26 (.iload_n 1) 1 := by decide +kernel
theorem d1033 : Dc y74_ 27 (.aload_n 2) 1 := by decide +kernel
theorem d1034 : Dc y74_ 28 (.invokevirtual 16) 3 := by decide +kernel
theorem d1035 : Dc y74_ 31 (.iadd) 1 := by decide +kernel
theorem d1036 : Dc y74_ 32 (.ireturn) 1 := by decide +kernel
theorem d1037 : Dc y74_ 16 (.aload_n 0) 1 := by decide +kernel
theorem d1038 : Dc y74_ 17 (.iload_n 1) 1 := by decide +kernel
theorem d1039 : Dc y74_ 18 (.iconst 1) 1 := by decide +kernel
theorem d1040 : Dc y74_ 19 (.iadd) 1 := by decide +kernel
theorem d1041 : Dc y74_ 20 (.aload_n 2) 1 := by decide +kernel
theorem d1042 : Dc y74_ 21 (.iconst 1) 1 := by decide +kernel
theorem d1043 : Dc y74_ 22 (.invokevirtual 12) 3 := by decide +kernel
theorem d1044 : Dc y74_ 25 (.castore) 1 := by decide +kernel
abbrev mn1045 : MethodName := ⟨"com/example/headings_from_text/headingsfromtext/vocabulary/ConceptToStringPinLaw", "put", "([CILjava/lang/String;)I"⟩
theorem own_put {l : Launch} {Z : State} {a0 : Array Value} (cx : Ctx Z a0) (a : Addr) (ka : ClassId) (ds : List Int32) (y t : Addr) (k x : Int32) (vm0 : Vm) (h0 : Heap) (X00 : Ext Z.heap h0) (P0 : Arv Z h0 a ka .char (15 : Int32) (own_ca 15 ds) (.int (0 : Int32))) (P1 : Str Z h0 y t ((own_fst x) :: (own_tl k x))) (P2 : Z.heap.size ≤ a) (hd : (ds.length ≤ 13)) (hay : (a ≠ y)) (hat : (a ≠ t)) :
    Met l mn1045 y74_ 3 (some .int) [] (Rm 4 0 0 55) Z consts_1 vm0 h0 #[(.ref a), (.int (Int32.ofNat ds.length)), (.ref y)] (fun rv vm h => rv = some (.int (Int32.ofNat (ds ++ ((own_fst x) :: (own_tl k x))).length)) ∧ Keep h0 h [a] ∧ Arv Z h a ka .char (15 : Int32) (own_ca 15 (ds ++ ((own_fst x) :: (own_tl k x)))) (.int (0 : Int32))) := by
  have hw := cx.1
  refine Met.of_walk (a0 := a0) #[vr a, vi (Int32.ofNat ds.length), vr y] (plainFor_of_name own_pn832) X00 cx.2.1 (fun _ => rfl) ?_
  intro p e s m below meth c vm hx hby hml hret hnm hC0 hW0
  have lt_a : h0.size > a := P0.lt
  have lt_y : h0.size > y := P1.1.lt
  have lt_t : h0.size > t := P1.tlt
  have hbb := P1.2.2.2.2.1
  by_cases e1 : k = (1 : Int32)
  · have S0 : Str Z h0 y t [(own_fst x)] := by have qq := P1; rw [own_tl, if_pos e1] at qq; exact qq
    refine vAN 1 d1021 ?_
    refine vIN 2 d1022 ?_
    refine vAN 3 d1023 ?_
    refine vKc 4 (0 : Int32) d1024 ?_
    refine gmV (y := mn51) (z := mn51) (oz hw 313) (oz hw 314) (nfSel (oz hw 316)) (oz hw 316) (oz hw 315) (oz hw 317) (oz hw 6) (fun O => own_chAt cx y t ([(own_fst x)]) 0 vm h0 O S0 (Nat.le_of_ble_eq_true rfl)) 7 (argsL := [(.int (0 : Int32))]) (rest := [(.int (Int32.ofNat ds.length)), (.ref a)]) S0.1 own_pd1026 d1025 ?_
    rintro _ vm1 h1 C1 z1 ⟨rfl, rfl⟩
    refine gat (mkF m 7 #[vr a, vi (Int32.ofNat ds.length), vr y] [(.int (own_fst x)), (.int (Int32.ofNat ds.length)), (.ref a)]) rfl ?_
    refine gstC hx P0 ⟨nn0 (by omega), (ltOf (b := 15) (by omega) (by omega)).mpr (by omega)⟩ (i := ds.length) (tn (by omega)) (by rw [own_cal (by omega)]; omega) (y := (own_fst x)) (own_narf _) P2 8 (hb hby d1027) rfl ?_
    intro h2 W2 C2 V2
    have z2 := C2.2.1
    have X3 : Arv Z h2 a ka .char (15 : Int32) (own_ca 15 (ds ++ [(own_fst x)])) (.int (0 : Int32)) := Eq.mp (congrArg (fun z => Arv Z h2 a ka .char (15 : Int32) z (.int (0 : Int32))) (own_ca1 (by omega))) V2
    refine vAN 9 d1028 ?_
    have f5 := (S0.other W2 (Ne.symm hay) (Ne.symm hat))
    refine gmV (y := mn67) (z := mn67) (oz hw 309) (oz hw 174) (nfSel (oz hw 176)) (oz hw 176) (oz hw 175) (oz hw 177) (oz hw 6) (fun O => own_slen cx y t ([(own_fst x)]) vm1 h2 O f5) 12 (argsL := []) (rest := []) f5.1 own_pd139 d1029 ?_
    rintro _ vm4 h4 C4 z4 ⟨rfl, rfl⟩
    refine gat (mkF m 12 #[vr a, vi (Int32.ofNat ds.length), vr y] [(.int (1 : Int32))]) rfl ?_
    refine vKc 13 (1 : Int32) d1030 ?_
    refine vYc 26 d1031 (flt (by decide)).2.2.2 ?_
    refine vIN 27 d1032 ?_
    refine vAN 28 d1033 ?_
    refine gmV (y := mn67) (z := mn67) (oz hw 309) (oz hw 174) (nfSel (oz hw 176)) (oz hw 176) (oz hw 175) (oz hw 177) (oz hw 6) (fun O => own_slen cx y t ([(own_fst x)]) vm4 h2 O f5) 31 (argsL := []) (rest := [(.int (Int32.ofNat ds.length))]) f5.1 own_pd139 d1034 ?_
    rintro _ vm6 h6 C6 z6 ⟨rfl, rfl⟩
    refine gat (mkF m 31 #[vr a, vi (Int32.ofNat ds.length), vr y] [(.int (1 : Int32)), (.int (Int32.ofNat ds.length))]) rfl ?_
    refine viadd 32 ((Int32.ofNat ds.length) + (1 : Int32)) d1035 ?_
    exact gretI hx hret (hb hby d1036) (by decide) (by decide) (fun vq Cq => ⟨(congrArg (fun z => some (Value.int z)) (by rw [own_tl, if_pos e1]; exact own_len1 (by omega))), ((Keep.refl h0 [a]).wr W2 (Or.inl (List.mem_of_getElem? (i := 0) rfl))), (by rw [own_tl, if_pos e1]; exact X3)⟩)
  · have S0 : Str Z h0 y t [(own_fst x), (own_snd x)] := by have qq := P1; rw [own_tl, if_neg e1] at qq; exact qq
    refine vAN 1 d1021 ?_
    refine vIN 2 d1022 ?_
    refine vAN 3 d1023 ?_
    refine vKc 4 (0 : Int32) d1024 ?_
    refine gmV (y := mn51) (z := mn51) (oz hw 313) (oz hw 314) (nfSel (oz hw 316)) (oz hw 316) (oz hw 315) (oz hw 317) (oz hw 6) (fun O => own_chAt cx y t ([(own_fst x), (own_snd x)]) 0 vm h0 O S0 (Nat.le_of_ble_eq_true rfl)) 7 (argsL := [(.int (0 : Int32))]) (rest := [(.int (Int32.ofNat ds.length)), (.ref a)]) S0.1 own_pd1026 d1025 ?_
    rintro _ vm8 h8 C8 z8 ⟨rfl, rfl⟩
    refine gat (mkF m 7 #[vr a, vi (Int32.ofNat ds.length), vr y] [(.int (own_fst x)), (.int (Int32.ofNat ds.length)), (.ref a)]) rfl ?_
    refine gstC hx P0 ⟨nn0 (by omega), (ltOf (b := 15) (by omega) (by omega)).mpr (by omega)⟩ (i := ds.length) (tn (by omega)) (by rw [own_cal (by omega)]; omega) (y := (own_fst x)) (own_narf _) P2 8 (hb hby d1027) rfl ?_
    intro h9 W9 C9 V9
    have z9 := C9.2.1
    have X10 : Arv Z h9 a ka .char (15 : Int32) (own_ca 15 (ds ++ [(own_fst x)])) (.int (0 : Int32)) := Eq.mp (congrArg (fun z => Arv Z h9 a ka .char (15 : Int32) z (.int (0 : Int32))) (own_ca1 (by omega))) V9
    refine vAN 9 d1028 ?_
    have f12 := (S0.other W9 (Ne.symm hay) (Ne.symm hat))
    refine gmV (y := mn67) (z := mn67) (oz hw 309) (oz hw 174) (nfSel (oz hw 176)) (oz hw 176) (oz hw 175) (oz hw 177) (oz hw 6) (fun O => own_slen cx y t ([(own_fst x), (own_snd x)]) vm8 h9 O f12) 12 (argsL := []) (rest := []) f12.1 own_pd139 d1029 ?_
    rintro _ vm11 h11 C11 z11 ⟨rfl, rfl⟩
    refine gat (mkF m 12 #[vr a, vi (Int32.ofNat ds.length), vr y] [(.int (2 : Int32))]) rfl ?_
    refine vKc 13 (1 : Int32) d1030 ?_
    refine vNc 16 d1031 (tlt (by decide)).2.2.2 ?_
    refine vAN 17 d1037 ?_
    refine vIN 18 d1038 ?_
    refine vKc 19 (1 : Int32) d1039 ?_
    refine viadd 20 ((Int32.ofNat ds.length) + (1 : Int32)) d1040 ?_
    refine gat (mkF m 20 #[vr a, vi (Int32.ofNat ds.length), vr y] [(.int (Int32.ofNat (ds ++ [(own_fst x)]).length)), (.ref a)]) (by rw [own_len1 (c := (own_fst x)) (by omega)]) ?_
    have hl1 : (ds ++ [(own_fst x)]).length = ds.length + 1 := by simp only [lA, lN, lC]
    refine vAN 21 d1041 ?_
    refine vKc 22 (1 : Int32) d1042 ?_
    refine gmV (y := mn51) (z := mn51) (oz hw 313) (oz hw 314) (nfSel (oz hw 316)) (oz hw 316) (oz hw 315) (oz hw 317) (oz hw 6) (fun O => own_chAt cx y t ([(own_fst x), (own_snd x)]) 1 vm11 h9 O f12 (Nat.le_of_ble_eq_true rfl)) 25 (argsL := [(.int (1 : Int32))]) (rest := [(.int (Int32.ofNat (ds ++ [(own_fst x)]).length)), (.ref a)]) f12.1 own_pd1026 d1043 ?_
    rintro _ vm13 h13 C13 z13 ⟨rfl, rfl⟩
    refine gat (mkF m 25 #[vr a, vi (Int32.ofNat ds.length), vr y] [(.int (own_snd x)), (.int (Int32.ofNat (ds ++ [(own_fst x)]).length)), (.ref a)]) rfl ?_
    refine gstC hx X10 ⟨nn0 (by omega), (ltOf (b := 15) (by omega) (by omega)).mpr (by omega)⟩ (i := (ds ++ [(own_fst x)]).length) (tn (by omega)) (by rw [own_cal (by omega)]; omega) (y := (own_snd x)) (own_nars _) P2 26 (hb hby d1044) rfl ?_
    intro h14 W14 C14 V14
    have z14 := C14.2.1
    have X15 : Arv Z h14 a ka .char (15 : Int32) (own_ca 15 ((ds ++ [(own_fst x)]) ++ [(own_snd x)])) (.int (0 : Int32)) := Eq.mp (congrArg (fun z => Arv Z h14 a ka .char (15 : Int32) z (.int (0 : Int32))) (own_ca1 (by omega))) V14
    refine vIN 27 d1032 ?_
    refine vAN 28 d1033 ?_
    have f17 := (f12.other W14 (Ne.symm hay) (Ne.symm hat))
    refine gmV (y := mn67) (z := mn67) (oz hw 309) (oz hw 174) (nfSel (oz hw 176)) (oz hw 176) (oz hw 175) (oz hw 177) (oz hw 6) (fun O => own_slen cx y t ([(own_fst x), (own_snd x)]) vm13 h14 O f17) 31 (argsL := []) (rest := [(.int (Int32.ofNat ds.length))]) f17.1 own_pd139 d1034 ?_
    rintro _ vm16 h16 C16 z16 ⟨rfl, rfl⟩
    refine gat (mkF m 31 #[vr a, vi (Int32.ofNat ds.length), vr y] [(.int (2 : Int32)), (.int (Int32.ofNat ds.length))]) rfl ?_
    refine viadd 32 ((Int32.ofNat ds.length) + (2 : Int32)) d1035 ?_
    exact gretI hx hret (hb hby d1036) (by decide) (by decide) (fun vq Cq => ⟨(congrArg (fun z => some (Value.int z)) (by rw [own_tl, if_neg e1, own_len2 (c := (own_fst x)) (d := (own_snd x)) (by omega), List.append_assoc]; rfl)), (((Keep.refl h0 [a]).wr W9 (Or.inl (List.mem_of_getElem? (i := 0) rfl))).wr W14 (Or.inl (List.mem_of_getElem? (i := 0) rfl))), (by have z := X15; rw [List.append_assoc] at z; rw [own_tl, if_neg e1]; exact z)⟩)
theorem d1046 : Dc y75_ 0 (.iload_n 3) 1 := by decide +kernel
theorem d1047 : Dc y75_ 1 (.iload_n 2) 1 := by decide +kernel
theorem d1048 : Dc y75_ 2 (.if_icmp .ge 14) 3 := by decide +kernel
theorem d1049 : Dc y75_ 5 (.aload_n 0) 1 := by decide +kernel
theorem d1050 : Dc y75_ 6 (.iload_n 3) 1 := by decide +kernel
theorem d1051 : Dc y75_ 7 (.invokevirtual 12) 3 := by decide +kernel
theorem d1052 : Dc y75_ 10 (.aload_n 1) 1 := by decide +kernel
theorem d1053 : Dc y75_ 11 (.iload_n 3) 1 := by decide +kernel
theorem d1054 : Dc y75_ 12 (.caload) 1 := by decide +kernel
theorem d1055 : Dc y75_ 13 (.if_icmp .ne 7) 3 := by decide +kernel
theorem d1056 : Dc y75_ 16 (.iconst 1) 1 := by decide +kernel
theorem d1057 : Dc y75_ 17 (.goto 4) 3 := by decide +kernel
theorem d1058 : Dc y75_ 21 (.ireturn) 1 := by decide +kernel
abbrev mn1059 : MethodName := ⟨"com/example/headings_from_text/headingsfromtext/vocabulary/ConceptToStringPinLaw", "at", "(Ljava/lang/String;[CII)Z"⟩
theorem own_at {l : Launch} {Z : State} {a0 : Array Value} (cx : Ctx Z a0) (r t a : Addr) (ka : ClassId) (ds : List Int32) (q : Nat) (vm0 : Vm) (h0 : Heap) (X00 : Ext Z.heap h0) (P0 : Str Z h0 r t ds) (P1 : Arv Z h0 a ka .char (15 : Int32) (own_ca 15 ds) (.int (0 : Int32))) (hd : (ds.length ≤ 15)) (hq14 : (q ≤ 14)) :
    Met l mn1059 y75_ 4 (some .boolean) [] (Rm 4 0 0 53) Z consts_1 vm0 h0 #[(.ref r), (.ref a), (.int (Int32.ofNat ds.length)), (.int (Int32.ofNat q))] (fun rv vm h => rv = some (.int (1 : Int32)) ∧ h0 = h) := by
  have hw := cx.1
  refine Met.of_walk (a0 := a0) #[vr r, vr a, vi (Int32.ofNat ds.length), vi (Int32.ofNat q)] (plainFor_of_name own_pn832) X00 cx.2.1 (fun _ => rfl) ?_
  intro p e s m below meth c vm hx hby hml hret hnm hC0 hW0
  have lt_r : h0.size > r := P0.1.lt
  have lt_t : h0.size > t := P0.tlt
  have lt_a : h0.size > a := P1.lt
  refine vIN 1 d1046 ?_
  refine vIN 2 d1047 ?_
  by_cases g : (Int32.ofNat q) < (Int32.ofNat ds.length)
  · refine vNc 5 d1048 (tlt g).2.1 ?_
    have hq : q < ds.length := (ltOf (by omega) (by omega)).mp g
    refine vAN 6 d1049 ?_
    refine vIN 7 d1050 ?_
    refine gmV (y := mn51) (z := mn51) (oz hw 313) (oz hw 314) (nfSel (oz hw 316)) (oz hw 316) (oz hw 315) (oz hw 317) (oz hw 6) (fun O => own_chAt cx r t ds q vm h0 O P0 hq) 10 (argsL := [(.int (Int32.ofNat q))]) (rest := []) P0.1 own_pd1026 d1051 ?_
    rintro _ vm1 h1 C1 z1 ⟨rfl, rfl⟩
    refine gat (mkF m 10 #[vr r, vr a, vi (Int32.ofNat ds.length), vi (Int32.ofNat q)] [(.int (ds.getD q 0))]) rfl ?_
    refine vAN 11 d1052 ?_
    refine vIN 12 d1053 ?_
    refine gldC hx P1 ⟨nn0 (by omega), (ltOf (b := 15) (by omega) (by omega)).mpr (by omega)⟩ (i := q) (tn (by omega)) (v := (.int (ds.getD q 0))) (own_cag hq) 13 (hb hby d1054) rfl ?_
    refine vNc 16 d1055 (teq rfl).2 ?_
    refine vKc 17 (1 : Int32) d1056 ?_
    refine vG 21 d1057 ?_
    exact gretN (t := .boolean) hx hret (by simp) (hb hby d1058) (by decide) (by decide) (fun vq Cq => ⟨rfl, rfl⟩)
  · refine vYc 16 d1048 (flt g).2.1 ?_
    skip
    refine vKc 17 (1 : Int32) d1056 ?_
    refine vG 21 d1057 ?_
    exact gretN (t := .boolean) hx hret (by simp) (hb hby d1058) (by decide) (by decide) (fun vq Cq => ⟨rfl, rfl⟩)
theorem own_and3 (z : Int32) : z &&& (3 : Int32) = 0 ∨ z &&& (3 : Int32) = 1 ∨ z &&& (3 : Int32) = 2 ∨ z &&& (3 : Int32) = 3 := by
  have h := c_mask z 3 2 (by decide) (by decide)
  have e0 : (0 : Int32).toInt = 0 := rfl
  have e1 : (1 : Int32).toInt = 1 := rfl
  have e2 : (2 : Int32).toInt = 2 := rfl
  have e3 : (3 : Int32).toInt = 3 := rfl
  simp only [← Int32.toInt_inj, e0, e1, e2, e3]
  omega
def own_nt (x : Int32) : Int32 := ((x.toUInt32 >>> ((2 : Int32) &&& 31).toUInt32).toInt32) &&& (3 : Int32)
def own_k (x c : Int32) : Int32 := (1 : Int32) + (((x.toUInt32 >>> (c &&& 31).toUInt32).toInt32) &&& (1 : Int32))
theorem own_nt3 (x : Int32) : own_nt x = 0 ∨ own_nt x = 1 ∨ own_nt x = 2 ∨ own_nt x = 3 := own_and3 _
def own_q (c n : Int32) (d : List Int32) : List Int32 := if c < n then d else []
def own_r (c n : Int32) (d : List Int32) : List Int32 := if c < n then [(44 : Int32), (32 : Int32)] ++ d else []
theorem own_ql {c n : Int32} {d : List Int32} (h : d.length ≤ 2) : (own_q c n d).length ≤ 2 := by
  unfold own_q
  split
  · exact h
  · simp
theorem own_rp {c n : Int32} {d : List Int32} (h : c < n) : own_r c n d = [(44 : Int32), (32 : Int32)] ++ d := if_pos h
theorem own_rn {c n : Int32} {d : List Int32} (h : ¬ c < n) : own_r c n d = [] := if_neg h
theorem own_rl {c n : Int32} {d : List Int32} (h : d.length ≤ 2) : (own_r c n d).length ≤ 4 := by unfold own_r; split <;> simp; omega
def own_UI (Z : State) (h : Heap) (n : Nat) (f : Int32) (w : Slot) (d : List Int32) : Prop := f = (0 : Int32) ∨ ∃ a t : Addr, w = .val (.ref a) ∧ (n > a ∧ n > t) ∧ Str Z h a t d
theorem own_UI.ext {Z : State} {h h' : Heap} {n : Nat} {f : Int32} {w : Slot} {d : List Int32} (F : own_UI Z h n f w d) (E : Ext h h') : own_UI Z h' n f w d := F.imp id fun ⟨a, t, e, l, s⟩ => ⟨a, t, e, l, s.ext E⟩
theorem own_pd1060 : parseMethodDescriptor "(II)Ljava/lang/String;" = some ⟨[.int, .int], some (.object "java/lang/String")⟩ := by decide +kernel
theorem own_pd1061 : parseMethodDescriptor "(Ljava/lang/String;ZLjava/util/List;)V" = some ⟨[(.object "java/lang/String"), .boolean, (.object "java/util/List")], none⟩ := by decide +kernel
theorem own_pd1062 : parseMethodDescriptor "(Ljava/lang/Object;)Z" = some ⟨[(.object "java/lang/Object")], some .boolean⟩ := by decide +kernel
theorem own_pd1063 : parseMethodDescriptor "([CILjava/lang/String;)I" = some ⟨[(.array .char), .int, (.object "java/lang/String")], some .int⟩ := by decide +kernel
theorem own_pd1064 : parseMethodDescriptor "(Ljava/lang/String;[CII)Z" = some ⟨[(.object "java/lang/String"), (.array .char), .int, .int], some .boolean⟩ := by decide +kernel
theorem own_law (l : Launch) (Z : State) (a0 : Array Value) (cx : Ctx Z a0) (ws : List Jvm.Cond) (x0 x1 x2 x3 x4 : Int32) (vm0 : Vm) (h0 : Heap) (X00 : Ext Z.heap h0)  :
    Met l x code maxLocals ret ws room_1 Z consts_1 vm0 h0 #[(.int x0), (.int x1), (.int x2), (.int x3), (.int x4)] (fun rv vm h => rv = some (.int (1 : Int32)) ∧ Keep h0 h []) := by
  obtain ⟨hw, hEL, ⟨zc, Scs, hzc⟩, ⟨fm, Sfm, hfm⟩, hL0, hB0⟩ := id cx
  refine Met.of_walk (a0 := a0) #[vi x0, vi x1, vi x2, vi x3, vi x4, un, un, un, un, un, un, un, un, un, un, un, un] (plainFor_of_name own_pn832) X00 hEL (fun m => by first | (simp [entryFrame, mkF, argsToLocals, Value.category, maxLocals]; done) | rfl) ?_
  intro p e s m below meth c vm hx hby hml hret hnm hC0 hW0
  obtain ⟨dz, el, ee, em, mr, kd, ke, hL1⟩ := hL0
  have hL : OwnL Z dz el ee em mr kd ke := hL1
  obtain ⟨cdi, ca, kA, hB1⟩ := hB0
  have hB : OwnB Z cdi ca kA := hB1
  refine gjoin (fun vmJ hJ gJ => ∃ (fg5_1 : Int32), gJ = (mkF m 11 #[vi x0, vi x1, vi x2, vi x3, vi x4, un, un, un, un, un, un, un, un, un, un, un, un] [(.int fg5_1)]) ∧ Keep h0 hJ [] ∧ CHq Z consts_1 vm h0 vmJ hJ ∧ (fg5_1 = 0 ∨ fg5_1 = 1)) 0 0 ?_ ?_
  · rintro vm1 h1 _ ⟨fg5_1, rfl, K1, C1, q1_0⟩
    have z1 := C1.2.1
    refine vSI 13 #[vi x0, vi x1, vi x2, vi x3, vi x4, vi fg5_1, un, un, un, un, un, un, un, un, un, un, un] at_11 ?_
    refine gjoin (fun vmJ hJ gJ => ∃ (w6_2 : Slot), ∃ (w11_2 : Slot), ∃ (w12_2 : Slot), ∃ (w13_2 : Slot), ∃ (s8_2 : Addr), ∃ (t8_2 : Addr), ∃ (s9_2 : Addr), ∃ (t9_2 : Addr), ∃ (sA_2 : Addr), ∃ (tA_2 : Addr), ∃ (rr2 : Addr), ∃ (rt2 : Addr), ∃ (es2 : List Int32), gJ = (mkF m 171 #[vi x0, vi x1, vi x2, vi x3, vi x4, vi fg5_1, w6_2, vi (own_nt x0), vr s8_2, vr s9_2, vr sA_2, w11_2, w12_2, w13_2, vr rr2, un, un] []) ∧ Keep h1 hJ [] ∧ CHq Z consts_1 vm1 h1 vmJ hJ ∧ Str Z hJ s8_2 t8_2 ((own_fst x2) :: (own_tl (own_k x0 4) x2)) ∧ Str Z hJ s9_2 t9_2 ((own_fst x3) :: (own_tl (own_k x0 5) x3)) ∧ Str Z hJ sA_2 tA_2 ((own_fst x4) :: (own_tl (own_k x0 6) x4)) ∧ Str Z hJ rr2 rt2 es2 ∧ own_UI Z hJ hJ.size fg5_1 w6_2 ((own_fst x1) :: (own_tl (own_k x0 1) x1)) ∧ (es2 = ((((((own_u fg5_1 ((own_fst x1) :: (own_tl (own_k x0 1) x1))) ++ [(91 : Int32)]) ++ (own_q (0 : Int32) (own_nt x0) ((own_fst x2) :: (own_tl (own_k x0 4) x2)))) ++ (own_r (1 : Int32) (own_nt x0) ((own_fst x3) :: (own_tl (own_k x0 5) x3)))) ++ (own_r (2 : Int32) (own_nt x0) ((own_fst x4) :: (own_tl (own_k x0 6) x4)))) ++ [(93 : Int32)]))) 34 240 ?_ ?_
    · rintro vm2 h2 _ ⟨w6_2, w11_2, w12_2, w13_2, s8_2, t8_2, s9_2, t9_2, sA_2, tA_2, rr2, rt2, es2, rfl, K2, C2, q2_0, q2_1, q2_2, q2_3, q2_4, q2_5⟩
      have z2 := C2.2.1
      have lt_s8_2 : h2.size > s8_2 := q2_0.1.lt
      have lt_t8_2 : h2.size > t8_2 := q2_0.tlt
      have lt_s9_2 : h2.size > s9_2 := q2_1.1.lt
      have lt_t9_2 : h2.size > t9_2 := q2_1.tlt
      have lt_sA_2 : h2.size > sA_2 := q2_2.1.lt
      have lt_tA_2 : h2.size > tA_2 := q2_2.tlt
      have lt_rr2 : h2.size > rr2 := q2_3.1.lt
      have lt_rt2 : h2.size > rt2 := q2_3.tlt
      have ht0 : (((own_fst x1) :: (own_tl (own_k x0 1) x1))).length ≤ 2 := Nat.succ_le_succ (own_tll _ _)
      have ht1 : (((own_fst x2) :: (own_tl (own_k x0 4) x2))).length ≤ 2 := Nat.succ_le_succ (own_tll _ _)
      have ht2 : (((own_fst x3) :: (own_tl (own_k x0 5) x3))).length ≤ 2 := Nat.succ_le_succ (own_tll _ _)
      have ht3 : (((own_fst x4) :: (own_tl (own_k x0 6) x4))).length ≤ 2 := Nat.succ_le_succ (own_tll _ _)
      have hu := own_ul (f := fg5_1) ht0
      have hq0 := own_ql (c := (0 : Int32)) (n := (own_nt x0)) ht1
      have hr1 := own_rl (c := (1 : Int32)) (n := (own_nt x0)) ht2
      have hr2 := own_rl (c := (2 : Int32)) (n := (own_nt x0)) ht3
      have hTL : es2.length ≤ 15 := by rw [q2_5]; simp only [lA, lN, lC]; omega
      refine vKb 173 (15 : Int32) at_171 ?_
      refine gnewPE hx (oz hw 7) (n := (15 : Int32)) (by decide) (cap := 15) (by decide) (by decide) (ad := "[C") (by decide) 175 (hb hby at_173) rfl (by decide) (by decide) ?_
      intro b178 h178 k178 g178 E178 C178 V178 A178 n178 L178
      have z178 := C178.2.1
      have V178 : Arv Z h178 b178 k178 .char (15 : Int32) (List.replicate 15 (.int (0 : Int32))) (.int (0 : Int32)) := V178.pad (pad_rep [] (.int (0 : Int32)) 15)
      have lt_b178 : h178.size > b178 := V178.lt
      refine vSA 177 #[vi x0, vi x1, vi x2, vi x3, vi x4, vi fg5_1, w6_2, vi (own_nt x0), vr s8_2, vr s9_2, vr sA_2, w11_2, w12_2, w13_2, vr rr2, vr b178, un] at_175 ?_
      have X179 : Arv Z h178 b178 k178 .char (15 : Int32) (own_ca 15 ([] : List Int32)) (.int (0 : Int32)) := Eq.mp (congrArg (fun z => Arv Z h178 b178 k178 .char (15 : Int32) z (.int (0 : Int32))) (own_ca0 15)) V178
      have hl0 : ([] : List Int32).length ≤ 0 := Nat.le_refl _
      refine vKc 178 (0 : Int32) at_177 ?_
      refine vSI 180 #[vi x0, vi x1, vi x2, vi x3, vi x4, vi fg5_1, w6_2, vi (own_nt x0), vr s8_2, vr s9_2, vr sA_2, w11_2, w12_2, w13_2, vr rr2, vr b178, vi (0 : Int32)] at_178 ?_
      refine gat (mkF m 180 #[vi x0, vi x1, vi x2, vi x3, vi x4, vi fg5_1, w6_2, vi (own_nt x0), vr s8_2, vr s9_2, vr sA_2, w11_2, w12_2, w13_2, vr rr2, vr b178, vi (Int32.ofNat ([] : List Int32).length)] []) rfl ?_
      refine gjoin (fun vmJ hJ gJ => ∃ (q1180 : List Int32), ∃ (jq1180 : Int32), gJ = (mkF m 209 #[vi x0, vi x1, vi x2, vi x3, vi x4, vi fg5_1, w6_2, vi (own_nt x0), vr s8_2, vr s9_2, vr sA_2, w11_2, w12_2, w13_2, vr rr2, vr b178, vi jq1180] []) ∧ Keep h178 hJ [b178] ∧ CHq Z consts_1 vm2 h178 vmJ hJ ∧ Arv Z hJ b178 k178 .char (15 : Int32) (own_ca 15 q1180) (.int (0 : Int32)) ∧ (q1180 = (own_u fg5_1 ((own_fst x1) :: (own_tl (own_k x0 1) x1)))) ∧ (jq1180 = Int32.ofNat q1180.length)) 35 255 ?_ ?_
      · rintro vm180 h180 _ ⟨q1180, jq1180, rfl, K180, C180, q180_0, q180_1, q180_2⟩
        have z180 := C180.2.1
        subst q180_1
        refine gat (mkF m 209 #[vi x0, vi x1, vi x2, vi x3, vi x4, vi fg5_1, w6_2, vi (own_nt x0), vr s8_2, vr s9_2, vr sA_2, w11_2, w12_2, w13_2, vr rr2, vr b178, vi (Int32.ofNat (own_u fg5_1 ((own_fst x1) :: (own_tl (own_k x0 1) x1))).length)] []) (by rw [q180_2]) ?_
        have hl187 : (own_u fg5_1 ((own_fst x1) :: (own_tl (own_k x0 1) x1))).length ≤ 3 := by simp only [lA, lN, lC] at *; omega
        refine vA 211 at_209 ?_
        refine vI 213 at_211 ?_
        refine vKb 215 (91 : Int32) at_213 ?_
        refine gstC hx q180_0 ⟨nn0 (by omega), (ltOf (b := 15) (by omega) (by omega)).mpr (by omega)⟩ (i := (own_u fg5_1 ((own_fst x1) :: (own_tl (own_k x0 1) x1))).length) (tn (by omega)) (by rw [own_cal (by omega)]; omega) (y := (91 : Int32)) (by decide) n178 216 (hb hby at_215) rfl ?_
        intro h188 W188 C188 V188
        have z188 := C188.2.1
        have X189 : Arv Z h188 b178 k178 .char (15 : Int32) (own_ca 15 ((own_u fg5_1 ((own_fst x1) :: (own_tl (own_k x0 1) x1))) ++ [(91 : Int32)])) (.int (0 : Int32)) := Eq.mp (congrArg (fun z => Arv Z h188 b178 k178 .char (15 : Int32) z (.int (0 : Int32))) (own_ca1 (by omega))) V188
        have hl190 : ((own_u fg5_1 ((own_fst x1) :: (own_tl (own_k x0 1) x1))) ++ [(91 : Int32)]).length ≤ 4 := by simp only [lA, lN, lC] at *; omega
        refine vI 218 at_216 ?_
        refine vKc 219 (1 : Int32) at_218 ?_
        refine viadd 220 ((Int32.ofNat (own_u fg5_1 ((own_fst x1) :: (own_tl (own_k x0 1) x1))).length) + (1 : Int32)) at_219 ?_
        refine gat (mkF m 220 #[vi x0, vi x1, vi x2, vi x3, vi x4, vi fg5_1, w6_2, vi (own_nt x0), vr s8_2, vr s9_2, vr sA_2, w11_2, w12_2, w13_2, vr rr2, vr b178, vi (Int32.ofNat (own_u fg5_1 ((own_fst x1) :: (own_tl (own_k x0 1) x1))).length)] [(.int (Int32.ofNat ((own_u fg5_1 ((own_fst x1) :: (own_tl (own_k x0 1) x1))) ++ [(91 : Int32)]).length))]) (by rw [own_len1 (c := (91 : Int32)) (by omega)]) ?_
        refine vSI 222 #[vi x0, vi x1, vi x2, vi x3, vi x4, vi fg5_1, w6_2, vi (own_nt x0), vr s8_2, vr s9_2, vr sA_2, w11_2, w12_2, w13_2, vr rr2, vr b178, vi (Int32.ofNat ((own_u fg5_1 ((own_fst x1) :: (own_tl (own_k x0 1) x1))) ++ [(91 : Int32)]).length)] at_220 ?_
        refine gjoin (fun vmJ hJ gJ => ∃ (q2191 : List Int32), ∃ (jq2191 : Int32), gJ = (mkF m 238 #[vi x0, vi x1, vi x2, vi x3, vi x4, vi fg5_1, w6_2, vi (own_nt x0), vr s8_2, vr s9_2, vr sA_2, w11_2, w12_2, w13_2, vr rr2, vr b178, vi jq2191] []) ∧ Keep h188 hJ [b178] ∧ CHq Z consts_1 vm180 h188 vmJ hJ ∧ Arv Z hJ b178 k178 .char (15 : Int32) (own_ca 15 q2191) (.int (0 : Int32)) ∧ (q2191 = (((own_u fg5_1 ((own_fst x1) :: (own_tl (own_k x0 1) x1))) ++ [(91 : Int32)]) ++ (own_q (0 : Int32) (own_nt x0) ((own_fst x2) :: (own_tl (own_k x0 4) x2))))) ∧ (jq2191 = Int32.ofNat q2191.length)) 35 255 ?_ ?_
        · rintro vm191 h191 _ ⟨q2191, jq2191, rfl, K191, C191, q191_0, q191_1, q191_2⟩
          have z191 := C191.2.1
          subst q191_1
          refine gat (mkF m 238 #[vi x0, vi x1, vi x2, vi x3, vi x4, vi fg5_1, w6_2, vi (own_nt x0), vr s8_2, vr s9_2, vr sA_2, w11_2, w12_2, w13_2, vr rr2, vr b178, vi (Int32.ofNat (((own_u fg5_1 ((own_fst x1) :: (own_tl (own_k x0 1) x1))) ++ [(91 : Int32)]) ++ (own_q (0 : Int32) (own_nt x0) ((own_fst x2) :: (own_tl (own_k x0 4) x2)))).length)] []) (by rw [q191_2]) ?_
          have hl195 : (((own_u fg5_1 ((own_fst x1) :: (own_tl (own_k x0 1) x1))) ++ [(91 : Int32)]) ++ (own_q (0 : Int32) (own_nt x0) ((own_fst x2) :: (own_tl (own_k x0 4) x2)))).length ≤ 6 := by simp only [lA, lN, lC] at *; omega
          refine gjoin (fun vmJ hJ gJ => ∃ (q3196 : List Int32), ∃ (jq3196 : Int32), gJ = (mkF m 277 #[vi x0, vi x1, vi x2, vi x3, vi x4, vi fg5_1, w6_2, vi (own_nt x0), vr s8_2, vr s9_2, vr sA_2, w11_2, w12_2, w13_2, vr rr2, vr b178, vi jq3196] []) ∧ Keep h191 hJ [b178] ∧ CHq Z consts_1 vm191 h191 vmJ hJ ∧ Arv Z hJ b178 k178 .char (15 : Int32) (own_ca 15 q3196) (.int (0 : Int32)) ∧ (q3196 = ((((own_u fg5_1 ((own_fst x1) :: (own_tl (own_k x0 1) x1))) ++ [(91 : Int32)]) ++ (own_q (0 : Int32) (own_nt x0) ((own_fst x2) :: (own_tl (own_k x0 4) x2)))) ++ (own_r (1 : Int32) (own_nt x0) ((own_fst x3) :: (own_tl (own_k x0 5) x3))))) ∧ (jq3196 = Int32.ofNat q3196.length)) 35 255 ?_ ?_
          · rintro vm196 h196 _ ⟨q3196, jq3196, rfl, K196, C196, q196_0, q196_1, q196_2⟩
            have z196 := C196.2.1
            subst q196_1
            refine gat (mkF m 277 #[vi x0, vi x1, vi x2, vi x3, vi x4, vi fg5_1, w6_2, vi (own_nt x0), vr s8_2, vr s9_2, vr sA_2, w11_2, w12_2, w13_2, vr rr2, vr b178, vi (Int32.ofNat ((((own_u fg5_1 ((own_fst x1) :: (own_tl (own_k x0 1) x1))) ++ [(91 : Int32)]) ++ (own_q (0 : Int32) (own_nt x0) ((own_fst x2) :: (own_tl (own_k x0 4) x2)))) ++ (own_r (1 : Int32) (own_nt x0) ((own_fst x3) :: (own_tl (own_k x0 5) x3)))).length)] []) (by rw [q196_2]) ?_
            have hl206 : ((((own_u fg5_1 ((own_fst x1) :: (own_tl (own_k x0 1) x1))) ++ [(91 : Int32)]) ++ (own_q (0 : Int32) (own_nt x0) ((own_fst x2) :: (own_tl (own_k x0 4) x2)))) ++ (own_r (1 : Int32) (own_nt x0) ((own_fst x3) :: (own_tl (own_k x0 5) x3)))).length ≤ 10 := by simp only [lA, lN, lC] at *; omega
            refine gjoin (fun vmJ hJ gJ => ∃ (q4207 : List Int32), ∃ (jq4207 : Int32), gJ = (mkF m 316 #[vi x0, vi x1, vi x2, vi x3, vi x4, vi fg5_1, w6_2, vi (own_nt x0), vr s8_2, vr s9_2, vr sA_2, w11_2, w12_2, w13_2, vr rr2, vr b178, vi jq4207] []) ∧ Keep h196 hJ [b178] ∧ CHq Z consts_1 vm196 h196 vmJ hJ ∧ Arv Z hJ b178 k178 .char (15 : Int32) (own_ca 15 q4207) (.int (0 : Int32)) ∧ (q4207 = (((((own_u fg5_1 ((own_fst x1) :: (own_tl (own_k x0 1) x1))) ++ [(91 : Int32)]) ++ (own_q (0 : Int32) (own_nt x0) ((own_fst x2) :: (own_tl (own_k x0 4) x2)))) ++ (own_r (1 : Int32) (own_nt x0) ((own_fst x3) :: (own_tl (own_k x0 5) x3)))) ++ (own_r (2 : Int32) (own_nt x0) ((own_fst x4) :: (own_tl (own_k x0 6) x4))))) ∧ (jq4207 = Int32.ofNat q4207.length)) 35 255 ?_ ?_
            · rintro vm207 h207 _ ⟨q4207, jq4207, rfl, K207, C207, q207_0, q207_1, q207_2⟩
              have z207 := C207.2.1
              subst q207_1
              refine gat (mkF m 316 #[vi x0, vi x1, vi x2, vi x3, vi x4, vi fg5_1, w6_2, vi (own_nt x0), vr s8_2, vr s9_2, vr sA_2, w11_2, w12_2, w13_2, vr rr2, vr b178, vi (Int32.ofNat (((((own_u fg5_1 ((own_fst x1) :: (own_tl (own_k x0 1) x1))) ++ [(91 : Int32)]) ++ (own_q (0 : Int32) (own_nt x0) ((own_fst x2) :: (own_tl (own_k x0 4) x2)))) ++ (own_r (1 : Int32) (own_nt x0) ((own_fst x3) :: (own_tl (own_k x0 5) x3)))) ++ (own_r (2 : Int32) (own_nt x0) ((own_fst x4) :: (own_tl (own_k x0 6) x4)))).length)] []) (by rw [q207_2]) ?_
              have hl217 : (((((own_u fg5_1 ((own_fst x1) :: (own_tl (own_k x0 1) x1))) ++ [(91 : Int32)]) ++ (own_q (0 : Int32) (own_nt x0) ((own_fst x2) :: (own_tl (own_k x0 4) x2)))) ++ (own_r (1 : Int32) (own_nt x0) ((own_fst x3) :: (own_tl (own_k x0 5) x3)))) ++ (own_r (2 : Int32) (own_nt x0) ((own_fst x4) :: (own_tl (own_k x0 6) x4)))).length ≤ 14 := by simp only [lA, lN, lC] at *; omega
              refine vA 318 at_316 ?_
              refine vI 320 at_318 ?_
              refine vKb 322 (93 : Int32) at_320 ?_
              refine gstC hx q207_0 ⟨nn0 (by omega), (ltOf (b := 15) (by omega) (by omega)).mpr (by omega)⟩ (i := (((((own_u fg5_1 ((own_fst x1) :: (own_tl (own_k x0 1) x1))) ++ [(91 : Int32)]) ++ (own_q (0 : Int32) (own_nt x0) ((own_fst x2) :: (own_tl (own_k x0 4) x2)))) ++ (own_r (1 : Int32) (own_nt x0) ((own_fst x3) :: (own_tl (own_k x0 5) x3)))) ++ (own_r (2 : Int32) (own_nt x0) ((own_fst x4) :: (own_tl (own_k x0 6) x4)))).length) (tn (by omega)) (by rw [own_cal (by omega)]; omega) (y := (93 : Int32)) (by decide) n178 323 (hb hby at_322) rfl ?_
              intro h218 W218 C218 V218
              have z218 := C218.2.1
              have X219 : Arv Z h218 b178 k178 .char (15 : Int32) (own_ca 15 ((((((own_u fg5_1 ((own_fst x1) :: (own_tl (own_k x0 1) x1))) ++ [(91 : Int32)]) ++ (own_q (0 : Int32) (own_nt x0) ((own_fst x2) :: (own_tl (own_k x0 4) x2)))) ++ (own_r (1 : Int32) (own_nt x0) ((own_fst x3) :: (own_tl (own_k x0 5) x3)))) ++ (own_r (2 : Int32) (own_nt x0) ((own_fst x4) :: (own_tl (own_k x0 6) x4)))) ++ [(93 : Int32)])) (.int (0 : Int32)) := Eq.mp (congrArg (fun z => Arv Z h218 b178 k178 .char (15 : Int32) z (.int (0 : Int32))) (own_ca1 (by omega))) V218
              have hl220 : ((((((own_u fg5_1 ((own_fst x1) :: (own_tl (own_k x0 1) x1))) ++ [(91 : Int32)]) ++ (own_q (0 : Int32) (own_nt x0) ((own_fst x2) :: (own_tl (own_k x0 4) x2)))) ++ (own_r (1 : Int32) (own_nt x0) ((own_fst x3) :: (own_tl (own_k x0 5) x3)))) ++ (own_r (2 : Int32) (own_nt x0) ((own_fst x4) :: (own_tl (own_k x0 6) x4)))) ++ [(93 : Int32)]).length ≤ 15 := by simp only [lA, lN, lC] at *; omega
              refine vI 325 at_323 ?_
              refine vKc 326 (1 : Int32) at_325 ?_
              refine viadd 327 ((Int32.ofNat (((((own_u fg5_1 ((own_fst x1) :: (own_tl (own_k x0 1) x1))) ++ [(91 : Int32)]) ++ (own_q (0 : Int32) (own_nt x0) ((own_fst x2) :: (own_tl (own_k x0 4) x2)))) ++ (own_r (1 : Int32) (own_nt x0) ((own_fst x3) :: (own_tl (own_k x0 5) x3)))) ++ (own_r (2 : Int32) (own_nt x0) ((own_fst x4) :: (own_tl (own_k x0 6) x4)))).length) + (1 : Int32)) at_326 ?_
              refine gat (mkF m 327 #[vi x0, vi x1, vi x2, vi x3, vi x4, vi fg5_1, w6_2, vi (own_nt x0), vr s8_2, vr s9_2, vr sA_2, w11_2, w12_2, w13_2, vr rr2, vr b178, vi (Int32.ofNat (((((own_u fg5_1 ((own_fst x1) :: (own_tl (own_k x0 1) x1))) ++ [(91 : Int32)]) ++ (own_q (0 : Int32) (own_nt x0) ((own_fst x2) :: (own_tl (own_k x0 4) x2)))) ++ (own_r (1 : Int32) (own_nt x0) ((own_fst x3) :: (own_tl (own_k x0 5) x3)))) ++ (own_r (2 : Int32) (own_nt x0) ((own_fst x4) :: (own_tl (own_k x0 6) x4)))).length)] [(.int (Int32.ofNat ((((((own_u fg5_1 ((own_fst x1) :: (own_tl (own_k x0 1) x1))) ++ [(91 : Int32)]) ++ (own_q (0 : Int32) (own_nt x0) ((own_fst x2) :: (own_tl (own_k x0 4) x2)))) ++ (own_r (1 : Int32) (own_nt x0) ((own_fst x3) :: (own_tl (own_k x0 5) x3)))) ++ (own_r (2 : Int32) (own_nt x0) ((own_fst x4) :: (own_tl (own_k x0 6) x4)))) ++ [(93 : Int32)]).length))]) (by rw [own_len1 (c := (93 : Int32)) (by omega)]) ?_
              refine vSI 329 #[vi x0, vi x1, vi x2, vi x3, vi x4, vi fg5_1, w6_2, vi (own_nt x0), vr s8_2, vr s9_2, vr sA_2, w11_2, w12_2, w13_2, vr rr2, vr b178, vi (Int32.ofNat ((((((own_u fg5_1 ((own_fst x1) :: (own_tl (own_k x0 1) x1))) ++ [(91 : Int32)]) ++ (own_q (0 : Int32) (own_nt x0) ((own_fst x2) :: (own_tl (own_k x0 4) x2)))) ++ (own_r (1 : Int32) (own_nt x0) ((own_fst x3) :: (own_tl (own_k x0 5) x3)))) ++ (own_r (2 : Int32) (own_nt x0) ((own_fst x4) :: (own_tl (own_k x0 6) x4)))) ++ [(93 : Int32)]).length)] at_327 ?_
              have X221 : Arv Z h218 b178 k178 .char (15 : Int32) (own_ca 15 es2) (.int (0 : Int32)) := Eq.mp (congrArg (fun z => Arv Z h218 b178 k178 .char (15 : Int32) (own_ca 15 z) (.int (0 : Int32))) q2_5.symm) X219
              refine gat (mkF m 329 #[vi x0, vi x1, vi x2, vi x3, vi x4, vi fg5_1, w6_2, vi (own_nt x0), vr s8_2, vr s9_2, vr sA_2, w11_2, w12_2, w13_2, vr rr2, vr b178, vi (Int32.ofNat es2.length)] []) (by rw [← q2_5]) ?_
              refine vA 331 at_329 ?_
              have f223 := (((((((q2_3.ext E178).keep K180 nL nL).other W188 (Nat.ne_of_lt (by omega)) (Nat.ne_of_lt (by omega))).keep K191 nL nL).keep K196 nL nL).keep K207 nL nL).other W218 (Nat.ne_of_lt (by omega)) (Nat.ne_of_lt (by omega)))
              refine gmV (y := mn67) (z := mn67) (oz hw 309) (oz hw 174) (nfSel (oz hw 176)) (oz hw 176) (oz hw 175) (oz hw 177) (oz hw 6) (fun O => own_slen cx rr2 rt2 es2 vm207 h218 O f223) 334 (argsL := []) (rest := []) f223.1 own_pd139 at_331 ?_
              rintro _ vm222 h222 C222 z222 ⟨rfl, rfl⟩
              refine gat1 ?_
              refine vI 336 at_334 ?_
              refine vNc 339 at_336 (teq rfl).2 ?_
              refine vA 341 at_339 ?_
              refine vA 343 at_341 ?_
              refine vI 345 at_343 ?_
              refine vKc 346 (0 : Int32) at_345 ?_
              refine gmS (y := mn1059) (oz hw 310) (oz hw 311) (oz hw 312) (oz hw 2) (fun O => own_at cx rr2 rt2 b178 k178 es2 0 vm222 h218 O f223 X221 hTL (by decide)) 349 (argsL := [(.ref rr2), (.ref b178), (.int (Int32.ofNat es2.length)), (.int (0 : Int32))]) (rest := []) own_pd1064 at_346 ?_
              rintro _ vm224 h224 C224 z224 ⟨rfl, rfl⟩
              refine gat1 ?_
              refine vN 352 at_349 ((if0 _ _).trans (feq (by decide)).1) ?_
              refine vA 354 at_352 ?_
              refine vA 356 at_354 ?_
              refine vI 358 at_356 ?_
              refine vKc 359 (1 : Int32) at_358 ?_
              refine gmS (y := mn1059) (oz hw 310) (oz hw 311) (oz hw 312) (oz hw 2) (fun O => own_at cx rr2 rt2 b178 k178 es2 1 vm224 h218 O f223 X221 hTL (by decide)) 362 (argsL := [(.ref rr2), (.ref b178), (.int (Int32.ofNat es2.length)), (.int (1 : Int32))]) (rest := []) own_pd1064 at_359 ?_
              rintro _ vm225 h225 C225 z225 ⟨rfl, rfl⟩
              refine gat1 ?_
              refine vN 365 at_362 ((if0 _ _).trans (feq (by decide)).1) ?_
              refine vA 367 at_365 ?_
              refine vA 369 at_367 ?_
              refine vI 371 at_369 ?_
              refine vKc 372 (2 : Int32) at_371 ?_
              refine gmS (y := mn1059) (oz hw 310) (oz hw 311) (oz hw 312) (oz hw 2) (fun O => own_at cx rr2 rt2 b178 k178 es2 2 vm225 h218 O f223 X221 hTL (by decide)) 375 (argsL := [(.ref rr2), (.ref b178), (.int (Int32.ofNat es2.length)), (.int (2 : Int32))]) (rest := []) own_pd1064 at_372 ?_
              rintro _ vm226 h226 C226 z226 ⟨rfl, rfl⟩
              refine gat1 ?_
              refine vN 378 at_375 ((if0 _ _).trans (feq (by decide)).1) ?_
              refine vA 380 at_378 ?_
              refine vA 382 at_380 ?_
              refine vI 384 at_382 ?_
              refine vKc 385 (3 : Int32) at_384 ?_
              refine gmS (y := mn1059) (oz hw 310) (oz hw 311) (oz hw 312) (oz hw 2) (fun O => own_at cx rr2 rt2 b178 k178 es2 3 vm226 h218 O f223 X221 hTL (by decide)) 388 (argsL := [(.ref rr2), (.ref b178), (.int (Int32.ofNat es2.length)), (.int (3 : Int32))]) (rest := []) own_pd1064 at_385 ?_
              rintro _ vm227 h227 C227 z227 ⟨rfl, rfl⟩
              refine gat1 ?_
              refine vN 391 at_388 ((if0 _ _).trans (feq (by decide)).1) ?_
              refine vA 393 at_391 ?_
              refine vA 395 at_393 ?_
              refine vI 397 at_395 ?_
              refine vKc 398 (4 : Int32) at_397 ?_
              refine gmS (y := mn1059) (oz hw 310) (oz hw 311) (oz hw 312) (oz hw 2) (fun O => own_at cx rr2 rt2 b178 k178 es2 4 vm227 h218 O f223 X221 hTL (by decide)) 401 (argsL := [(.ref rr2), (.ref b178), (.int (Int32.ofNat es2.length)), (.int (4 : Int32))]) (rest := []) own_pd1064 at_398 ?_
              rintro _ vm228 h228 C228 z228 ⟨rfl, rfl⟩
              refine gat1 ?_
              refine vN 404 at_401 ((if0 _ _).trans (feq (by decide)).1) ?_
              refine vA 406 at_404 ?_
              refine vA 408 at_406 ?_
              refine vI 410 at_408 ?_
              refine vKc 411 (5 : Int32) at_410 ?_
              refine gmS (y := mn1059) (oz hw 310) (oz hw 311) (oz hw 312) (oz hw 2) (fun O => own_at cx rr2 rt2 b178 k178 es2 5 vm228 h218 O f223 X221 hTL (by decide)) 414 (argsL := [(.ref rr2), (.ref b178), (.int (Int32.ofNat es2.length)), (.int (5 : Int32))]) (rest := []) own_pd1064 at_411 ?_
              rintro _ vm229 h229 C229 z229 ⟨rfl, rfl⟩
              refine gat1 ?_
              refine vN 417 at_414 ((if0 _ _).trans (feq (by decide)).1) ?_
              refine vA 419 at_417 ?_
              refine vA 421 at_419 ?_
              refine vI 423 at_421 ?_
              refine vKb 425 (6 : Int32) at_423 ?_
              refine gmS (y := mn1059) (oz hw 310) (oz hw 311) (oz hw 312) (oz hw 2) (fun O => own_at cx rr2 rt2 b178 k178 es2 6 vm229 h218 O f223 X221 hTL (by decide)) 428 (argsL := [(.ref rr2), (.ref b178), (.int (Int32.ofNat es2.length)), (.int (6 : Int32))]) (rest := []) own_pd1064 at_425 ?_
              rintro _ vm230 h230 C230 z230 ⟨rfl, rfl⟩
              refine gat1 ?_
              refine vN 431 at_428 ((if0 _ _).trans (feq (by decide)).1) ?_
              refine vA 433 at_431 ?_
              refine vA 435 at_433 ?_
              refine vI 437 at_435 ?_
              refine vKb 439 (7 : Int32) at_437 ?_
              refine gmS (y := mn1059) (oz hw 310) (oz hw 311) (oz hw 312) (oz hw 2) (fun O => own_at cx rr2 rt2 b178 k178 es2 7 vm230 h218 O f223 X221 hTL (by decide)) 442 (argsL := [(.ref rr2), (.ref b178), (.int (Int32.ofNat es2.length)), (.int (7 : Int32))]) (rest := []) own_pd1064 at_439 ?_
              rintro _ vm231 h231 C231 z231 ⟨rfl, rfl⟩
              refine gat1 ?_
              refine vN 445 at_442 ((if0 _ _).trans (feq (by decide)).1) ?_
              refine vA 447 at_445 ?_
              refine vA 449 at_447 ?_
              refine vI 451 at_449 ?_
              refine vKb 453 (8 : Int32) at_451 ?_
              refine gmS (y := mn1059) (oz hw 310) (oz hw 311) (oz hw 312) (oz hw 2) (fun O => own_at cx rr2 rt2 b178 k178 es2 8 vm231 h218 O f223 X221 hTL (by decide)) 456 (argsL := [(.ref rr2), (.ref b178), (.int (Int32.ofNat es2.length)), (.int (8 : Int32))]) (rest := []) own_pd1064 at_453 ?_
              rintro _ vm232 h232 C232 z232 ⟨rfl, rfl⟩
              refine gat1 ?_
              refine vN 459 at_456 ((if0 _ _).trans (feq (by decide)).1) ?_
              refine vA 461 at_459 ?_
              refine vA 463 at_461 ?_
              refine vI 465 at_463 ?_
              refine vKb 467 (9 : Int32) at_465 ?_
              refine gmS (y := mn1059) (oz hw 310) (oz hw 311) (oz hw 312) (oz hw 2) (fun O => own_at cx rr2 rt2 b178 k178 es2 9 vm232 h218 O f223 X221 hTL (by decide)) 470 (argsL := [(.ref rr2), (.ref b178), (.int (Int32.ofNat es2.length)), (.int (9 : Int32))]) (rest := []) own_pd1064 at_467 ?_
              rintro _ vm233 h233 C233 z233 ⟨rfl, rfl⟩
              refine gat1 ?_
              refine vN 473 at_470 ((if0 _ _).trans (feq (by decide)).1) ?_
              refine vA 475 at_473 ?_
              refine vA 477 at_475 ?_
              refine vI 479 at_477 ?_
              refine vKb 481 (10 : Int32) at_479 ?_
              refine gmS (y := mn1059) (oz hw 310) (oz hw 311) (oz hw 312) (oz hw 2) (fun O => own_at cx rr2 rt2 b178 k178 es2 10 vm233 h218 O f223 X221 hTL (by decide)) 484 (argsL := [(.ref rr2), (.ref b178), (.int (Int32.ofNat es2.length)), (.int (10 : Int32))]) (rest := []) own_pd1064 at_481 ?_
              rintro _ vm234 h234 C234 z234 ⟨rfl, rfl⟩
              refine gat1 ?_
              refine vN 487 at_484 ((if0 _ _).trans (feq (by decide)).1) ?_
              refine vA 489 at_487 ?_
              refine vA 491 at_489 ?_
              refine vI 493 at_491 ?_
              refine vKb 495 (11 : Int32) at_493 ?_
              refine gmS (y := mn1059) (oz hw 310) (oz hw 311) (oz hw 312) (oz hw 2) (fun O => own_at cx rr2 rt2 b178 k178 es2 11 vm234 h218 O f223 X221 hTL (by decide)) 498 (argsL := [(.ref rr2), (.ref b178), (.int (Int32.ofNat es2.length)), (.int (11 : Int32))]) (rest := []) own_pd1064 at_495 ?_
              rintro _ vm235 h235 C235 z235 ⟨rfl, rfl⟩
              refine gat1 ?_
              refine vN 501 at_498 ((if0 _ _).trans (feq (by decide)).1) ?_
              refine vA 503 at_501 ?_
              refine vA 505 at_503 ?_
              refine vI 507 at_505 ?_
              refine vKb 509 (12 : Int32) at_507 ?_
              refine gmS (y := mn1059) (oz hw 310) (oz hw 311) (oz hw 312) (oz hw 2) (fun O => own_at cx rr2 rt2 b178 k178 es2 12 vm235 h218 O f223 X221 hTL (by decide)) 512 (argsL := [(.ref rr2), (.ref b178), (.int (Int32.ofNat es2.length)), (.int (12 : Int32))]) (rest := []) own_pd1064 at_509 ?_
              rintro _ vm236 h236 C236 z236 ⟨rfl, rfl⟩
              refine gat1 ?_
              refine vN 515 at_512 ((if0 _ _).trans (feq (by decide)).1) ?_
              refine vA 517 at_515 ?_
              refine vA 519 at_517 ?_
              refine vI 521 at_519 ?_
              refine vKb 523 (13 : Int32) at_521 ?_
              refine gmS (y := mn1059) (oz hw 310) (oz hw 311) (oz hw 312) (oz hw 2) (fun O => own_at cx rr2 rt2 b178 k178 es2 13 vm236 h218 O f223 X221 hTL (by decide)) 526 (argsL := [(.ref rr2), (.ref b178), (.int (Int32.ofNat es2.length)), (.int (13 : Int32))]) (rest := []) own_pd1064 at_523 ?_
              rintro _ vm237 h237 C237 z237 ⟨rfl, rfl⟩
              refine gat1 ?_
              refine vN 529 at_526 ((if0 _ _).trans (feq (by decide)).1) ?_
              refine vA 531 at_529 ?_
              refine vA 533 at_531 ?_
              refine vI 535 at_533 ?_
              refine vKb 537 (14 : Int32) at_535 ?_
              refine gmS (y := mn1059) (oz hw 310) (oz hw 311) (oz hw 312) (oz hw 2) (fun O => own_at cx rr2 rt2 b178 k178 es2 14 vm237 h218 O f223 X221 hTL (by decide)) 540 (argsL := [(.ref rr2), (.ref b178), (.int (Int32.ofNat es2.length)), (.int (14 : Int32))]) (rest := []) own_pd1064 at_537 ?_
              rintro _ vm238 h238 C238 z238 ⟨rfl, rfl⟩
              refine gat1 ?_
              refine vN 543 at_540 ((if0 _ _).trans (feq (by decide)).1) ?_
              refine vKc 544 (1 : Int32) at_543 ?_
              refine vG 548 at_544 ?_
              exact gretN (t := .boolean) hx hret (by simp) (hb hby at_548) (by decide) (by decide) (fun vq Cq => ⟨rfl, ((((((((((Keep.refl h0 []).trans K1 all0).trans K2 all0).ext E178).trans K180 (allS (Or.inr (by omega)) all0)).wr W188 (Or.inr (by omega))).trans K191 (allS (Or.inr (by omega)) all0)).trans K196 (allS (Or.inr (by omega)) all0)).trans K207 (allS (Or.inr (by omega)) all0)).wr W218 (Or.inr (by omega)))⟩)
            · intro J207
              refine vI 279 at_277 ?_
              refine vKc 280 (2 : Int32) at_279 ?_
              by_cases g2 : (2 : Int32) < (own_nt x0)
              · refine vNc 283 at_280 (tlt g2).2.2.2 ?_
                refine vA 285 at_283 ?_
                refine vI 287 at_285 ?_
                refine vKb 289 (44 : Int32) at_287 ?_
                refine gstC hx q196_0 ⟨nn0 (by omega), (ltOf (b := 15) (by omega) (by omega)).mpr (by omega)⟩ (i := ((((own_u fg5_1 ((own_fst x1) :: (own_tl (own_k x0 1) x1))) ++ [(91 : Int32)]) ++ (own_q (0 : Int32) (own_nt x0) ((own_fst x2) :: (own_tl (own_k x0 4) x2)))) ++ (own_r (1 : Int32) (own_nt x0) ((own_fst x3) :: (own_tl (own_k x0 5) x3)))).length) (tn (by omega)) (by rw [own_cal (by omega)]; omega) (y := (44 : Int32)) (by decide) n178 290 (hb hby at_289) rfl ?_
                intro h208 W208 C208 V208
                have z208 := C208.2.1
                have X209 : Arv Z h208 b178 k178 .char (15 : Int32) (own_ca 15 (((((own_u fg5_1 ((own_fst x1) :: (own_tl (own_k x0 1) x1))) ++ [(91 : Int32)]) ++ (own_q (0 : Int32) (own_nt x0) ((own_fst x2) :: (own_tl (own_k x0 4) x2)))) ++ (own_r (1 : Int32) (own_nt x0) ((own_fst x3) :: (own_tl (own_k x0 5) x3)))) ++ [(44 : Int32)])) (.int (0 : Int32)) := Eq.mp (congrArg (fun z => Arv Z h208 b178 k178 .char (15 : Int32) z (.int (0 : Int32))) (own_ca1 (by omega))) V208
                have hl210 : (((((own_u fg5_1 ((own_fst x1) :: (own_tl (own_k x0 1) x1))) ++ [(91 : Int32)]) ++ (own_q (0 : Int32) (own_nt x0) ((own_fst x2) :: (own_tl (own_k x0 4) x2)))) ++ (own_r (1 : Int32) (own_nt x0) ((own_fst x3) :: (own_tl (own_k x0 5) x3)))) ++ [(44 : Int32)]).length ≤ 11 := by simp only [lA, lN, lC] at *; omega
                refine vA 292 at_290 ?_
                refine vI 294 at_292 ?_
                refine vKc 295 (1 : Int32) at_294 ?_
                refine viadd 296 ((Int32.ofNat ((((own_u fg5_1 ((own_fst x1) :: (own_tl (own_k x0 1) x1))) ++ [(91 : Int32)]) ++ (own_q (0 : Int32) (own_nt x0) ((own_fst x2) :: (own_tl (own_k x0 4) x2)))) ++ (own_r (1 : Int32) (own_nt x0) ((own_fst x3) :: (own_tl (own_k x0 5) x3)))).length) + (1 : Int32)) at_295 ?_
                refine gat (mkF m 296 #[vi x0, vi x1, vi x2, vi x3, vi x4, vi fg5_1, w6_2, vi (own_nt x0), vr s8_2, vr s9_2, vr sA_2, w11_2, w12_2, w13_2, vr rr2, vr b178, vi (Int32.ofNat ((((own_u fg5_1 ((own_fst x1) :: (own_tl (own_k x0 1) x1))) ++ [(91 : Int32)]) ++ (own_q (0 : Int32) (own_nt x0) ((own_fst x2) :: (own_tl (own_k x0 4) x2)))) ++ (own_r (1 : Int32) (own_nt x0) ((own_fst x3) :: (own_tl (own_k x0 5) x3)))).length)] [(.int (Int32.ofNat (((((own_u fg5_1 ((own_fst x1) :: (own_tl (own_k x0 1) x1))) ++ [(91 : Int32)]) ++ (own_q (0 : Int32) (own_nt x0) ((own_fst x2) :: (own_tl (own_k x0 4) x2)))) ++ (own_r (1 : Int32) (own_nt x0) ((own_fst x3) :: (own_tl (own_k x0 5) x3)))) ++ [(44 : Int32)]).length)), (.ref b178)]) (by rw [own_len1 (c := (44 : Int32)) (by omega)]) ?_
                refine vKb 298 (32 : Int32) at_296 ?_
                refine gstC hx X209 ⟨nn0 (by omega), (ltOf (b := 15) (by omega) (by omega)).mpr (by omega)⟩ (i := (((((own_u fg5_1 ((own_fst x1) :: (own_tl (own_k x0 1) x1))) ++ [(91 : Int32)]) ++ (own_q (0 : Int32) (own_nt x0) ((own_fst x2) :: (own_tl (own_k x0 4) x2)))) ++ (own_r (1 : Int32) (own_nt x0) ((own_fst x3) :: (own_tl (own_k x0 5) x3)))) ++ [(44 : Int32)]).length) (tn (by omega)) (by rw [own_cal (by omega)]; omega) (y := (32 : Int32)) (by decide) n178 299 (hb hby at_298) rfl ?_
                intro h211 W211 C211 V211
                have z211 := C211.2.1
                have X212 : Arv Z h211 b178 k178 .char (15 : Int32) (own_ca 15 ((((((own_u fg5_1 ((own_fst x1) :: (own_tl (own_k x0 1) x1))) ++ [(91 : Int32)]) ++ (own_q (0 : Int32) (own_nt x0) ((own_fst x2) :: (own_tl (own_k x0 4) x2)))) ++ (own_r (1 : Int32) (own_nt x0) ((own_fst x3) :: (own_tl (own_k x0 5) x3)))) ++ [(44 : Int32)]) ++ [(32 : Int32)])) (.int (0 : Int32)) := Eq.mp (congrArg (fun z => Arv Z h211 b178 k178 .char (15 : Int32) z (.int (0 : Int32))) (own_ca1 (by omega))) V211
                have hl213 : ((((((own_u fg5_1 ((own_fst x1) :: (own_tl (own_k x0 1) x1))) ++ [(91 : Int32)]) ++ (own_q (0 : Int32) (own_nt x0) ((own_fst x2) :: (own_tl (own_k x0 4) x2)))) ++ (own_r (1 : Int32) (own_nt x0) ((own_fst x3) :: (own_tl (own_k x0 5) x3)))) ++ [(44 : Int32)]) ++ [(32 : Int32)]).length ≤ 12 := by simp only [lA, lN, lC] at *; omega
                refine vI 301 at_299 ?_
                refine vKc 302 (2 : Int32) at_301 ?_
                refine viadd 303 ((Int32.ofNat ((((own_u fg5_1 ((own_fst x1) :: (own_tl (own_k x0 1) x1))) ++ [(91 : Int32)]) ++ (own_q (0 : Int32) (own_nt x0) ((own_fst x2) :: (own_tl (own_k x0 4) x2)))) ++ (own_r (1 : Int32) (own_nt x0) ((own_fst x3) :: (own_tl (own_k x0 5) x3)))).length) + (2 : Int32)) at_302 ?_
                refine gat (mkF m 303 #[vi x0, vi x1, vi x2, vi x3, vi x4, vi fg5_1, w6_2, vi (own_nt x0), vr s8_2, vr s9_2, vr sA_2, w11_2, w12_2, w13_2, vr rr2, vr b178, vi (Int32.ofNat ((((own_u fg5_1 ((own_fst x1) :: (own_tl (own_k x0 1) x1))) ++ [(91 : Int32)]) ++ (own_q (0 : Int32) (own_nt x0) ((own_fst x2) :: (own_tl (own_k x0 4) x2)))) ++ (own_r (1 : Int32) (own_nt x0) ((own_fst x3) :: (own_tl (own_k x0 5) x3)))).length)] [(.int (Int32.ofNat ((((((own_u fg5_1 ((own_fst x1) :: (own_tl (own_k x0 1) x1))) ++ [(91 : Int32)]) ++ (own_q (0 : Int32) (own_nt x0) ((own_fst x2) :: (own_tl (own_k x0 4) x2)))) ++ (own_r (1 : Int32) (own_nt x0) ((own_fst x3) :: (own_tl (own_k x0 5) x3)))) ++ [(44 : Int32)]) ++ [(32 : Int32)]).length))]) (by rw [own_len2 (c := (44 : Int32)) (d := (32 : Int32)) (by omega)]) ?_
                refine vSI 305 #[vi x0, vi x1, vi x2, vi x3, vi x4, vi fg5_1, w6_2, vi (own_nt x0), vr s8_2, vr s9_2, vr sA_2, w11_2, w12_2, w13_2, vr rr2, vr b178, vi (Int32.ofNat ((((((own_u fg5_1 ((own_fst x1) :: (own_tl (own_k x0 1) x1))) ++ [(91 : Int32)]) ++ (own_q (0 : Int32) (own_nt x0) ((own_fst x2) :: (own_tl (own_k x0 4) x2)))) ++ (own_r (1 : Int32) (own_nt x0) ((own_fst x3) :: (own_tl (own_k x0 5) x3)))) ++ [(44 : Int32)]) ++ [(32 : Int32)]).length)] at_303 ?_
                refine vA 307 at_305 ?_
                refine vI 309 at_307 ?_
                refine vA 311 at_309 ?_
                have f215 := (((((((q2_2.ext E178).keep K180 nL nL).other W188 (Nat.ne_of_lt (by omega)) (Nat.ne_of_lt (by omega))).keep K191 nL nL).keep K196 nL nL).other W208 (Nat.ne_of_lt (by omega)) (Nat.ne_of_lt (by omega))).other W211 (Nat.ne_of_lt (by omega)) (Nat.ne_of_lt (by omega)))
                refine gmS (y := mn1045) (oz hw 366) (oz hw 367) (oz hw 368) (oz hw 2) (fun O => own_put cx b178 k178 (((((((own_u fg5_1 ((own_fst x1) :: (own_tl (own_k x0 1) x1))) ++ [(91 : Int32)]) ++ (own_q (0 : Int32) (own_nt x0) ((own_fst x2) :: (own_tl (own_k x0 4) x2)))) ++ (own_r (1 : Int32) (own_nt x0) ((own_fst x3) :: (own_tl (own_k x0 5) x3)))) ++ [(44 : Int32)]) ++ [(32 : Int32)])) sA_2 tA_2 ((own_k x0 6)) x4 vm196 h211 O X212 f215 n178 (by first | decide | omega) (Nat.ne_of_gt (by omega)) (Nat.ne_of_gt (by omega))) 314 (argsL := [(.ref b178), (.int (Int32.ofNat ((((((own_u fg5_1 ((own_fst x1) :: (own_tl (own_k x0 1) x1))) ++ [(91 : Int32)]) ++ (own_q (0 : Int32) (own_nt x0) ((own_fst x2) :: (own_tl (own_k x0 4) x2)))) ++ (own_r (1 : Int32) (own_nt x0) ((own_fst x3) :: (own_tl (own_k x0 5) x3)))) ++ [(44 : Int32)]) ++ [(32 : Int32)]).length)), (.ref sA_2)]) (rest := []) own_pd1063 at_311 ?_
                rintro _ vm214 h214 C214 z214 ⟨rfl, K214, q214_0⟩
                refine gat1 ?_
                have hl216 : (((((((own_u fg5_1 ((own_fst x1) :: (own_tl (own_k x0 1) x1))) ++ [(91 : Int32)]) ++ (own_q (0 : Int32) (own_nt x0) ((own_fst x2) :: (own_tl (own_k x0 4) x2)))) ++ (own_r (1 : Int32) (own_nt x0) ((own_fst x3) :: (own_tl (own_k x0 5) x3)))) ++ [(44 : Int32)]) ++ [(32 : Int32)]) ++ ((own_fst x4) :: (own_tl (own_k x0 6) x4))).length ≤ 14 := by simp only [lA, lN, lC] at *; omega
                refine vSI 316 #[vi x0, vi x1, vi x2, vi x3, vi x4, vi fg5_1, w6_2, vi (own_nt x0), vr s8_2, vr s9_2, vr sA_2, w11_2, w12_2, w13_2, vr rr2, vr b178, vi (Int32.ofNat (((((((own_u fg5_1 ((own_fst x1) :: (own_tl (own_k x0 1) x1))) ++ [(91 : Int32)]) ++ (own_q (0 : Int32) (own_nt x0) ((own_fst x2) :: (own_tl (own_k x0 4) x2)))) ++ (own_r (1 : Int32) (own_nt x0) ((own_fst x3) :: (own_tl (own_k x0 5) x3)))) ++ [(44 : Int32)]) ++ [(32 : Int32)]) ++ ((own_fst x4) :: (own_tl (own_k x0 6) x4))).length)] at_314 ?_
                exact gmono (by decide) (by decide) (J207 _ _ _ ⟨(((((((own_u fg5_1 ((own_fst x1) :: (own_tl (own_k x0 1) x1))) ++ [(91 : Int32)]) ++ (own_q (0 : Int32) (own_nt x0) ((own_fst x2) :: (own_tl (own_k x0 4) x2)))) ++ (own_r (1 : Int32) (own_nt x0) ((own_fst x3) :: (own_tl (own_k x0 5) x3)))) ++ [(44 : Int32)]) ++ [(32 : Int32)]) ++ ((own_fst x4) :: (own_tl (own_k x0 6) x4))), (Int32.ofNat (((((((own_u fg5_1 ((own_fst x1) :: (own_tl (own_k x0 1) x1))) ++ [(91 : Int32)]) ++ (own_q (0 : Int32) (own_nt x0) ((own_fst x2) :: (own_tl (own_k x0 4) x2)))) ++ (own_r (1 : Int32) (own_nt x0) ((own_fst x3) :: (own_tl (own_k x0 5) x3)))) ++ [(44 : Int32)]) ++ [(32 : Int32)]) ++ ((own_fst x4) :: (own_tl (own_k x0 6) x4))).length), rfl, ((((Keep.refl h196 [b178]).wr W208 (Or.inl (List.mem_of_getElem? (i := 0) rfl))).wr W211 (Or.inl (List.mem_of_getElem? (i := 0) rfl))).trans K214 (allS (Or.inl (List.mem_of_getElem? (i := 0) rfl)) all0)), ((C208.trans C211).trans C214), q214_0, (by rw [own_rp g2]; simp), rfl⟩)
              · refine vYc 316 at_280 (flt g2).2.2.2 ?_
                refine ginfo fun _ Hq _ => ?_
                exact gmono (by decide) (by decide) (J207 _ _ _ ⟨((((own_u fg5_1 ((own_fst x1) :: (own_tl (own_k x0 1) x1))) ++ [(91 : Int32)]) ++ (own_q (0 : Int32) (own_nt x0) ((own_fst x2) :: (own_tl (own_k x0 4) x2)))) ++ (own_r (1 : Int32) (own_nt x0) ((own_fst x3) :: (own_tl (own_k x0 5) x3)))), (Int32.ofNat ((((own_u fg5_1 ((own_fst x1) :: (own_tl (own_k x0 1) x1))) ++ [(91 : Int32)]) ++ (own_q (0 : Int32) (own_nt x0) ((own_fst x2) :: (own_tl (own_k x0 4) x2)))) ++ (own_r (1 : Int32) (own_nt x0) ((own_fst x3) :: (own_tl (own_k x0 5) x3)))).length), rfl, (Keep.refl h196 [b178]), (CHq.refl Hq), q196_0, (by rw [own_rn g2, List.append_nil]), rfl⟩)
          · intro J196
            refine vI 240 at_238 ?_
            refine vKc 241 (1 : Int32) at_240 ?_
            by_cases g1 : (1 : Int32) < (own_nt x0)
            · refine vNc 244 at_241 (tlt g1).2.2.2 ?_
              refine vA 246 at_244 ?_
              refine vI 248 at_246 ?_
              refine vKb 250 (44 : Int32) at_248 ?_
              refine gstC hx q191_0 ⟨nn0 (by omega), (ltOf (b := 15) (by omega) (by omega)).mpr (by omega)⟩ (i := (((own_u fg5_1 ((own_fst x1) :: (own_tl (own_k x0 1) x1))) ++ [(91 : Int32)]) ++ (own_q (0 : Int32) (own_nt x0) ((own_fst x2) :: (own_tl (own_k x0 4) x2)))).length) (tn (by omega)) (by rw [own_cal (by omega)]; omega) (y := (44 : Int32)) (by decide) n178 251 (hb hby at_250) rfl ?_
              intro h197 W197 C197 V197
              have z197 := C197.2.1
              have X198 : Arv Z h197 b178 k178 .char (15 : Int32) (own_ca 15 ((((own_u fg5_1 ((own_fst x1) :: (own_tl (own_k x0 1) x1))) ++ [(91 : Int32)]) ++ (own_q (0 : Int32) (own_nt x0) ((own_fst x2) :: (own_tl (own_k x0 4) x2)))) ++ [(44 : Int32)])) (.int (0 : Int32)) := Eq.mp (congrArg (fun z => Arv Z h197 b178 k178 .char (15 : Int32) z (.int (0 : Int32))) (own_ca1 (by omega))) V197
              have hl199 : ((((own_u fg5_1 ((own_fst x1) :: (own_tl (own_k x0 1) x1))) ++ [(91 : Int32)]) ++ (own_q (0 : Int32) (own_nt x0) ((own_fst x2) :: (own_tl (own_k x0 4) x2)))) ++ [(44 : Int32)]).length ≤ 7 := by simp only [lA, lN, lC] at *; omega
              refine vA 253 at_251 ?_
              refine vI 255 at_253 ?_
              refine vKc 256 (1 : Int32) at_255 ?_
              refine viadd 257 ((Int32.ofNat (((own_u fg5_1 ((own_fst x1) :: (own_tl (own_k x0 1) x1))) ++ [(91 : Int32)]) ++ (own_q (0 : Int32) (own_nt x0) ((own_fst x2) :: (own_tl (own_k x0 4) x2)))).length) + (1 : Int32)) at_256 ?_
              refine gat (mkF m 257 #[vi x0, vi x1, vi x2, vi x3, vi x4, vi fg5_1, w6_2, vi (own_nt x0), vr s8_2, vr s9_2, vr sA_2, w11_2, w12_2, w13_2, vr rr2, vr b178, vi (Int32.ofNat (((own_u fg5_1 ((own_fst x1) :: (own_tl (own_k x0 1) x1))) ++ [(91 : Int32)]) ++ (own_q (0 : Int32) (own_nt x0) ((own_fst x2) :: (own_tl (own_k x0 4) x2)))).length)] [(.int (Int32.ofNat ((((own_u fg5_1 ((own_fst x1) :: (own_tl (own_k x0 1) x1))) ++ [(91 : Int32)]) ++ (own_q (0 : Int32) (own_nt x0) ((own_fst x2) :: (own_tl (own_k x0 4) x2)))) ++ [(44 : Int32)]).length)), (.ref b178)]) (by rw [own_len1 (c := (44 : Int32)) (by omega)]) ?_
              refine vKb 259 (32 : Int32) at_257 ?_
              refine gstC hx X198 ⟨nn0 (by omega), (ltOf (b := 15) (by omega) (by omega)).mpr (by omega)⟩ (i := ((((own_u fg5_1 ((own_fst x1) :: (own_tl (own_k x0 1) x1))) ++ [(91 : Int32)]) ++ (own_q (0 : Int32) (own_nt x0) ((own_fst x2) :: (own_tl (own_k x0 4) x2)))) ++ [(44 : Int32)]).length) (tn (by omega)) (by rw [own_cal (by omega)]; omega) (y := (32 : Int32)) (by decide) n178 260 (hb hby at_259) rfl ?_
              intro h200 W200 C200 V200
              have z200 := C200.2.1
              have X201 : Arv Z h200 b178 k178 .char (15 : Int32) (own_ca 15 (((((own_u fg5_1 ((own_fst x1) :: (own_tl (own_k x0 1) x1))) ++ [(91 : Int32)]) ++ (own_q (0 : Int32) (own_nt x0) ((own_fst x2) :: (own_tl (own_k x0 4) x2)))) ++ [(44 : Int32)]) ++ [(32 : Int32)])) (.int (0 : Int32)) := Eq.mp (congrArg (fun z => Arv Z h200 b178 k178 .char (15 : Int32) z (.int (0 : Int32))) (own_ca1 (by omega))) V200
              have hl202 : (((((own_u fg5_1 ((own_fst x1) :: (own_tl (own_k x0 1) x1))) ++ [(91 : Int32)]) ++ (own_q (0 : Int32) (own_nt x0) ((own_fst x2) :: (own_tl (own_k x0 4) x2)))) ++ [(44 : Int32)]) ++ [(32 : Int32)]).length ≤ 8 := by simp only [lA, lN, lC] at *; omega
              refine vI 262 at_260 ?_
              refine vKc 263 (2 : Int32) at_262 ?_
              refine viadd 264 ((Int32.ofNat (((own_u fg5_1 ((own_fst x1) :: (own_tl (own_k x0 1) x1))) ++ [(91 : Int32)]) ++ (own_q (0 : Int32) (own_nt x0) ((own_fst x2) :: (own_tl (own_k x0 4) x2)))).length) + (2 : Int32)) at_263 ?_
              refine gat (mkF m 264 #[vi x0, vi x1, vi x2, vi x3, vi x4, vi fg5_1, w6_2, vi (own_nt x0), vr s8_2, vr s9_2, vr sA_2, w11_2, w12_2, w13_2, vr rr2, vr b178, vi (Int32.ofNat (((own_u fg5_1 ((own_fst x1) :: (own_tl (own_k x0 1) x1))) ++ [(91 : Int32)]) ++ (own_q (0 : Int32) (own_nt x0) ((own_fst x2) :: (own_tl (own_k x0 4) x2)))).length)] [(.int (Int32.ofNat (((((own_u fg5_1 ((own_fst x1) :: (own_tl (own_k x0 1) x1))) ++ [(91 : Int32)]) ++ (own_q (0 : Int32) (own_nt x0) ((own_fst x2) :: (own_tl (own_k x0 4) x2)))) ++ [(44 : Int32)]) ++ [(32 : Int32)]).length))]) (by rw [own_len2 (c := (44 : Int32)) (d := (32 : Int32)) (by omega)]) ?_
              refine vSI 266 #[vi x0, vi x1, vi x2, vi x3, vi x4, vi fg5_1, w6_2, vi (own_nt x0), vr s8_2, vr s9_2, vr sA_2, w11_2, w12_2, w13_2, vr rr2, vr b178, vi (Int32.ofNat (((((own_u fg5_1 ((own_fst x1) :: (own_tl (own_k x0 1) x1))) ++ [(91 : Int32)]) ++ (own_q (0 : Int32) (own_nt x0) ((own_fst x2) :: (own_tl (own_k x0 4) x2)))) ++ [(44 : Int32)]) ++ [(32 : Int32)]).length)] at_264 ?_
              refine vA 268 at_266 ?_
              refine vI 270 at_268 ?_
              refine vA 272 at_270 ?_
              have f204 := ((((((q2_1.ext E178).keep K180 nL nL).other W188 (Nat.ne_of_lt (by omega)) (Nat.ne_of_lt (by omega))).keep K191 nL nL).other W197 (Nat.ne_of_lt (by omega)) (Nat.ne_of_lt (by omega))).other W200 (Nat.ne_of_lt (by omega)) (Nat.ne_of_lt (by omega)))
              refine gmS (y := mn1045) (oz hw 366) (oz hw 367) (oz hw 368) (oz hw 2) (fun O => own_put cx b178 k178 ((((((own_u fg5_1 ((own_fst x1) :: (own_tl (own_k x0 1) x1))) ++ [(91 : Int32)]) ++ (own_q (0 : Int32) (own_nt x0) ((own_fst x2) :: (own_tl (own_k x0 4) x2)))) ++ [(44 : Int32)]) ++ [(32 : Int32)])) s9_2 t9_2 ((own_k x0 5)) x3 vm191 h200 O X201 f204 n178 (by first | decide | omega) (Nat.ne_of_gt (by omega)) (Nat.ne_of_gt (by omega))) 275 (argsL := [(.ref b178), (.int (Int32.ofNat (((((own_u fg5_1 ((own_fst x1) :: (own_tl (own_k x0 1) x1))) ++ [(91 : Int32)]) ++ (own_q (0 : Int32) (own_nt x0) ((own_fst x2) :: (own_tl (own_k x0 4) x2)))) ++ [(44 : Int32)]) ++ [(32 : Int32)]).length)), (.ref s9_2)]) (rest := []) own_pd1063 at_272 ?_
              rintro _ vm203 h203 C203 z203 ⟨rfl, K203, q203_0⟩
              refine gat1 ?_
              have hl205 : ((((((own_u fg5_1 ((own_fst x1) :: (own_tl (own_k x0 1) x1))) ++ [(91 : Int32)]) ++ (own_q (0 : Int32) (own_nt x0) ((own_fst x2) :: (own_tl (own_k x0 4) x2)))) ++ [(44 : Int32)]) ++ [(32 : Int32)]) ++ ((own_fst x3) :: (own_tl (own_k x0 5) x3))).length ≤ 10 := by simp only [lA, lN, lC] at *; omega
              refine vSI 277 #[vi x0, vi x1, vi x2, vi x3, vi x4, vi fg5_1, w6_2, vi (own_nt x0), vr s8_2, vr s9_2, vr sA_2, w11_2, w12_2, w13_2, vr rr2, vr b178, vi (Int32.ofNat ((((((own_u fg5_1 ((own_fst x1) :: (own_tl (own_k x0 1) x1))) ++ [(91 : Int32)]) ++ (own_q (0 : Int32) (own_nt x0) ((own_fst x2) :: (own_tl (own_k x0 4) x2)))) ++ [(44 : Int32)]) ++ [(32 : Int32)]) ++ ((own_fst x3) :: (own_tl (own_k x0 5) x3))).length)] at_275 ?_
              exact gmono (by decide) (by decide) (J196 _ _ _ ⟨((((((own_u fg5_1 ((own_fst x1) :: (own_tl (own_k x0 1) x1))) ++ [(91 : Int32)]) ++ (own_q (0 : Int32) (own_nt x0) ((own_fst x2) :: (own_tl (own_k x0 4) x2)))) ++ [(44 : Int32)]) ++ [(32 : Int32)]) ++ ((own_fst x3) :: (own_tl (own_k x0 5) x3))), (Int32.ofNat ((((((own_u fg5_1 ((own_fst x1) :: (own_tl (own_k x0 1) x1))) ++ [(91 : Int32)]) ++ (own_q (0 : Int32) (own_nt x0) ((own_fst x2) :: (own_tl (own_k x0 4) x2)))) ++ [(44 : Int32)]) ++ [(32 : Int32)]) ++ ((own_fst x3) :: (own_tl (own_k x0 5) x3))).length), rfl, ((((Keep.refl h191 [b178]).wr W197 (Or.inl (List.mem_of_getElem? (i := 0) rfl))).wr W200 (Or.inl (List.mem_of_getElem? (i := 0) rfl))).trans K203 (allS (Or.inl (List.mem_of_getElem? (i := 0) rfl)) all0)), ((C197.trans C200).trans C203), q203_0, (by rw [own_rp g1]; simp), rfl⟩)
            · refine vYc 277 at_241 (flt g1).2.2.2 ?_
              refine ginfo fun _ Hq _ => ?_
              exact gmono (by decide) (by decide) (J196 _ _ _ ⟨(((own_u fg5_1 ((own_fst x1) :: (own_tl (own_k x0 1) x1))) ++ [(91 : Int32)]) ++ (own_q (0 : Int32) (own_nt x0) ((own_fst x2) :: (own_tl (own_k x0 4) x2)))), (Int32.ofNat (((own_u fg5_1 ((own_fst x1) :: (own_tl (own_k x0 1) x1))) ++ [(91 : Int32)]) ++ (own_q (0 : Int32) (own_nt x0) ((own_fst x2) :: (own_tl (own_k x0 4) x2)))).length), rfl, (Keep.refl h191 [b178]), (CHq.refl Hq), q191_0, (by rw [own_rn g1, List.append_nil]), rfl⟩)
        · intro J191
          refine vI 224 at_222 ?_
          by_cases g0 : (0 : Int32) < (own_nt x0)
          · refine vN 227 at_224 ((if0 _ _).trans (tlt g0).2.2.2) ?_
            refine vA 229 at_227 ?_
            refine vI 231 at_229 ?_
            refine vA 233 at_231 ?_
            have f193 := (((q2_0.ext E178).keep K180 nL nL).other W188 (Nat.ne_of_lt (by omega)) (Nat.ne_of_lt (by omega)))
            refine gmS (y := mn1045) (oz hw 366) (oz hw 367) (oz hw 368) (oz hw 2) (fun O => own_put cx b178 k178 (((own_u fg5_1 ((own_fst x1) :: (own_tl (own_k x0 1) x1))) ++ [(91 : Int32)])) s8_2 t8_2 ((own_k x0 4)) x2 vm180 h188 O X189 f193 n178 (by first | decide | omega) (Nat.ne_of_gt (by omega)) (Nat.ne_of_gt (by omega))) 236 (argsL := [(.ref b178), (.int (Int32.ofNat ((own_u fg5_1 ((own_fst x1) :: (own_tl (own_k x0 1) x1))) ++ [(91 : Int32)]).length)), (.ref s8_2)]) (rest := []) own_pd1063 at_233 ?_
            rintro _ vm192 h192 C192 z192 ⟨rfl, K192, q192_0⟩
            refine gat1 ?_
            have hl194 : (((own_u fg5_1 ((own_fst x1) :: (own_tl (own_k x0 1) x1))) ++ [(91 : Int32)]) ++ ((own_fst x2) :: (own_tl (own_k x0 4) x2))).length ≤ 6 := by simp only [lA, lN, lC] at *; omega
            refine vSI 238 #[vi x0, vi x1, vi x2, vi x3, vi x4, vi fg5_1, w6_2, vi (own_nt x0), vr s8_2, vr s9_2, vr sA_2, w11_2, w12_2, w13_2, vr rr2, vr b178, vi (Int32.ofNat (((own_u fg5_1 ((own_fst x1) :: (own_tl (own_k x0 1) x1))) ++ [(91 : Int32)]) ++ ((own_fst x2) :: (own_tl (own_k x0 4) x2))).length)] at_236 ?_
            exact gmono (by decide) (by decide) (J191 _ _ _ ⟨(((own_u fg5_1 ((own_fst x1) :: (own_tl (own_k x0 1) x1))) ++ [(91 : Int32)]) ++ ((own_fst x2) :: (own_tl (own_k x0 4) x2))), (Int32.ofNat (((own_u fg5_1 ((own_fst x1) :: (own_tl (own_k x0 1) x1))) ++ [(91 : Int32)]) ++ ((own_fst x2) :: (own_tl (own_k x0 4) x2))).length), rfl, ((Keep.refl h188 [b178]).trans K192 (allS (Or.inl (List.mem_of_getElem? (i := 0) rfl)) all0)), C192, q192_0, (by rw [own_q, if_pos g0]), rfl⟩)
          · refine vY 238 at_224 ((if0 _ _).trans (flt g0).2.2.2) ?_
            refine ginfo fun _ Hq _ => ?_
            exact gmono (by decide) (by decide) (J191 _ _ _ ⟨((own_u fg5_1 ((own_fst x1) :: (own_tl (own_k x0 1) x1))) ++ [(91 : Int32)]), (Int32.ofNat ((own_u fg5_1 ((own_fst x1) :: (own_tl (own_k x0 1) x1))) ++ [(91 : Int32)]).length), rfl, (Keep.refl h188 [b178]), (CHq.refl Hq), X189, (by rw [own_q, if_neg g0, List.append_nil]), rfl⟩)
      · intro J180
        refine vI 182 at_180 ?_
        by_cases e5 : fg5_1 = (0 : Int32)
        · refine vY 209 at_182 ((if0 _ _).trans (teq e5).1) ?_
          refine ginfo fun _ Hq _ => ?_
          exact gmono (by decide) (by decide) (J180 _ _ _ ⟨([] : List Int32), (Int32.ofNat ([] : List Int32).length), rfl, (Keep.refl h178 [b178]), (CHq.refl Hq), X179, (by rw [own_u, if_pos e5]), rfl⟩)
        · refine vN 185 at_182 ((if0 _ _).trans (feq e5).1) ?_
          have f181 := (q2_4.ext E178)
          obtain ⟨ui, tu, rfl, ⟨lt_ui, lt_tu⟩, Su⟩ := Or.resolve_left f181 e5
          refine vA 187 at_185 ?_
          refine vI 189 at_187 ?_
          refine vA 191 at_189 ?_
          refine gmS (y := mn1045) (oz hw 366) (oz hw 367) (oz hw 368) (oz hw 2) (fun O => own_put cx b178 k178 (([] : List Int32)) ui tu ((own_k x0 1)) x1 vm2 h178 O X179 Su n178 (by first | decide | omega) (Nat.ne_of_gt (by omega)) (Nat.ne_of_gt (by omega))) 194 (argsL := [(.ref b178), (.int (Int32.ofNat ([] : List Int32).length)), (.ref ui)]) (rest := []) own_pd1063 at_191 ?_
          rintro _ vm182 h182 C182 z182 ⟨rfl, K182, q182_0⟩
          refine gat1 ?_
          have hl183 : (([] : List Int32) ++ ((own_fst x1) :: (own_tl (own_k x0 1) x1))).length ≤ 2 := by simp only [lA, lN, lC] at *; omega
          refine vSI 196 #[vi x0, vi x1, vi x2, vi x3, vi x4, vi fg5_1, vr ui, vi (own_nt x0), vr s8_2, vr s9_2, vr sA_2, w11_2, w12_2, w13_2, vr rr2, vr b178, vi (Int32.ofNat (([] : List Int32) ++ ((own_fst x1) :: (own_tl (own_k x0 1) x1))).length)] at_194 ?_
          refine vA 198 at_196 ?_
          refine vI 200 at_198 ?_
          refine vKb 202 (32 : Int32) at_200 ?_
          refine gstC hx q182_0 ⟨nn0 (by omega), (ltOf (b := 15) (by omega) (by omega)).mpr (by omega)⟩ (i := (([] : List Int32) ++ ((own_fst x1) :: (own_tl (own_k x0 1) x1))).length) (tn (by omega)) (by rw [own_cal (by omega)]; omega) (y := (32 : Int32)) (by decide) n178 203 (hb hby at_202) rfl ?_
          intro h184 W184 C184 V184
          have z184 := C184.2.1
          have X185 : Arv Z h184 b178 k178 .char (15 : Int32) (own_ca 15 ((([] : List Int32) ++ ((own_fst x1) :: (own_tl (own_k x0 1) x1))) ++ [(32 : Int32)])) (.int (0 : Int32)) := Eq.mp (congrArg (fun z => Arv Z h184 b178 k178 .char (15 : Int32) z (.int (0 : Int32))) (own_ca1 (by omega))) V184
          have hl186 : ((([] : List Int32) ++ ((own_fst x1) :: (own_tl (own_k x0 1) x1))) ++ [(32 : Int32)]).length ≤ 3 := by simp only [lA, lN, lC] at *; omega
          refine vI 205 at_203 ?_
          refine vKc 206 (1 : Int32) at_205 ?_
          refine viadd 207 ((Int32.ofNat (([] : List Int32) ++ ((own_fst x1) :: (own_tl (own_k x0 1) x1))).length) + (1 : Int32)) at_206 ?_
          refine gat (mkF m 207 #[vi x0, vi x1, vi x2, vi x3, vi x4, vi fg5_1, vr ui, vi (own_nt x0), vr s8_2, vr s9_2, vr sA_2, w11_2, w12_2, w13_2, vr rr2, vr b178, vi (Int32.ofNat (([] : List Int32) ++ ((own_fst x1) :: (own_tl (own_k x0 1) x1))).length)] [(.int (Int32.ofNat ((([] : List Int32) ++ ((own_fst x1) :: (own_tl (own_k x0 1) x1))) ++ [(32 : Int32)]).length))]) (by rw [own_len1 (c := (32 : Int32)) (by omega)]) ?_
          refine vSI 209 #[vi x0, vi x1, vi x2, vi x3, vi x4, vi fg5_1, vr ui, vi (own_nt x0), vr s8_2, vr s9_2, vr sA_2, w11_2, w12_2, w13_2, vr rr2, vr b178, vi (Int32.ofNat ((([] : List Int32) ++ ((own_fst x1) :: (own_tl (own_k x0 1) x1))) ++ [(32 : Int32)]).length)] at_207 ?_
          exact gmono (by decide) (by decide) (J180 _ _ _ ⟨((([] : List Int32) ++ ((own_fst x1) :: (own_tl (own_k x0 1) x1))) ++ [(32 : Int32)]), (Int32.ofNat ((([] : List Int32) ++ ((own_fst x1) :: (own_tl (own_k x0 1) x1))) ++ [(32 : Int32)]).length), rfl, (((Keep.refl h178 [b178]).trans K182 (allS (Or.inl (List.mem_of_getElem? (i := 0) rfl)) all0)).wr W184 (Or.inl (List.mem_of_getElem? (i := 0) rfl))), (C182.trans C184), X185, (by rw [own_u, if_neg e5]; simp), rfl⟩)
    · intro J2
      refine vI 15 at_13 ?_
      by_cases e5 : fg5_1 = (0 : Int32)
      · refine vY 32 at_15 ((if0 _ _).trans (teq e5).1) ?_
        refine vU 33 at_32 ?_
        refine vSA 35 #[vi x0, vi x1, vi x2, vi x3, vi x4, vi fg5_1, .val .null, un, un, un, un, un, un, un, un, un, un] at_33 ?_
        refine vIN 36 at_35 ?_
        refine vKc 37 (2 : Int32) at_36 ?_
        refine gs (mkF m 38 #[vi x0, vi x1, vi x2, vi x3, vi x4, vi fg5_1, .val .null, un, un, un, un, un, un, un, un, un, un] [(.int ((x0.toUInt32 >>> ((2 : Int32) &&& 31).toUInt32).toInt32))]) (fun _ _ A kq => XS.iushr A hx rfl (hb hby at_37) rfl kq) ?_
        refine vKc 39 (3 : Int32) at_38 ?_
        refine viand 40 (((x0.toUInt32 >>> ((2 : Int32) &&& 31).toUInt32).toInt32) &&& (3 : Int32)) at_39 ?_
        refine vSI 42 #[vi x0, vi x1, vi x2, vi x3, vi x4, vi fg5_1, .val .null, vi (((x0.toUInt32 >>> ((2 : Int32) &&& 31).toUInt32).toInt32) &&& (3 : Int32)), un, un, un, un, un, un, un, un, un] at_40 ?_
        refine gat (mkF m 42 #[vi x0, vi x1, vi x2, vi x3, vi x4, vi fg5_1, .val .null, vi (own_nt x0), un, un, un, un, un, un, un, un, un] []) rfl ?_
        refine vIN 43 at_42 ?_
        refine vKc 44 (1 : Int32) at_43 ?_
        refine vIN 45 at_44 ?_
        refine vKc 46 (4 : Int32) at_45 ?_
        refine gs (mkF m 47 #[vi x0, vi x1, vi x2, vi x3, vi x4, vi fg5_1, .val .null, vi (own_nt x0), un, un, un, un, un, un, un, un, un] [(.int ((x0.toUInt32 >>> ((4 : Int32) &&& 31).toUInt32).toInt32)), (.int (1 : Int32)), (.int x2)]) (fun _ _ A kq => XS.iushr A hx rfl (hb hby at_46) rfl kq) ?_
        refine vKc 48 (1 : Int32) at_47 ?_
        refine viand 49 (((x0.toUInt32 >>> ((4 : Int32) &&& 31).toUInt32).toInt32) &&& (1 : Int32)) at_48 ?_
        refine viadd 50 ((1 : Int32) + (((x0.toUInt32 >>> ((4 : Int32) &&& 31).toUInt32).toInt32) &&& (1 : Int32))) at_49 ?_
        refine gat (mkF m 50 #[vi x0, vi x1, vi x2, vi x3, vi x4, vi fg5_1, .val .null, vi (own_nt x0), un, un, un, un, un, un, un, un, un] [(.int (own_k x0 4)), (.int x2)]) rfl ?_
        refine gmS (y := mn831) (oz hw 0) (oz hw 1) (oz hw 3) (oz hw 2) (fun O => own_mk cx x2 ((own_k x0 4)) vm1 h1 O ) 53 (argsL := [(.int x2), (.int (own_k x0 4))]) (rest := []) own_pd1060 at_50 ?_
        rintro _ vm3 h3 C3 z3 ⟨r3, t3, rfl, K3, q3_0, q3_1⟩
        have lt_r3 : h3.size > r3 := q3_1.1.lt
        have lt_t3 : h3.size > t3 := q3_1.tlt
        refine gat1 ?_
        refine vSA 55 #[vi x0, vi x1, vi x2, vi x3, vi x4, vi fg5_1, .val .null, vi (own_nt x0), vr r3, un, un, un, un, un, un, un, un] at_53 ?_
        refine vIN 56 at_55 ?_
        refine vKc 57 (1 : Int32) at_56 ?_
        refine vIN 58 at_57 ?_
        refine vKc 59 (5 : Int32) at_58 ?_
        refine gs (mkF m 60 #[vi x0, vi x1, vi x2, vi x3, vi x4, vi fg5_1, .val .null, vi (own_nt x0), vr r3, un, un, un, un, un, un, un, un] [(.int ((x0.toUInt32 >>> ((5 : Int32) &&& 31).toUInt32).toInt32)), (.int (1 : Int32)), (.int x3)]) (fun _ _ A kq => XS.iushr A hx rfl (hb hby at_59) rfl kq) ?_
        refine vKc 61 (1 : Int32) at_60 ?_
        refine viand 62 (((x0.toUInt32 >>> ((5 : Int32) &&& 31).toUInt32).toInt32) &&& (1 : Int32)) at_61 ?_
        refine viadd 63 ((1 : Int32) + (((x0.toUInt32 >>> ((5 : Int32) &&& 31).toUInt32).toInt32) &&& (1 : Int32))) at_62 ?_
        refine gat (mkF m 63 #[vi x0, vi x1, vi x2, vi x3, vi x4, vi fg5_1, .val .null, vi (own_nt x0), vr r3, un, un, un, un, un, un, un, un] [(.int (own_k x0 5)), (.int x3)]) rfl ?_
        refine gmS (y := mn831) (oz hw 0) (oz hw 1) (oz hw 3) (oz hw 2) (fun O => own_mk cx x3 ((own_k x0 5)) vm3 h3 O ) 66 (argsL := [(.int x3), (.int (own_k x0 5))]) (rest := []) own_pd1060 at_63 ?_
        rintro _ vm4 h4 C4 z4 ⟨r4, t4, rfl, K4, q4_0, q4_1⟩
        have lt_r4 : h4.size > r4 := q4_1.1.lt
        have lt_t4 : h4.size > t4 := q4_1.tlt
        refine gat1 ?_
        refine vSA 68 #[vi x0, vi x1, vi x2, vi x3, vi x4, vi fg5_1, .val .null, vi (own_nt x0), vr r3, vr r4, un, un, un, un, un, un, un] at_66 ?_
        refine vI 70 at_68 ?_
        refine vKc 71 (1 : Int32) at_70 ?_
        refine vIN 72 at_71 ?_
        refine vKb 74 (6 : Int32) at_72 ?_
        refine gs (mkF m 75 #[vi x0, vi x1, vi x2, vi x3, vi x4, vi fg5_1, .val .null, vi (own_nt x0), vr r3, vr r4, un, un, un, un, un, un, un] [(.int ((x0.toUInt32 >>> ((6 : Int32) &&& 31).toUInt32).toInt32)), (.int (1 : Int32)), (.int x4)]) (fun _ _ A kq => XS.iushr A hx rfl (hb hby at_74) rfl kq) ?_
        refine vKc 76 (1 : Int32) at_75 ?_
        refine viand 77 (((x0.toUInt32 >>> ((6 : Int32) &&& 31).toUInt32).toInt32) &&& (1 : Int32)) at_76 ?_
        refine viadd 78 ((1 : Int32) + (((x0.toUInt32 >>> ((6 : Int32) &&& 31).toUInt32).toInt32) &&& (1 : Int32))) at_77 ?_
        refine gat (mkF m 78 #[vi x0, vi x1, vi x2, vi x3, vi x4, vi fg5_1, .val .null, vi (own_nt x0), vr r3, vr r4, un, un, un, un, un, un, un] [(.int (own_k x0 6)), (.int x4)]) rfl ?_
        refine gmS (y := mn831) (oz hw 0) (oz hw 1) (oz hw 3) (oz hw 2) (fun O => own_mk cx x4 ((own_k x0 6)) vm4 h4 O ) 81 (argsL := [(.int x4), (.int (own_k x0 6))]) (rest := []) own_pd1060 at_78 ?_
        rintro _ vm5 h5 C5 z5 ⟨r5, t5, rfl, K5, q5_0, q5_1⟩
        have lt_r5 : h5.size > r5 := q5_1.1.lt
        have lt_t5 : h5.size > t5 := q5_1.tlt
        refine gat1 ?_
        refine vSA 83 #[vi x0, vi x1, vi x2, vi x3, vi x4, vi fg5_1, .val .null, vi (own_nt x0), vr r3, vr r4, vr r5, un, un, un, un, un, un] at_81 ?_
        refine gjoin (fun vmJ hJ gJ => ∃ (fg11_6 : Int32), gJ = (mkF m 97 #[vi x0, vi x1, vi x2, vi x3, vi x4, vi fg5_1, .val .null, vi (own_nt x0), vr r3, vr r4, vr r5, un, un, un, un, un, un] [(.int fg11_6)]) ∧ Keep h5 hJ [] ∧ CHq Z consts_1 vm5 h5 vmJ hJ ∧ (fg11_6 = 0 ∨ fg11_6 = 1)) 9 24 ?_ ?_
        · rintro vm6 h6 _ ⟨fg11_6, rfl, K6, C6, q6_0⟩
          have z6 := C6.2.1
          refine vSI 99 #[vi x0, vi x1, vi x2, vi x3, vi x4, vi fg5_1, .val .null, vi (own_nt x0), vr r3, vr r4, vr r5, vi fg11_6, un, un, un, un, un] at_97 ?_
          refine gnewO hx (oz hw 34) (oz hw 35) (oz hw 36) 102 (hb hby at_99) rfl (by decide) (by decide) ?_
          intro b7 h7 g7 E7 C7 A7 D7 n7 L7
          have z7 := C7.2.1
          have lt_b7 : h7.size > b7 := A7.lt
          have F7_modCount : Fld Z h7 b7 c16_ "modCount" "I" (.int (0 : Int32)) := D7 (Or.inl (oz hw 54)) (ty := .int) (by decide)
          have F7_elementData : Fld Z h7 b7 c17_ c7_ c4_ .null := D7 (Or.inl (oz hw 57)) (ty := (.array (.object c12_))) (by decide)
          have F7_size : Fld Z h7 b7 c17_ "size" "I" (.int (0 : Int32)) := D7 (Or.inl (oz hw 102)) (ty := .int) (by decide)
          refine vD 103 at_102 ?_
          refine gmI (y := mn166) rfl (oz hw 37) (oz hw 38) (oz hw 39) (oz hw 36) (fun O => own_alinit cx b7 (.null) vm6 h7 O A7 F7_modCount F7_elementData F7_size n7 (by first | assumption | decide | omega)) 106 (argsL := []) (rest := [(.ref b7)]) (a := b7) own_pd153 at_103 ?_
          rintro _ vm8 h8 C8 z8 ⟨rfl, K8, q8_0, q8_1, q8_2⟩
          refine gat0 ?_
          refine vSA 108 #[vi x0, vi x1, vi x2, vi x3, vi x4, vi fg5_1, .val .null, vi (own_nt x0), vr r3, vr r4, vr r5, vi fg11_6, vr b7, un, un, un, un] at_106 ?_
          rcases own_nt3 x0 with nq | nq | nq | nq
          · refine vI 110 at_108 ?_
            refine vY 121 at_110 ((if0 _ _).trans (flt (by rw [nq]; decide)).2.2.2) ?_
            refine vI 123 at_121 ?_
            refine vKc 124 (1 : Int32) at_123 ?_
            refine vYc 135 at_124 (flt (by rw [nq]; decide)).2.2.2 ?_
            refine vI 137 at_135 ?_
            refine vKc 138 (2 : Int32) at_137 ?_
            refine vYc 149 at_138 (flt (by rw [nq]; decide)).2.2.2 ?_
            refine gnewO hx (oz hw 58) (oz hw 59) (oz hw 60) 152 (hb hby at_149) rfl (by decide) (by decide) ?_
            intro b9 h9 g9 E9 C9 A9 D9 n9 L9
            have z9 := C9.2.1
            have lt_b9 : h9.size > b9 := A9.lt
            have F9_ui : Fld Z h9 b9 c6_ "ui" c1_ .null := D9 (Or.inr (oz hw 104)) (ty := (.object c13_)) (by decide)
            have F9_preferred : Fld Z h9 b9 c6_ "preferred" "Z" (.int (0 : Int32)) := D9 (Or.inr (oz hw 106)) (ty := .boolean) (by decide)
            have F9_terms : Fld Z h9 b9 c6_ "terms" c3_ .null := D9 (Or.inr (oz hw 136)) (ty := (.object c24_)) (by decide)
            refine vD 153 at_152 ?_
            refine vA 155 at_153 ?_
            refine vI 157 at_155 ?_
            refine vA 159 at_157 ?_
            have f11 := (q8_2.ext E9)
            have f12 := ((A7.keep K8).ext E9)
            have f13 := (q8_0.ext E9)
            have f14 := (q8_1.ext E9)
            refine gmI (y := mn563) rfl (oz hw 61) (oz hw 62) (oz hw 63) (oz hw 60) (fun O => own_cc0 cx b9 fg11_6 b7 ((0 : Int32)) (.null) ((0 : Int32)) (.null) (.null) fg5_1 ((own_fst x1)) ((own_tl (own_k x0 1) x1)) vm8 h9 O (Or.inl ⟨e5, rfl⟩) rfl (own_fstB _).1 (own_fstB _).2 (own_hpos _ _) A9 F9_ui F9_preferred F9_terms n9 (by first | assumption | decide | omega) f11 f12 f13 f14 (by first | assumption | decide | omega) (by first | assumption | decide | omega)) 162 (argsL := [.null, (.int fg11_6), (.ref b7)]) (rest := [(.ref b9)]) (a := b9) own_pd1061 at_159 ?_
            rintro _ vm10 h10 C10 z10 ⟨rfl, K10, q10_0, q10_1, q10_2⟩
            refine gat0 ?_
            refine vSA 164 #[vi x0, vi x1, vi x2, vi x3, vi x4, vi fg5_1, .val .null, vi (own_nt x0), vr r3, vr r4, vr r5, vi fg11_6, vr b7, vr b9, un, un, un] at_162 ?_
            refine vA 166 at_164 ?_
            have f16 := (A9.keep K10)
            refine gmV (y := mn1020) (z := mn1020) (oz hw 137) (oz hw 138) (nfSel (oz hw 140)) (oz hw 140) (oz hw 139) (oz hw 141) (oz hw 60) (fun O => own_ct0 cx b9 (.null) fg5_1 (((own_fst x1) :: (own_tl (own_k x0 1) x1))) vm10 h10 O (Or.inl ⟨e5, rfl⟩) (Nat.succ_le_succ (own_tll _ _)) f16 q10_0 rfl q10_2 (by first | assumption | decide | omega)) 169 (argsL := []) (rest := []) f16 own_pd884 at_166 ?_
            rintro _ vm15 h15 C15 z15 ⟨r15, t15, rfl, K15, q15_0, q15_1⟩
            have lt_r15 : h15.size > r15 := q15_1.1.lt
            have lt_t15 : h15.size > t15 := q15_1.tlt
            refine gat1 ?_
            refine vSA 171 #[vi x0, vi x1, vi x2, vi x3, vi x4, vi fg5_1, .val .null, vi (own_nt x0), vr r3, vr r4, vr r5, vi fg11_6, vr b7, vr b9, vr r15, un, un] at_169 ?_
            have f17 := ((((((((q3_1.keep K4 nin0 nin0).keep K5 nin0 nin0).keep K6 nin0 nin0).ext E7).keep K8 nL nL).ext E9).keep K10 nL nL).keep K15 nin0 nin0)
            have f18 := (((((((q4_1.keep K5 nin0 nin0).keep K6 nin0 nin0).ext E7).keep K8 nL nL).ext E9).keep K10 nL nL).keep K15 nin0 nin0)
            have f19 := ((((((q5_1.keep K6 nin0 nin0).ext E7).keep K8 nL nL).ext E9).keep K10 nL nL).keep K15 nin0 nin0)
            exact gmono (by decide) (by decide) (J2 _ _ _ ⟨(.val .null), (vi fg11_6), (vr b7), (vr b9), r3, t3, r4, t4, r5, t5, r15, t15, ((([] : List Int32) ++ (own_u fg5_1 ((own_fst x1) :: (own_tl (own_k x0 1) x1)))) ++ [(91 : Int32), (93 : Int32)]), rfl, ((((((((((Keep.refl h1 []).trans K3 all0).trans K4 all0).trans K5 all0).trans K6 all0).ext E7).trans K8 (allS (Or.inr (by omega)) all0)).ext E9).trans K10 (allS (Or.inr (by omega)) all0)).trans K15 all0), ((((((((C3.trans C4).trans C5).trans C6).trans C7).trans C8).trans C9).trans C10).trans C15), f17, f18, f19, q15_1, (Or.inl e5), (by simp +decide [own_u, own_q, own_r, e5, nq])⟩)
          · refine vI 110 at_108 ?_
            refine vN 113 at_110 ((if0 _ _).trans (tlt (by rw [nq]; decide)).2.2.2) ?_
            refine vA 115 at_113 ?_
            refine vA 117 at_115 ?_
            have f21 := (A7.keep K8)
            refine gmV (y := mn240) (z := mn240) (oz hw 369) (oz hw 370) (nfSel (oz hw 372)) (oz hw 372) (oz hw 371) (oz hw 373) (oz hw 36) (fun O => own_add0 cx b7 r3 ((0 : Int32)) vm8 h8 O f21 q8_0 q8_1 n7 (((((q3_1.1.keep K4).keep K5).keep K6).ext E7).keep K8) q8_2 (by first | assumption | decide | omega)) 120 (argsL := [(.ref r3)]) (rest := []) f21 own_pd1062 at_117 ?_
            rintro _ vm20 h20 C20 z20 ⟨d20, kc20, rfl, K20, q20_0, q20_1, q20_2, q20_3, q20_4, q20_5, q20_6, q20_7⟩
            have lt_d20 : h20.size > d20 := q20_2.lt
            refine gat1 ?_
            refine vP 121 at_120 ?_
            refine vI 123 at_121 ?_
            refine vKc 124 (1 : Int32) at_123 ?_
            refine vYc 135 at_124 (flt (by rw [nq]; decide)).2.2.2 ?_
            refine vI 137 at_135 ?_
            refine vKc 138 (2 : Int32) at_137 ?_
            refine vYc 149 at_138 (flt (by rw [nq]; decide)).2.2.2 ?_
            refine gnewO hx (oz hw 58) (oz hw 59) (oz hw 60) 152 (hb hby at_149) rfl (by decide) (by decide) ?_
            intro b22 h22 g22 E22 C22 A22 D22 n22 L22
            have z22 := C22.2.1
            have lt_b22 : h22.size > b22 := A22.lt
            have F22_ui : Fld Z h22 b22 c6_ "ui" c1_ .null := D22 (Or.inr (oz hw 104)) (ty := (.object c13_)) (by decide)
            have F22_preferred : Fld Z h22 b22 c6_ "preferred" "Z" (.int (0 : Int32)) := D22 (Or.inr (oz hw 106)) (ty := .boolean) (by decide)
            have F22_terms : Fld Z h22 b22 c6_ "terms" c3_ .null := D22 (Or.inr (oz hw 136)) (ty := (.object c24_)) (by decide)
            refine vD 153 at_152 ?_
            refine vA 155 at_153 ?_
            refine vI 157 at_155 ?_
            refine vA 159 at_157 ?_
            have f24 := (q20_7.ext E22)
            have f25 := ((f21.keep K20).ext E22)
            have f26 := (q20_0.ext E22)
            have f27 := (q20_1.ext E22)
            have f28 := (q20_2.ext E22)
            have f29 := (q20_5.ext E22)
            have f30 := (((((((q3_1.keep K4 nin0 nin0).keep K5 nin0 nin0).keep K6 nin0 nin0).ext E7).keep K8 nL nL).keep K20 nL nL).ext E22)
            refine gmI (y := mn563) rfl (oz hw 61) (oz hw 62) (oz hw 63) (oz hw 60) (fun O => own_cc1 cx b22 fg11_6 b7 (((0 : Int32) + (1 : Int32))) (.null) ((0 : Int32)) (.null) (.null) fg5_1 ((own_fst x1)) ((own_tl (own_k x0 1) x1)) d20 kc20 r3 t3 ((own_fst x2)) ((own_tl (own_k x0 4) x2)) vm20 h22 O (Or.inl ⟨e5, rfl⟩) rfl (own_fstB _).1 (own_fstB _).2 (own_hpos _ _) A22 F22_ui F22_preferred F22_terms n22 (by first | assumption | decide | omega) f24 f25 f26 f27 f28 f29 (by first | assumption | decide | omega) f30 (own_fstB _).1 (own_fstB _).2 (own_hpos _ _) (by first | assumption | decide | omega) (by first | assumption | decide | omega)) 162 (argsL := [.null, (.int fg11_6), (.ref b7)]) (rest := [(.ref b22)]) (a := b22) own_pd1061 at_159 ?_
            rintro _ vm23 h23 C23 z23 ⟨r23, rfl, K23, q23_0, q23_1, q23_2, q23_3, q23_4, q23_5⟩
            have lt_r23 : h23.size > r23 := q23_3.lt
            refine gat0 ?_
            refine vSA 164 #[vi x0, vi x1, vi x2, vi x3, vi x4, vi fg5_1, .val .null, vi (own_nt x0), vr r3, vr r4, vr r5, vi fg11_6, vr b7, vr b22, un, un, un] at_162 ?_
            refine vA 166 at_164 ?_
            have f32 := (A22.keep K23)
            have f33 := (f30.keep K23 nL nL)
            refine gmV (y := mn1020) (z := mn1020) (oz hw 137) (oz hw 138) (nfSel (oz hw 140)) (oz hw 140) (oz hw 139) (oz hw 141) (oz hw 60) (fun O => own_ct1 cx b22 (.null) fg5_1 (((own_fst x1) :: (own_tl (own_k x0 1) x1))) r23 r3 t3 (((own_fst x2) :: (own_tl (own_k x0 4) x2))) vm23 h23 O (Or.inl ⟨e5, rfl⟩) (Nat.succ_le_succ (own_tll _ _)) f32 q23_0 rfl q23_2 q23_3 q23_4 q23_5 f33 (Nat.succ_le_succ (own_tll _ _)) (by first | assumption | decide | omega)) 169 (argsL := []) (rest := []) f32 own_pd884 at_166 ?_
            rintro _ vm31 h31 C31 z31 ⟨r31, t31, rfl, K31, q31_0, q31_1⟩
            have lt_r31 : h31.size > r31 := q31_1.1.lt
            have lt_t31 : h31.size > t31 := q31_1.tlt
            refine gat1 ?_
            refine vSA 171 #[vi x0, vi x1, vi x2, vi x3, vi x4, vi fg5_1, .val .null, vi (own_nt x0), vr r3, vr r4, vr r5, vi fg11_6, vr b7, vr b22, vr r31, un, un] at_169 ?_
            have f34 := (f33.keep K31 nin0 nin0)
            have f35 := ((((((((q4_1.keep K5 nin0 nin0).keep K6 nin0 nin0).ext E7).keep K8 nL nL).keep K20 nL nL).ext E22).keep K23 nL nL).keep K31 nin0 nin0)
            have f36 := (((((((q5_1.keep K6 nin0 nin0).ext E7).keep K8 nL nL).keep K20 nL nL).ext E22).keep K23 nL nL).keep K31 nin0 nin0)
            exact gmono (by decide) (by decide) (J2 _ _ _ ⟨(.val .null), (vi fg11_6), (vr b7), (vr b22), r3, t3, r4, t4, r5, t5, r31, t31, ((([] : List Int32) ++ (own_u fg5_1 ((own_fst x1) :: (own_tl (own_k x0 1) x1)))) ++ (((([] : List Int32) ++ [(91 : Int32)]) ++ ((own_fst x2) :: (own_tl (own_k x0 4) x2))) ++ [(93 : Int32)])), rfl, (((((((((((Keep.refl h1 []).trans K3 all0).trans K4 all0).trans K5 all0).trans K6 all0).ext E7).trans K8 (allS (Or.inr (by omega)) all0)).trans K20 (allS (Or.inr (by omega)) all0)).ext E22).trans K23 (allS (Or.inr (by omega)) all0)).trans K31 all0), (((((((((C3.trans C4).trans C5).trans C6).trans C7).trans C8).trans C20).trans C22).trans C23).trans C31), f34, f35, f36, q31_1, (Or.inl e5), (by simp +decide [own_u, own_q, own_r, e5, nq])⟩)
          · refine vI 110 at_108 ?_
            refine vN 113 at_110 ((if0 _ _).trans (tlt (by rw [nq]; decide)).2.2.2) ?_
            refine vA 115 at_113 ?_
            refine vA 117 at_115 ?_
            have f38 := (A7.keep K8)
            refine gmV (y := mn240) (z := mn240) (oz hw 369) (oz hw 370) (nfSel (oz hw 372)) (oz hw 372) (oz hw 371) (oz hw 373) (oz hw 36) (fun O => own_add0 cx b7 r3 ((0 : Int32)) vm8 h8 O f38 q8_0 q8_1 n7 (((((q3_1.1.keep K4).keep K5).keep K6).ext E7).keep K8) q8_2 (by first | assumption | decide | omega)) 120 (argsL := [(.ref r3)]) (rest := []) f38 own_pd1062 at_117 ?_
            rintro _ vm37 h37 C37 z37 ⟨d37, kc37, rfl, K37, q37_0, q37_1, q37_2, q37_3, q37_4, q37_5, q37_6, q37_7⟩
            have lt_d37 : h37.size > d37 := q37_2.lt
            refine gat1 ?_
            refine vP 121 at_120 ?_
            refine vI 123 at_121 ?_
            refine vKc 124 (1 : Int32) at_123 ?_
            refine vNc 127 at_124 (tlt (by rw [nq]; decide)).2.2.2 ?_
            refine vA 129 at_127 ?_
            refine vA 131 at_129 ?_
            have f40 := (f38.keep K37)
            refine gmV (y := mn240) (z := mn240) (oz hw 369) (oz hw 370) (nfSel (oz hw 372)) (oz hw 372) (oz hw 371) (oz hw 373) (oz hw 36) (fun O => own_add1 cx b7 r4 d37 kc37 r3 (((0 : Int32) + (1 : Int32))) vm37 h37 O f40 q37_0 q37_1 q37_2 q37_5 (by first | assumption | decide | omega) n7 (((((q4_1.1.keep K5).keep K6).ext E7).keep K8).keep K37) q37_4 q37_7 (by first | assumption | decide | omega)) 134 (argsL := [(.ref r4)]) (rest := []) f40 own_pd1062 at_131 ?_
            rintro _ vm39 h39 C39 z39 ⟨rfl, K39, q39_0, q39_1, q39_2, q39_3⟩
            refine gat1 ?_
            refine vP 135 at_134 ?_
            refine vI 137 at_135 ?_
            refine vKc 138 (2 : Int32) at_137 ?_
            refine vYc 149 at_138 (flt (by rw [nq]; decide)).2.2.2 ?_
            refine gnewO hx (oz hw 58) (oz hw 59) (oz hw 60) 152 (hb hby at_149) rfl (by decide) (by decide) ?_
            intro b41 h41 g41 E41 C41 A41 D41 n41 L41
            have z41 := C41.2.1
            have lt_b41 : h41.size > b41 := A41.lt
            have F41_ui : Fld Z h41 b41 c6_ "ui" c1_ .null := D41 (Or.inr (oz hw 104)) (ty := (.object c13_)) (by decide)
            have F41_preferred : Fld Z h41 b41 c6_ "preferred" "Z" (.int (0 : Int32)) := D41 (Or.inr (oz hw 106)) (ty := .boolean) (by decide)
            have F41_terms : Fld Z h41 b41 c6_ "terms" c3_ .null := D41 (Or.inr (oz hw 136)) (ty := (.object c24_)) (by decide)
            refine vD 153 at_152 ?_
            refine vA 155 at_153 ?_
            refine vI 157 at_155 ?_
            refine vA 159 at_157 ?_
            have f43 := (q39_3.ext E41)
            have f44 := ((f40.keep K39).ext E41)
            have f45 := (q39_0.ext E41)
            have f46 := (q39_1.ext E41)
            have f47 := (q39_2.ext E41)
            have f48 := ((q37_5.keep K39).ext E41)
            have f49 := ((((((((q3_1.keep K4 nin0 nin0).keep K5 nin0 nin0).keep K6 nin0 nin0).ext E7).keep K8 nL nL).keep K37 nL nL).keep K39 nLL nLL).ext E41)
            have f50 := (((((((q4_1.keep K5 nin0 nin0).keep K6 nin0 nin0).ext E7).keep K8 nL nL).keep K37 nL nL).keep K39 nLL nLL).ext E41)
            refine gmI (y := mn563) rfl (oz hw 61) (oz hw 62) (oz hw 63) (oz hw 60) (fun O => own_cc2 cx b41 fg11_6 b7 ((((0 : Int32) + (1 : Int32)) + (1 : Int32))) (.null) ((0 : Int32)) (.null) (.null) fg5_1 ((own_fst x1)) ((own_tl (own_k x0 1) x1)) d37 kc37 r3 r4 t3 ((own_fst x2)) ((own_tl (own_k x0 4) x2)) t4 ((own_fst x3)) ((own_tl (own_k x0 5) x3)) vm39 h41 O (Or.inl ⟨e5, rfl⟩) rfl (own_fstB _).1 (own_fstB _).2 (own_hpos _ _) A41 F41_ui F41_preferred F41_terms n41 (by first | assumption | decide | omega) f43 f44 f45 f46 f47 f48 (by first | assumption | decide | omega) f49 (own_fstB _).1 (own_fstB _).2 (own_hpos _ _) f50 (own_fstB _).1 (own_fstB _).2 (own_hpos _ _) (by first | assumption | decide | omega) (by first | assumption | decide | omega)) 162 (argsL := [.null, (.int fg11_6), (.ref b7)]) (rest := [(.ref b41)]) (a := b41) own_pd1061 at_159 ?_
            rintro _ vm42 h42 C42 z42 ⟨r42, rfl, K42, q42_0, q42_1, q42_2, q42_3, q42_4, q42_5⟩
            have lt_r42 : h42.size > r42 := q42_3.lt
            refine gat0 ?_
            refine vSA 164 #[vi x0, vi x1, vi x2, vi x3, vi x4, vi fg5_1, .val .null, vi (own_nt x0), vr r3, vr r4, vr r5, vi fg11_6, vr b7, vr b41, un, un, un] at_162 ?_
            refine vA 166 at_164 ?_
            have f52 := (A41.keep K42)
            have f53 := (f49.keep K42 nL nL)
            have f54 := (f50.keep K42 nL nL)
            refine gmV (y := mn1020) (z := mn1020) (oz hw 137) (oz hw 138) (nfSel (oz hw 140)) (oz hw 140) (oz hw 139) (oz hw 141) (oz hw 60) (fun O => own_ct2 cx b41 (.null) fg5_1 (((own_fst x1) :: (own_tl (own_k x0 1) x1))) r42 r3 t3 (((own_fst x2) :: (own_tl (own_k x0 4) x2))) r4 t4 (((own_fst x3) :: (own_tl (own_k x0 5) x3))) vm42 h42 O (Or.inl ⟨e5, rfl⟩) (Nat.succ_le_succ (own_tll _ _)) f52 q42_0 rfl q42_2 q42_3 q42_4 q42_5 f53 (Nat.succ_le_succ (own_tll _ _)) f54 (Nat.succ_le_succ (own_tll _ _)) (by first | assumption | decide | omega)) 169 (argsL := []) (rest := []) f52 own_pd884 at_166 ?_
            rintro _ vm51 h51 C51 z51 ⟨r51, t51, rfl, K51, q51_0, q51_1⟩
            have lt_r51 : h51.size > r51 := q51_1.1.lt
            have lt_t51 : h51.size > t51 := q51_1.tlt
            refine gat1 ?_
            refine vSA 171 #[vi x0, vi x1, vi x2, vi x3, vi x4, vi fg5_1, .val .null, vi (own_nt x0), vr r3, vr r4, vr r5, vi fg11_6, vr b7, vr b41, vr r51, un, un] at_169 ?_
            have f55 := (f53.keep K51 nin0 nin0)
            have f56 := (f54.keep K51 nin0 nin0)
            have f57 := ((((((((q5_1.keep K6 nin0 nin0).ext E7).keep K8 nL nL).keep K37 nL nL).keep K39 nLL nLL).ext E41).keep K42 nL nL).keep K51 nin0 nin0)
            exact gmono (by decide) (by decide) (J2 _ _ _ ⟨(.val .null), (vi fg11_6), (vr b7), (vr b41), r3, t3, r4, t4, r5, t5, r51, t51, ((([] : List Int32) ++ (own_u fg5_1 ((own_fst x1) :: (own_tl (own_k x0 1) x1)))) ++ ((((((([] : List Int32) ++ [(91 : Int32)]) ++ ((own_fst x2) :: (own_tl (own_k x0 4) x2))) ++ [(44 : Int32)]) ++ [(32 : Int32)]) ++ ((own_fst x3) :: (own_tl (own_k x0 5) x3))) ++ [(93 : Int32)])), rfl, ((((((((((((Keep.refl h1 []).trans K3 all0).trans K4 all0).trans K5 all0).trans K6 all0).ext E7).trans K8 (allS (Or.inr (by omega)) all0)).trans K37 (allS (Or.inr (by omega)) all0)).trans K39 (allS (Or.inr (by omega)) (allS (Or.inr (by omega)) all0))).ext E41).trans K42 (allS (Or.inr (by omega)) all0)).trans K51 all0), ((((((((((C3.trans C4).trans C5).trans C6).trans C7).trans C8).trans C37).trans C39).trans C41).trans C42).trans C51), f55, f56, f57, q51_1, (Or.inl e5), (by simp +decide [own_u, own_q, own_r, e5, nq])⟩)
          · refine vI 110 at_108 ?_
            refine vN 113 at_110 ((if0 _ _).trans (tlt (by rw [nq]; decide)).2.2.2) ?_
            refine vA 115 at_113 ?_
            refine vA 117 at_115 ?_
            have f59 := (A7.keep K8)
            refine gmV (y := mn240) (z := mn240) (oz hw 369) (oz hw 370) (nfSel (oz hw 372)) (oz hw 372) (oz hw 371) (oz hw 373) (oz hw 36) (fun O => own_add0 cx b7 r3 ((0 : Int32)) vm8 h8 O f59 q8_0 q8_1 n7 (((((q3_1.1.keep K4).keep K5).keep K6).ext E7).keep K8) q8_2 (by first | assumption | decide | omega)) 120 (argsL := [(.ref r3)]) (rest := []) f59 own_pd1062 at_117 ?_
            rintro _ vm58 h58 C58 z58 ⟨d58, kc58, rfl, K58, q58_0, q58_1, q58_2, q58_3, q58_4, q58_5, q58_6, q58_7⟩
            have lt_d58 : h58.size > d58 := q58_2.lt
            refine gat1 ?_
            refine vP 121 at_120 ?_
            refine vI 123 at_121 ?_
            refine vKc 124 (1 : Int32) at_123 ?_
            refine vNc 127 at_124 (tlt (by rw [nq]; decide)).2.2.2 ?_
            refine vA 129 at_127 ?_
            refine vA 131 at_129 ?_
            have f61 := (f59.keep K58)
            refine gmV (y := mn240) (z := mn240) (oz hw 369) (oz hw 370) (nfSel (oz hw 372)) (oz hw 372) (oz hw 371) (oz hw 373) (oz hw 36) (fun O => own_add1 cx b7 r4 d58 kc58 r3 (((0 : Int32) + (1 : Int32))) vm58 h58 O f61 q58_0 q58_1 q58_2 q58_5 (by first | assumption | decide | omega) n7 (((((q4_1.1.keep K5).keep K6).ext E7).keep K8).keep K58) q58_4 q58_7 (by first | assumption | decide | omega)) 134 (argsL := [(.ref r4)]) (rest := []) f61 own_pd1062 at_131 ?_
            rintro _ vm60 h60 C60 z60 ⟨rfl, K60, q60_0, q60_1, q60_2, q60_3⟩
            refine gat1 ?_
            refine vP 135 at_134 ?_
            refine vI 137 at_135 ?_
            refine vKc 138 (2 : Int32) at_137 ?_
            refine vNc 141 at_138 (tlt (by rw [nq]; decide)).2.2.2 ?_
            refine vA 143 at_141 ?_
            refine vA 145 at_143 ?_
            have f63 := (f61.keep K60)
            have f64 := (q58_5.keep K60)
            refine gmV (y := mn240) (z := mn240) (oz hw 369) (oz hw 370) (nfSel (oz hw 372)) (oz hw 372) (oz hw 371) (oz hw 373) (oz hw 36) (fun O => own_add2 cx b7 r5 d58 kc58 r3 r4 ((((0 : Int32) + (1 : Int32)) + (1 : Int32))) vm60 h60 O f63 q60_0 q60_1 q60_2 f64 (by first | assumption | decide | omega) n7 (((((q5_1.1.keep K6).ext E7).keep K8).keep K58).keep K60) q58_4 q60_3 (by first | assumption | decide | omega)) 148 (argsL := [(.ref r5)]) (rest := []) f63 own_pd1062 at_145 ?_
            rintro _ vm62 h62 C62 z62 ⟨rfl, K62, q62_0, q62_1, q62_2, q62_3⟩
            refine gat1 ?_
            refine vP 149 at_148 ?_
            refine gnewO hx (oz hw 58) (oz hw 59) (oz hw 60) 152 (hb hby at_149) rfl (by decide) (by decide) ?_
            intro b65 h65 g65 E65 C65 A65 D65 n65 L65
            have z65 := C65.2.1
            have lt_b65 : h65.size > b65 := A65.lt
            have F65_ui : Fld Z h65 b65 c6_ "ui" c1_ .null := D65 (Or.inr (oz hw 104)) (ty := (.object c13_)) (by decide)
            have F65_preferred : Fld Z h65 b65 c6_ "preferred" "Z" (.int (0 : Int32)) := D65 (Or.inr (oz hw 106)) (ty := .boolean) (by decide)
            have F65_terms : Fld Z h65 b65 c6_ "terms" c3_ .null := D65 (Or.inr (oz hw 136)) (ty := (.object c24_)) (by decide)
            refine vD 153 at_152 ?_
            refine vA 155 at_153 ?_
            refine vI 157 at_155 ?_
            refine vA 159 at_157 ?_
            have f67 := (q62_3.ext E65)
            have f68 := ((f63.keep K62).ext E65)
            have f69 := (q62_0.ext E65)
            have f70 := (q62_1.ext E65)
            have f71 := (q62_2.ext E65)
            have f72 := ((f64.keep K62).ext E65)
            have f73 := (((((((((q3_1.keep K4 nin0 nin0).keep K5 nin0 nin0).keep K6 nin0 nin0).ext E7).keep K8 nL nL).keep K58 nL nL).keep K60 nLL nLL).keep K62 nLL nLL).ext E65)
            have f74 := ((((((((q4_1.keep K5 nin0 nin0).keep K6 nin0 nin0).ext E7).keep K8 nL nL).keep K58 nL nL).keep K60 nLL nLL).keep K62 nLL nLL).ext E65)
            have f75 := (((((((q5_1.keep K6 nin0 nin0).ext E7).keep K8 nL nL).keep K58 nL nL).keep K60 nLL nLL).keep K62 nLL nLL).ext E65)
            refine gmI (y := mn563) rfl (oz hw 61) (oz hw 62) (oz hw 63) (oz hw 60) (fun O => own_cc3 cx b65 fg11_6 b7 (((((0 : Int32) + (1 : Int32)) + (1 : Int32)) + (1 : Int32))) (.null) ((0 : Int32)) (.null) (.null) fg5_1 ((own_fst x1)) ((own_tl (own_k x0 1) x1)) d58 kc58 r3 r4 r5 t3 ((own_fst x2)) ((own_tl (own_k x0 4) x2)) t4 ((own_fst x3)) ((own_tl (own_k x0 5) x3)) t5 ((own_fst x4)) ((own_tl (own_k x0 6) x4)) vm62 h65 O (Or.inl ⟨e5, rfl⟩) rfl (own_fstB _).1 (own_fstB _).2 (own_hpos _ _) A65 F65_ui F65_preferred F65_terms n65 (by first | assumption | decide | omega) f67 f68 f69 f70 f71 f72 (by first | assumption | decide | omega) f73 (own_fstB _).1 (own_fstB _).2 (own_hpos _ _) f74 (own_fstB _).1 (own_fstB _).2 (own_hpos _ _) f75 (own_fstB _).1 (own_fstB _).2 (own_hpos _ _) (by first | assumption | decide | omega) (by first | assumption | decide | omega)) 162 (argsL := [.null, (.int fg11_6), (.ref b7)]) (rest := [(.ref b65)]) (a := b65) own_pd1061 at_159 ?_
            rintro _ vm66 h66 C66 z66 ⟨r66, g66, kg66, rfl, K66, q66_0, q66_1, q66_2, q66_3, q66_4, q66_5⟩
            have lt_r66 : h66.size > r66 := q66_3.lt
            have lt_g66 : h66.size > g66 := q66_5.lt
            refine gat0 ?_
            refine vSA 164 #[vi x0, vi x1, vi x2, vi x3, vi x4, vi fg5_1, .val .null, vi (own_nt x0), vr r3, vr r4, vr r5, vi fg11_6, vr b7, vr b65, un, un, un] at_162 ?_
            refine vA 166 at_164 ?_
            have f77 := (A65.keep K66)
            have f78 := (f73.keep K66 nL nL)
            have f79 := (f74.keep K66 nL nL)
            have f80 := (f75.keep K66 nL nL)
            refine gmV (y := mn1020) (z := mn1020) (oz hw 137) (oz hw 138) (nfSel (oz hw 140)) (oz hw 140) (oz hw 139) (oz hw 141) (oz hw 60) (fun O => own_ct3 cx b65 (.null) fg5_1 (((own_fst x1) :: (own_tl (own_k x0 1) x1))) r66 g66 kg66 r3 t3 (((own_fst x2) :: (own_tl (own_k x0 4) x2))) r4 t4 (((own_fst x3) :: (own_tl (own_k x0 5) x3))) r5 t5 (((own_fst x4) :: (own_tl (own_k x0 6) x4))) vm66 h66 O (Or.inl ⟨e5, rfl⟩) (Nat.succ_le_succ (own_tll _ _)) f77 q66_0 rfl q66_2 q66_3 q66_4 q66_5 f78 (Nat.succ_le_succ (own_tll _ _)) f79 (Nat.succ_le_succ (own_tll _ _)) f80 (Nat.succ_le_succ (own_tll _ _)) (by first | assumption | decide | omega)) 169 (argsL := []) (rest := []) f77 own_pd884 at_166 ?_
            rintro _ vm76 h76 C76 z76 ⟨r76, t76, rfl, K76, q76_0, q76_1⟩
            have lt_r76 : h76.size > r76 := q76_1.1.lt
            have lt_t76 : h76.size > t76 := q76_1.tlt
            refine gat1 ?_
            refine vSA 171 #[vi x0, vi x1, vi x2, vi x3, vi x4, vi fg5_1, .val .null, vi (own_nt x0), vr r3, vr r4, vr r5, vi fg11_6, vr b7, vr b65, vr r76, un, un] at_169 ?_
            have f81 := (f78.keep K76 nin0 nin0)
            have f82 := (f79.keep K76 nin0 nin0)
            have f83 := (f80.keep K76 nin0 nin0)
            exact gmono (by decide) (by decide) (J2 _ _ _ ⟨(.val .null), (vi fg11_6), (vr b7), (vr b65), r3, t3, r4, t4, r5, t5, r76, t76, ((([] : List Int32) ++ (own_u fg5_1 ((own_fst x1) :: (own_tl (own_k x0 1) x1)))) ++ (((((((((([] : List Int32) ++ [(91 : Int32)]) ++ ((own_fst x2) :: (own_tl (own_k x0 4) x2))) ++ [(44 : Int32)]) ++ [(32 : Int32)]) ++ ((own_fst x3) :: (own_tl (own_k x0 5) x3))) ++ [(44 : Int32)]) ++ [(32 : Int32)]) ++ ((own_fst x4) :: (own_tl (own_k x0 6) x4))) ++ [(93 : Int32)])), rfl, (((((((((((((Keep.refl h1 []).trans K3 all0).trans K4 all0).trans K5 all0).trans K6 all0).ext E7).trans K8 (allS (Or.inr (by omega)) all0)).trans K58 (allS (Or.inr (by omega)) all0)).trans K60 (allS (Or.inr (by omega)) (allS (Or.inr (by omega)) all0))).trans K62 (allS (Or.inr (by omega)) (allS (Or.inr (by omega)) all0))).ext E65).trans K66 (allS (Or.inr (by omega)) all0)).trans K76 all0), (((((((((((C3.trans C4).trans C5).trans C6).trans C7).trans C8).trans C58).trans C60).trans C62).trans C65).trans C66).trans C76), f81, f82, f83, q76_1, (Or.inl e5), (by simp +decide [own_u, own_q, own_r, e5, nq])⟩)
        · intro J6
          refine vIN 84 at_83 ?_
          refine vKb 86 (7 : Int32) at_84 ?_
          refine gs (mkF m 87 #[vi x0, vi x1, vi x2, vi x3, vi x4, vi fg5_1, .val .null, vi (own_nt x0), vr r3, vr r4, vr r5, un, un, un, un, un, un] [(.int ((x0.toUInt32 >>> ((7 : Int32) &&& 31).toUInt32).toInt32))]) (fun _ _ A kq => XS.iushr A hx rfl (hb hby at_86) rfl kq) ?_
          refine vKc 88 (1 : Int32) at_87 ?_
          refine viand 89 (((x0.toUInt32 >>> ((7 : Int32) &&& 31).toUInt32).toInt32) &&& (1 : Int32)) at_88 ?_
          by_cases e0 : (((x0.toUInt32 >>> ((7 : Int32) &&& 31).toUInt32).toInt32) &&& (1 : Int32)) = (0 : Int32)
          · refine vY 96 at_89 ((if0 _ _).trans (teq e0).1) ?_
            refine vKc 97 (0 : Int32) at_96 ?_
            refine ginfo fun _ Hq _ => ?_
            exact gmono (by decide) (by decide) (J6 _ _ _ ⟨(0 : Int32), rfl, (Keep.refl h5 []), (CHq.refl Hq), (by first | assumption | rfl | decide | exact Or.inl rfl | exact Or.inr (by assumption) | omega)⟩)
          · refine vN 92 at_89 ((if0 _ _).trans (feq e0).1) ?_
            refine vKc 93 (1 : Int32) at_92 ?_
            refine vG 97 at_93 ?_
            refine ginfo fun _ Hq _ => ?_
            exact gmono (by decide) (by decide) (J6 _ _ _ ⟨(1 : Int32), rfl, (Keep.refl h5 []), (CHq.refl Hq), (by first | assumption | rfl | decide | exact Or.inl rfl | exact Or.inr (by assumption) | omega)⟩)
      · refine vN 18 at_15 ((if0 _ _).trans (feq e5).1) ?_
        refine vIN 19 at_18 ?_
        refine vKc 20 (1 : Int32) at_19 ?_
        refine vIN 21 at_20 ?_
        refine vKc 22 (1 : Int32) at_21 ?_
        refine gs (mkF m 23 #[vi x0, vi x1, vi x2, vi x3, vi x4, vi fg5_1, un, un, un, un, un, un, un, un, un, un, un] [(.int ((x0.toUInt32 >>> ((1 : Int32) &&& 31).toUInt32).toInt32)), (.int (1 : Int32)), (.int x1)]) (fun _ _ A kq => XS.iushr A hx rfl (hb hby at_22) rfl kq) ?_
        refine vKc 24 (1 : Int32) at_23 ?_
        refine viand 25 (((x0.toUInt32 >>> ((1 : Int32) &&& 31).toUInt32).toInt32) &&& (1 : Int32)) at_24 ?_
        refine viadd 26 ((1 : Int32) + (((x0.toUInt32 >>> ((1 : Int32) &&& 31).toUInt32).toInt32) &&& (1 : Int32))) at_25 ?_
        refine gat (mkF m 26 #[vi x0, vi x1, vi x2, vi x3, vi x4, vi fg5_1, un, un, un, un, un, un, un, un, un, un, un] [(.int (own_k x0 1)), (.int x1)]) rfl ?_
        refine gmS (y := mn831) (oz hw 0) (oz hw 1) (oz hw 3) (oz hw 2) (fun O => own_mk cx x1 ((own_k x0 1)) vm1 h1 O ) 29 (argsL := [(.int x1), (.int (own_k x0 1))]) (rest := []) own_pd1060 at_26 ?_
        rintro _ vm84 h84 C84 z84 ⟨r84, t84, rfl, K84, q84_0, q84_1⟩
        have lt_r84 : h84.size > r84 := q84_1.1.lt
        have lt_t84 : h84.size > t84 := q84_1.tlt
        refine gat1 ?_
        refine vG 33 at_29 ?_
        refine vSA 35 #[vi x0, vi x1, vi x2, vi x3, vi x4, vi fg5_1, vr r84, un, un, un, un, un, un, un, un, un, un] at_33 ?_
        refine vIN 36 at_35 ?_
        refine vKc 37 (2 : Int32) at_36 ?_
        refine gs (mkF m 38 #[vi x0, vi x1, vi x2, vi x3, vi x4, vi fg5_1, vr r84, un, un, un, un, un, un, un, un, un, un] [(.int ((x0.toUInt32 >>> ((2 : Int32) &&& 31).toUInt32).toInt32))]) (fun _ _ A kq => XS.iushr A hx rfl (hb hby at_37) rfl kq) ?_
        refine vKc 39 (3 : Int32) at_38 ?_
        refine viand 40 (((x0.toUInt32 >>> ((2 : Int32) &&& 31).toUInt32).toInt32) &&& (3 : Int32)) at_39 ?_
        refine vSI 42 #[vi x0, vi x1, vi x2, vi x3, vi x4, vi fg5_1, vr r84, vi (((x0.toUInt32 >>> ((2 : Int32) &&& 31).toUInt32).toInt32) &&& (3 : Int32)), un, un, un, un, un, un, un, un, un] at_40 ?_
        refine gat (mkF m 42 #[vi x0, vi x1, vi x2, vi x3, vi x4, vi fg5_1, vr r84, vi (own_nt x0), un, un, un, un, un, un, un, un, un] []) rfl ?_
        refine vIN 43 at_42 ?_
        refine vKc 44 (1 : Int32) at_43 ?_
        refine vIN 45 at_44 ?_
        refine vKc 46 (4 : Int32) at_45 ?_
        refine gs (mkF m 47 #[vi x0, vi x1, vi x2, vi x3, vi x4, vi fg5_1, vr r84, vi (own_nt x0), un, un, un, un, un, un, un, un, un] [(.int ((x0.toUInt32 >>> ((4 : Int32) &&& 31).toUInt32).toInt32)), (.int (1 : Int32)), (.int x2)]) (fun _ _ A kq => XS.iushr A hx rfl (hb hby at_46) rfl kq) ?_
        refine vKc 48 (1 : Int32) at_47 ?_
        refine viand 49 (((x0.toUInt32 >>> ((4 : Int32) &&& 31).toUInt32).toInt32) &&& (1 : Int32)) at_48 ?_
        refine viadd 50 ((1 : Int32) + (((x0.toUInt32 >>> ((4 : Int32) &&& 31).toUInt32).toInt32) &&& (1 : Int32))) at_49 ?_
        refine gat (mkF m 50 #[vi x0, vi x1, vi x2, vi x3, vi x4, vi fg5_1, vr r84, vi (own_nt x0), un, un, un, un, un, un, un, un, un] [(.int (own_k x0 4)), (.int x2)]) rfl ?_
        refine gmS (y := mn831) (oz hw 0) (oz hw 1) (oz hw 3) (oz hw 2) (fun O => own_mk cx x2 ((own_k x0 4)) vm84 h84 O ) 53 (argsL := [(.int x2), (.int (own_k x0 4))]) (rest := []) own_pd1060 at_50 ?_
        rintro _ vm85 h85 C85 z85 ⟨r85, t85, rfl, K85, q85_0, q85_1⟩
        have lt_r85 : h85.size > r85 := q85_1.1.lt
        have lt_t85 : h85.size > t85 := q85_1.tlt
        refine gat1 ?_
        refine vSA 55 #[vi x0, vi x1, vi x2, vi x3, vi x4, vi fg5_1, vr r84, vi (own_nt x0), vr r85, un, un, un, un, un, un, un, un] at_53 ?_
        refine vIN 56 at_55 ?_
        refine vKc 57 (1 : Int32) at_56 ?_
        refine vIN 58 at_57 ?_
        refine vKc 59 (5 : Int32) at_58 ?_
        refine gs (mkF m 60 #[vi x0, vi x1, vi x2, vi x3, vi x4, vi fg5_1, vr r84, vi (own_nt x0), vr r85, un, un, un, un, un, un, un, un] [(.int ((x0.toUInt32 >>> ((5 : Int32) &&& 31).toUInt32).toInt32)), (.int (1 : Int32)), (.int x3)]) (fun _ _ A kq => XS.iushr A hx rfl (hb hby at_59) rfl kq) ?_
        refine vKc 61 (1 : Int32) at_60 ?_
        refine viand 62 (((x0.toUInt32 >>> ((5 : Int32) &&& 31).toUInt32).toInt32) &&& (1 : Int32)) at_61 ?_
        refine viadd 63 ((1 : Int32) + (((x0.toUInt32 >>> ((5 : Int32) &&& 31).toUInt32).toInt32) &&& (1 : Int32))) at_62 ?_
        refine gat (mkF m 63 #[vi x0, vi x1, vi x2, vi x3, vi x4, vi fg5_1, vr r84, vi (own_nt x0), vr r85, un, un, un, un, un, un, un, un] [(.int (own_k x0 5)), (.int x3)]) rfl ?_
        refine gmS (y := mn831) (oz hw 0) (oz hw 1) (oz hw 3) (oz hw 2) (fun O => own_mk cx x3 ((own_k x0 5)) vm85 h85 O ) 66 (argsL := [(.int x3), (.int (own_k x0 5))]) (rest := []) own_pd1060 at_63 ?_
        rintro _ vm86 h86 C86 z86 ⟨r86, t86, rfl, K86, q86_0, q86_1⟩
        have lt_r86 : h86.size > r86 := q86_1.1.lt
        have lt_t86 : h86.size > t86 := q86_1.tlt
        refine gat1 ?_
        refine vSA 68 #[vi x0, vi x1, vi x2, vi x3, vi x4, vi fg5_1, vr r84, vi (own_nt x0), vr r85, vr r86, un, un, un, un, un, un, un] at_66 ?_
        refine vI 70 at_68 ?_
        refine vKc 71 (1 : Int32) at_70 ?_
        refine vIN 72 at_71 ?_
        refine vKb 74 (6 : Int32) at_72 ?_
        refine gs (mkF m 75 #[vi x0, vi x1, vi x2, vi x3, vi x4, vi fg5_1, vr r84, vi (own_nt x0), vr r85, vr r86, un, un, un, un, un, un, un] [(.int ((x0.toUInt32 >>> ((6 : Int32) &&& 31).toUInt32).toInt32)), (.int (1 : Int32)), (.int x4)]) (fun _ _ A kq => XS.iushr A hx rfl (hb hby at_74) rfl kq) ?_
        refine vKc 76 (1 : Int32) at_75 ?_
        refine viand 77 (((x0.toUInt32 >>> ((6 : Int32) &&& 31).toUInt32).toInt32) &&& (1 : Int32)) at_76 ?_
        refine viadd 78 ((1 : Int32) + (((x0.toUInt32 >>> ((6 : Int32) &&& 31).toUInt32).toInt32) &&& (1 : Int32))) at_77 ?_
        refine gat (mkF m 78 #[vi x0, vi x1, vi x2, vi x3, vi x4, vi fg5_1, vr r84, vi (own_nt x0), vr r85, vr r86, un, un, un, un, un, un, un] [(.int (own_k x0 6)), (.int x4)]) rfl ?_
        refine gmS (y := mn831) (oz hw 0) (oz hw 1) (oz hw 3) (oz hw 2) (fun O => own_mk cx x4 ((own_k x0 6)) vm86 h86 O ) 81 (argsL := [(.int x4), (.int (own_k x0 6))]) (rest := []) own_pd1060 at_78 ?_
        rintro _ vm87 h87 C87 z87 ⟨r87, t87, rfl, K87, q87_0, q87_1⟩
        have lt_r87 : h87.size > r87 := q87_1.1.lt
        have lt_t87 : h87.size > t87 := q87_1.tlt
        refine gat1 ?_
        refine vSA 83 #[vi x0, vi x1, vi x2, vi x3, vi x4, vi fg5_1, vr r84, vi (own_nt x0), vr r85, vr r86, vr r87, un, un, un, un, un, un] at_81 ?_
        refine gjoin (fun vmJ hJ gJ => ∃ (fg11_88 : Int32), gJ = (mkF m 97 #[vi x0, vi x1, vi x2, vi x3, vi x4, vi fg5_1, vr r84, vi (own_nt x0), vr r85, vr r86, vr r87, un, un, un, un, un, un] [(.int fg11_88)]) ∧ Keep h87 hJ [] ∧ CHq Z consts_1 vm87 h87 vmJ hJ ∧ (fg11_88 = 0 ∨ fg11_88 = 1)) 12 32 ?_ ?_
        · rintro vm88 h88 _ ⟨fg11_88, rfl, K88, C88, q88_0⟩
          have z88 := C88.2.1
          refine vSI 99 #[vi x0, vi x1, vi x2, vi x3, vi x4, vi fg5_1, vr r84, vi (own_nt x0), vr r85, vr r86, vr r87, vi fg11_88, un, un, un, un, un] at_97 ?_
          refine gnewO hx (oz hw 34) (oz hw 35) (oz hw 36) 102 (hb hby at_99) rfl (by decide) (by decide) ?_
          intro b89 h89 g89 E89 C89 A89 D89 n89 L89
          have z89 := C89.2.1
          have lt_b89 : h89.size > b89 := A89.lt
          have F89_modCount : Fld Z h89 b89 c16_ "modCount" "I" (.int (0 : Int32)) := D89 (Or.inl (oz hw 54)) (ty := .int) (by decide)
          have F89_elementData : Fld Z h89 b89 c17_ c7_ c4_ .null := D89 (Or.inl (oz hw 57)) (ty := (.array (.object c12_))) (by decide)
          have F89_size : Fld Z h89 b89 c17_ "size" "I" (.int (0 : Int32)) := D89 (Or.inl (oz hw 102)) (ty := .int) (by decide)
          refine vD 103 at_102 ?_
          refine gmI (y := mn166) rfl (oz hw 37) (oz hw 38) (oz hw 39) (oz hw 36) (fun O => own_alinit cx b89 (.null) vm88 h89 O A89 F89_modCount F89_elementData F89_size n89 (by first | assumption | decide | omega)) 106 (argsL := []) (rest := [(.ref b89)]) (a := b89) own_pd153 at_103 ?_
          rintro _ vm90 h90 C90 z90 ⟨rfl, K90, q90_0, q90_1, q90_2⟩
          refine gat0 ?_
          refine vSA 108 #[vi x0, vi x1, vi x2, vi x3, vi x4, vi fg5_1, vr r84, vi (own_nt x0), vr r85, vr r86, vr r87, vi fg11_88, vr b89, un, un, un, un] at_106 ?_
          rcases own_nt3 x0 with nq | nq | nq | nq
          · refine vI 110 at_108 ?_
            refine vY 121 at_110 ((if0 _ _).trans (flt (by rw [nq]; decide)).2.2.2) ?_
            refine vI 123 at_121 ?_
            refine vKc 124 (1 : Int32) at_123 ?_
            refine vYc 135 at_124 (flt (by rw [nq]; decide)).2.2.2 ?_
            refine vI 137 at_135 ?_
            refine vKc 138 (2 : Int32) at_137 ?_
            refine vYc 149 at_138 (flt (by rw [nq]; decide)).2.2.2 ?_
            refine gnewO hx (oz hw 58) (oz hw 59) (oz hw 60) 152 (hb hby at_149) rfl (by decide) (by decide) ?_
            intro b91 h91 g91 E91 C91 A91 D91 n91 L91
            have z91 := C91.2.1
            have lt_b91 : h91.size > b91 := A91.lt
            have F91_ui : Fld Z h91 b91 c6_ "ui" c1_ .null := D91 (Or.inr (oz hw 104)) (ty := (.object c13_)) (by decide)
            have F91_preferred : Fld Z h91 b91 c6_ "preferred" "Z" (.int (0 : Int32)) := D91 (Or.inr (oz hw 106)) (ty := .boolean) (by decide)
            have F91_terms : Fld Z h91 b91 c6_ "terms" c3_ .null := D91 (Or.inr (oz hw 136)) (ty := (.object c24_)) (by decide)
            refine vD 153 at_152 ?_
            refine vA 155 at_153 ?_
            refine vI 157 at_155 ?_
            refine vA 159 at_157 ?_
            have f93 := (((((((q84_1.keep K85 nin0 nin0).keep K86 nin0 nin0).keep K87 nin0 nin0).keep K88 nin0 nin0).ext E89).keep K90 nL nL).ext E91)
            have f94 := (q90_2.ext E91)
            have f95 := ((A89.keep K90).ext E91)
            have f96 := (q90_0.ext E91)
            have f97 := (q90_1.ext E91)
            refine gmI (y := mn563) rfl (oz hw 61) (oz hw 62) (oz hw 63) (oz hw 60) (fun O => own_cc0 cx b91 fg11_88 b89 ((0 : Int32)) (.null) ((0 : Int32)) (.null) ((.ref r84)) fg5_1 ((own_fst x1)) ((own_tl (own_k x0 1) x1)) vm90 h91 O (Or.inr ⟨e5, r84, t84, rfl, f93⟩) rfl (own_fstB _).1 (own_fstB _).2 (own_hpos _ _) A91 F91_ui F91_preferred F91_terms n91 (by first | assumption | decide | omega) f94 f95 f96 f97 (by first | assumption | decide | omega) (by first | assumption | decide | omega)) 162 (argsL := [(.ref r84), (.int fg11_88), (.ref b89)]) (rest := [(.ref b91)]) (a := b91) own_pd1061 at_159 ?_
            rintro _ vm92 h92 C92 z92 ⟨rfl, K92, q92_0, q92_1, q92_2⟩
            refine gat0 ?_
            refine vSA 164 #[vi x0, vi x1, vi x2, vi x3, vi x4, vi fg5_1, vr r84, vi (own_nt x0), vr r85, vr r86, vr r87, vi fg11_88, vr b89, vr b91, un, un, un] at_162 ?_
            refine vA 166 at_164 ?_
            have f99 := (f93.keep K92 nL nL)
            have f100 := (A91.keep K92)
            refine gmV (y := mn1020) (z := mn1020) (oz hw 137) (oz hw 138) (nfSel (oz hw 140)) (oz hw 140) (oz hw 139) (oz hw 141) (oz hw 60) (fun O => own_ct0 cx b91 ((.ref r84)) fg5_1 (((own_fst x1) :: (own_tl (own_k x0 1) x1))) vm92 h92 O (Or.inr ⟨e5, r84, t84, rfl, f99⟩) (Nat.succ_le_succ (own_tll _ _)) f100 q92_0 rfl q92_2 (by first | assumption | decide | omega)) 169 (argsL := []) (rest := []) f100 own_pd884 at_166 ?_
            rintro _ vm98 h98 C98 z98 ⟨r98, t98, rfl, K98, q98_0, q98_1⟩
            have lt_r98 : h98.size > r98 := q98_1.1.lt
            have lt_t98 : h98.size > t98 := q98_1.tlt
            refine gat1 ?_
            refine vSA 171 #[vi x0, vi x1, vi x2, vi x3, vi x4, vi fg5_1, vr r84, vi (own_nt x0), vr r85, vr r86, vr r87, vi fg11_88, vr b89, vr b91, vr r98, un, un] at_169 ?_
            have f101 := (f99.keep K98 nin0 nin0)
            have f102 := ((((((((q85_1.keep K86 nin0 nin0).keep K87 nin0 nin0).keep K88 nin0 nin0).ext E89).keep K90 nL nL).ext E91).keep K92 nL nL).keep K98 nin0 nin0)
            have f103 := (((((((q86_1.keep K87 nin0 nin0).keep K88 nin0 nin0).ext E89).keep K90 nL nL).ext E91).keep K92 nL nL).keep K98 nin0 nin0)
            have f104 := ((((((q87_1.keep K88 nin0 nin0).ext E89).keep K90 nL nL).ext E91).keep K92 nL nL).keep K98 nin0 nin0)
            exact gmono (by decide) (by decide) (J2 _ _ _ ⟨(vr r84), (vi fg11_88), (vr b89), (vr b91), r85, t85, r86, t86, r87, t87, r98, t98, ((([] : List Int32) ++ (own_u fg5_1 ((own_fst x1) :: (own_tl (own_k x0 1) x1)))) ++ [(91 : Int32), (93 : Int32)]), rfl, (((((((((((Keep.refl h1 []).trans K84 all0).trans K85 all0).trans K86 all0).trans K87 all0).trans K88 all0).ext E89).trans K90 (allS (Or.inr (by omega)) all0)).ext E91).trans K92 (allS (Or.inr (by omega)) all0)).trans K98 all0), (((((((((C84.trans C85).trans C86).trans C87).trans C88).trans C89).trans C90).trans C91).trans C92).trans C98), f102, f103, f104, q98_1, (Or.inr ⟨r84, t84, rfl, ⟨by omega, by omega⟩, f101⟩), (by simp +decide [own_u, own_q, own_r, e5, nq])⟩)
          · refine vI 110 at_108 ?_
            refine vN 113 at_110 ((if0 _ _).trans (tlt (by rw [nq]; decide)).2.2.2) ?_
            refine vA 115 at_113 ?_
            refine vA 117 at_115 ?_
            have f106 := (A89.keep K90)
            refine gmV (y := mn240) (z := mn240) (oz hw 369) (oz hw 370) (nfSel (oz hw 372)) (oz hw 372) (oz hw 371) (oz hw 373) (oz hw 36) (fun O => own_add0 cx b89 r85 ((0 : Int32)) vm90 h90 O f106 q90_0 q90_1 n89 (((((q85_1.1.keep K86).keep K87).keep K88).ext E89).keep K90) q90_2 (by first | assumption | decide | omega)) 120 (argsL := [(.ref r85)]) (rest := []) f106 own_pd1062 at_117 ?_
            rintro _ vm105 h105 C105 z105 ⟨d105, kc105, rfl, K105, q105_0, q105_1, q105_2, q105_3, q105_4, q105_5, q105_6, q105_7⟩
            have lt_d105 : h105.size > d105 := q105_2.lt
            refine gat1 ?_
            refine vP 121 at_120 ?_
            refine vI 123 at_121 ?_
            refine vKc 124 (1 : Int32) at_123 ?_
            refine vYc 135 at_124 (flt (by rw [nq]; decide)).2.2.2 ?_
            refine vI 137 at_135 ?_
            refine vKc 138 (2 : Int32) at_137 ?_
            refine vYc 149 at_138 (flt (by rw [nq]; decide)).2.2.2 ?_
            refine gnewO hx (oz hw 58) (oz hw 59) (oz hw 60) 152 (hb hby at_149) rfl (by decide) (by decide) ?_
            intro b107 h107 g107 E107 C107 A107 D107 n107 L107
            have z107 := C107.2.1
            have lt_b107 : h107.size > b107 := A107.lt
            have F107_ui : Fld Z h107 b107 c6_ "ui" c1_ .null := D107 (Or.inr (oz hw 104)) (ty := (.object c13_)) (by decide)
            have F107_preferred : Fld Z h107 b107 c6_ "preferred" "Z" (.int (0 : Int32)) := D107 (Or.inr (oz hw 106)) (ty := .boolean) (by decide)
            have F107_terms : Fld Z h107 b107 c6_ "terms" c3_ .null := D107 (Or.inr (oz hw 136)) (ty := (.object c24_)) (by decide)
            refine vD 153 at_152 ?_
            refine vA 155 at_153 ?_
            refine vI 157 at_155 ?_
            refine vA 159 at_157 ?_
            have f109 := ((((((((q84_1.keep K85 nin0 nin0).keep K86 nin0 nin0).keep K87 nin0 nin0).keep K88 nin0 nin0).ext E89).keep K90 nL nL).keep K105 nL nL).ext E107)
            have f110 := (q105_7.ext E107)
            have f111 := ((f106.keep K105).ext E107)
            have f112 := (q105_0.ext E107)
            have f113 := (q105_1.ext E107)
            have f114 := (q105_2.ext E107)
            have f115 := (q105_5.ext E107)
            have f116 := (((((((q85_1.keep K86 nin0 nin0).keep K87 nin0 nin0).keep K88 nin0 nin0).ext E89).keep K90 nL nL).keep K105 nL nL).ext E107)
            refine gmI (y := mn563) rfl (oz hw 61) (oz hw 62) (oz hw 63) (oz hw 60) (fun O => own_cc1 cx b107 fg11_88 b89 (((0 : Int32) + (1 : Int32))) (.null) ((0 : Int32)) (.null) ((.ref r84)) fg5_1 ((own_fst x1)) ((own_tl (own_k x0 1) x1)) d105 kc105 r85 t85 ((own_fst x2)) ((own_tl (own_k x0 4) x2)) vm105 h107 O (Or.inr ⟨e5, r84, t84, rfl, f109⟩) rfl (own_fstB _).1 (own_fstB _).2 (own_hpos _ _) A107 F107_ui F107_preferred F107_terms n107 (by first | assumption | decide | omega) f110 f111 f112 f113 f114 f115 (by first | assumption | decide | omega) f116 (own_fstB _).1 (own_fstB _).2 (own_hpos _ _) (by first | assumption | decide | omega) (by first | assumption | decide | omega)) 162 (argsL := [(.ref r84), (.int fg11_88), (.ref b89)]) (rest := [(.ref b107)]) (a := b107) own_pd1061 at_159 ?_
            rintro _ vm108 h108 C108 z108 ⟨r108, rfl, K108, q108_0, q108_1, q108_2, q108_3, q108_4, q108_5⟩
            have lt_r108 : h108.size > r108 := q108_3.lt
            refine gat0 ?_
            refine vSA 164 #[vi x0, vi x1, vi x2, vi x3, vi x4, vi fg5_1, vr r84, vi (own_nt x0), vr r85, vr r86, vr r87, vi fg11_88, vr b89, vr b107, un, un, un] at_162 ?_
            refine vA 166 at_164 ?_
            have f118 := (f109.keep K108 nL nL)
            have f119 := (A107.keep K108)
            have f120 := (f116.keep K108 nL nL)
            refine gmV (y := mn1020) (z := mn1020) (oz hw 137) (oz hw 138) (nfSel (oz hw 140)) (oz hw 140) (oz hw 139) (oz hw 141) (oz hw 60) (fun O => own_ct1 cx b107 ((.ref r84)) fg5_1 (((own_fst x1) :: (own_tl (own_k x0 1) x1))) r108 r85 t85 (((own_fst x2) :: (own_tl (own_k x0 4) x2))) vm108 h108 O (Or.inr ⟨e5, r84, t84, rfl, f118⟩) (Nat.succ_le_succ (own_tll _ _)) f119 q108_0 rfl q108_2 q108_3 q108_4 q108_5 f120 (Nat.succ_le_succ (own_tll _ _)) (by first | assumption | decide | omega)) 169 (argsL := []) (rest := []) f119 own_pd884 at_166 ?_
            rintro _ vm117 h117 C117 z117 ⟨r117, t117, rfl, K117, q117_0, q117_1⟩
            have lt_r117 : h117.size > r117 := q117_1.1.lt
            have lt_t117 : h117.size > t117 := q117_1.tlt
            refine gat1 ?_
            refine vSA 171 #[vi x0, vi x1, vi x2, vi x3, vi x4, vi fg5_1, vr r84, vi (own_nt x0), vr r85, vr r86, vr r87, vi fg11_88, vr b89, vr b107, vr r117, un, un] at_169 ?_
            have f121 := (f118.keep K117 nin0 nin0)
            have f122 := (f120.keep K117 nin0 nin0)
            have f123 := ((((((((q86_1.keep K87 nin0 nin0).keep K88 nin0 nin0).ext E89).keep K90 nL nL).keep K105 nL nL).ext E107).keep K108 nL nL).keep K117 nin0 nin0)
            have f124 := (((((((q87_1.keep K88 nin0 nin0).ext E89).keep K90 nL nL).keep K105 nL nL).ext E107).keep K108 nL nL).keep K117 nin0 nin0)
            exact gmono (by decide) (by decide) (J2 _ _ _ ⟨(vr r84), (vi fg11_88), (vr b89), (vr b107), r85, t85, r86, t86, r87, t87, r117, t117, ((([] : List Int32) ++ (own_u fg5_1 ((own_fst x1) :: (own_tl (own_k x0 1) x1)))) ++ (((([] : List Int32) ++ [(91 : Int32)]) ++ ((own_fst x2) :: (own_tl (own_k x0 4) x2))) ++ [(93 : Int32)])), rfl, ((((((((((((Keep.refl h1 []).trans K84 all0).trans K85 all0).trans K86 all0).trans K87 all0).trans K88 all0).ext E89).trans K90 (allS (Or.inr (by omega)) all0)).trans K105 (allS (Or.inr (by omega)) all0)).ext E107).trans K108 (allS (Or.inr (by omega)) all0)).trans K117 all0), ((((((((((C84.trans C85).trans C86).trans C87).trans C88).trans C89).trans C90).trans C105).trans C107).trans C108).trans C117), f122, f123, f124, q117_1, (Or.inr ⟨r84, t84, rfl, ⟨by omega, by omega⟩, f121⟩), (by simp +decide [own_u, own_q, own_r, e5, nq])⟩)
          · refine vI 110 at_108 ?_
            refine vN 113 at_110 ((if0 _ _).trans (tlt (by rw [nq]; decide)).2.2.2) ?_
            refine vA 115 at_113 ?_
            refine vA 117 at_115 ?_
            have f126 := (A89.keep K90)
            refine gmV (y := mn240) (z := mn240) (oz hw 369) (oz hw 370) (nfSel (oz hw 372)) (oz hw 372) (oz hw 371) (oz hw 373) (oz hw 36) (fun O => own_add0 cx b89 r85 ((0 : Int32)) vm90 h90 O f126 q90_0 q90_1 n89 (((((q85_1.1.keep K86).keep K87).keep K88).ext E89).keep K90) q90_2 (by first | assumption | decide | omega)) 120 (argsL := [(.ref r85)]) (rest := []) f126 own_pd1062 at_117 ?_
            rintro _ vm125 h125 C125 z125 ⟨d125, kc125, rfl, K125, q125_0, q125_1, q125_2, q125_3, q125_4, q125_5, q125_6, q125_7⟩
            have lt_d125 : h125.size > d125 := q125_2.lt
            refine gat1 ?_
            refine vP 121 at_120 ?_
            refine vI 123 at_121 ?_
            refine vKc 124 (1 : Int32) at_123 ?_
            refine vNc 127 at_124 (tlt (by rw [nq]; decide)).2.2.2 ?_
            refine vA 129 at_127 ?_
            refine vA 131 at_129 ?_
            have f128 := (f126.keep K125)
            refine gmV (y := mn240) (z := mn240) (oz hw 369) (oz hw 370) (nfSel (oz hw 372)) (oz hw 372) (oz hw 371) (oz hw 373) (oz hw 36) (fun O => own_add1 cx b89 r86 d125 kc125 r85 (((0 : Int32) + (1 : Int32))) vm125 h125 O f128 q125_0 q125_1 q125_2 q125_5 (by first | assumption | decide | omega) n89 (((((q86_1.1.keep K87).keep K88).ext E89).keep K90).keep K125) q125_4 q125_7 (by first | assumption | decide | omega)) 134 (argsL := [(.ref r86)]) (rest := []) f128 own_pd1062 at_131 ?_
            rintro _ vm127 h127 C127 z127 ⟨rfl, K127, q127_0, q127_1, q127_2, q127_3⟩
            refine gat1 ?_
            refine vP 135 at_134 ?_
            refine vI 137 at_135 ?_
            refine vKc 138 (2 : Int32) at_137 ?_
            refine vYc 149 at_138 (flt (by rw [nq]; decide)).2.2.2 ?_
            refine gnewO hx (oz hw 58) (oz hw 59) (oz hw 60) 152 (hb hby at_149) rfl (by decide) (by decide) ?_
            intro b129 h129 g129 E129 C129 A129 D129 n129 L129
            have z129 := C129.2.1
            have lt_b129 : h129.size > b129 := A129.lt
            have F129_ui : Fld Z h129 b129 c6_ "ui" c1_ .null := D129 (Or.inr (oz hw 104)) (ty := (.object c13_)) (by decide)
            have F129_preferred : Fld Z h129 b129 c6_ "preferred" "Z" (.int (0 : Int32)) := D129 (Or.inr (oz hw 106)) (ty := .boolean) (by decide)
            have F129_terms : Fld Z h129 b129 c6_ "terms" c3_ .null := D129 (Or.inr (oz hw 136)) (ty := (.object c24_)) (by decide)
            refine vD 153 at_152 ?_
            refine vA 155 at_153 ?_
            refine vI 157 at_155 ?_
            refine vA 159 at_157 ?_
            have f131 := (((((((((q84_1.keep K85 nin0 nin0).keep K86 nin0 nin0).keep K87 nin0 nin0).keep K88 nin0 nin0).ext E89).keep K90 nL nL).keep K125 nL nL).keep K127 nLL nLL).ext E129)
            have f132 := (q127_3.ext E129)
            have f133 := ((f128.keep K127).ext E129)
            have f134 := (q127_0.ext E129)
            have f135 := (q127_1.ext E129)
            have f136 := (q127_2.ext E129)
            have f137 := ((q125_5.keep K127).ext E129)
            have f138 := ((((((((q85_1.keep K86 nin0 nin0).keep K87 nin0 nin0).keep K88 nin0 nin0).ext E89).keep K90 nL nL).keep K125 nL nL).keep K127 nLL nLL).ext E129)
            have f139 := (((((((q86_1.keep K87 nin0 nin0).keep K88 nin0 nin0).ext E89).keep K90 nL nL).keep K125 nL nL).keep K127 nLL nLL).ext E129)
            refine gmI (y := mn563) rfl (oz hw 61) (oz hw 62) (oz hw 63) (oz hw 60) (fun O => own_cc2 cx b129 fg11_88 b89 ((((0 : Int32) + (1 : Int32)) + (1 : Int32))) (.null) ((0 : Int32)) (.null) ((.ref r84)) fg5_1 ((own_fst x1)) ((own_tl (own_k x0 1) x1)) d125 kc125 r85 r86 t85 ((own_fst x2)) ((own_tl (own_k x0 4) x2)) t86 ((own_fst x3)) ((own_tl (own_k x0 5) x3)) vm127 h129 O (Or.inr ⟨e5, r84, t84, rfl, f131⟩) rfl (own_fstB _).1 (own_fstB _).2 (own_hpos _ _) A129 F129_ui F129_preferred F129_terms n129 (by first | assumption | decide | omega) f132 f133 f134 f135 f136 f137 (by first | assumption | decide | omega) f138 (own_fstB _).1 (own_fstB _).2 (own_hpos _ _) f139 (own_fstB _).1 (own_fstB _).2 (own_hpos _ _) (by first | assumption | decide | omega) (by first | assumption | decide | omega)) 162 (argsL := [(.ref r84), (.int fg11_88), (.ref b89)]) (rest := [(.ref b129)]) (a := b129) own_pd1061 at_159 ?_
            rintro _ vm130 h130 C130 z130 ⟨r130, rfl, K130, q130_0, q130_1, q130_2, q130_3, q130_4, q130_5⟩
            have lt_r130 : h130.size > r130 := q130_3.lt
            refine gat0 ?_
            refine vSA 164 #[vi x0, vi x1, vi x2, vi x3, vi x4, vi fg5_1, vr r84, vi (own_nt x0), vr r85, vr r86, vr r87, vi fg11_88, vr b89, vr b129, un, un, un] at_162 ?_
            refine vA 166 at_164 ?_
            have f141 := (f131.keep K130 nL nL)
            have f142 := (A129.keep K130)
            have f143 := (f138.keep K130 nL nL)
            have f144 := (f139.keep K130 nL nL)
            refine gmV (y := mn1020) (z := mn1020) (oz hw 137) (oz hw 138) (nfSel (oz hw 140)) (oz hw 140) (oz hw 139) (oz hw 141) (oz hw 60) (fun O => own_ct2 cx b129 ((.ref r84)) fg5_1 (((own_fst x1) :: (own_tl (own_k x0 1) x1))) r130 r85 t85 (((own_fst x2) :: (own_tl (own_k x0 4) x2))) r86 t86 (((own_fst x3) :: (own_tl (own_k x0 5) x3))) vm130 h130 O (Or.inr ⟨e5, r84, t84, rfl, f141⟩) (Nat.succ_le_succ (own_tll _ _)) f142 q130_0 rfl q130_2 q130_3 q130_4 q130_5 f143 (Nat.succ_le_succ (own_tll _ _)) f144 (Nat.succ_le_succ (own_tll _ _)) (by first | assumption | decide | omega)) 169 (argsL := []) (rest := []) f142 own_pd884 at_166 ?_
            rintro _ vm140 h140 C140 z140 ⟨r140, t140, rfl, K140, q140_0, q140_1⟩
            have lt_r140 : h140.size > r140 := q140_1.1.lt
            have lt_t140 : h140.size > t140 := q140_1.tlt
            refine gat1 ?_
            refine vSA 171 #[vi x0, vi x1, vi x2, vi x3, vi x4, vi fg5_1, vr r84, vi (own_nt x0), vr r85, vr r86, vr r87, vi fg11_88, vr b89, vr b129, vr r140, un, un] at_169 ?_
            have f145 := (f141.keep K140 nin0 nin0)
            have f146 := (f143.keep K140 nin0 nin0)
            have f147 := (f144.keep K140 nin0 nin0)
            have f148 := ((((((((q87_1.keep K88 nin0 nin0).ext E89).keep K90 nL nL).keep K125 nL nL).keep K127 nLL nLL).ext E129).keep K130 nL nL).keep K140 nin0 nin0)
            exact gmono (by decide) (by decide) (J2 _ _ _ ⟨(vr r84), (vi fg11_88), (vr b89), (vr b129), r85, t85, r86, t86, r87, t87, r140, t140, ((([] : List Int32) ++ (own_u fg5_1 ((own_fst x1) :: (own_tl (own_k x0 1) x1)))) ++ ((((((([] : List Int32) ++ [(91 : Int32)]) ++ ((own_fst x2) :: (own_tl (own_k x0 4) x2))) ++ [(44 : Int32)]) ++ [(32 : Int32)]) ++ ((own_fst x3) :: (own_tl (own_k x0 5) x3))) ++ [(93 : Int32)])), rfl, (((((((((((((Keep.refl h1 []).trans K84 all0).trans K85 all0).trans K86 all0).trans K87 all0).trans K88 all0).ext E89).trans K90 (allS (Or.inr (by omega)) all0)).trans K125 (allS (Or.inr (by omega)) all0)).trans K127 (allS (Or.inr (by omega)) (allS (Or.inr (by omega)) all0))).ext E129).trans K130 (allS (Or.inr (by omega)) all0)).trans K140 all0), (((((((((((C84.trans C85).trans C86).trans C87).trans C88).trans C89).trans C90).trans C125).trans C127).trans C129).trans C130).trans C140), f146, f147, f148, q140_1, (Or.inr ⟨r84, t84, rfl, ⟨by omega, by omega⟩, f145⟩), (by simp +decide [own_u, own_q, own_r, e5, nq])⟩)
          · refine vI 110 at_108 ?_
            refine vN 113 at_110 ((if0 _ _).trans (tlt (by rw [nq]; decide)).2.2.2) ?_
            refine vA 115 at_113 ?_
            refine vA 117 at_115 ?_
            have f150 := (A89.keep K90)
            refine gmV (y := mn240) (z := mn240) (oz hw 369) (oz hw 370) (nfSel (oz hw 372)) (oz hw 372) (oz hw 371) (oz hw 373) (oz hw 36) (fun O => own_add0 cx b89 r85 ((0 : Int32)) vm90 h90 O f150 q90_0 q90_1 n89 (((((q85_1.1.keep K86).keep K87).keep K88).ext E89).keep K90) q90_2 (by first | assumption | decide | omega)) 120 (argsL := [(.ref r85)]) (rest := []) f150 own_pd1062 at_117 ?_
            rintro _ vm149 h149 C149 z149 ⟨d149, kc149, rfl, K149, q149_0, q149_1, q149_2, q149_3, q149_4, q149_5, q149_6, q149_7⟩
            have lt_d149 : h149.size > d149 := q149_2.lt
            refine gat1 ?_
            refine vP 121 at_120 ?_
            refine vI 123 at_121 ?_
            refine vKc 124 (1 : Int32) at_123 ?_
            refine vNc 127 at_124 (tlt (by rw [nq]; decide)).2.2.2 ?_
            refine vA 129 at_127 ?_
            refine vA 131 at_129 ?_
            have f152 := (f150.keep K149)
            refine gmV (y := mn240) (z := mn240) (oz hw 369) (oz hw 370) (nfSel (oz hw 372)) (oz hw 372) (oz hw 371) (oz hw 373) (oz hw 36) (fun O => own_add1 cx b89 r86 d149 kc149 r85 (((0 : Int32) + (1 : Int32))) vm149 h149 O f152 q149_0 q149_1 q149_2 q149_5 (by first | assumption | decide | omega) n89 (((((q86_1.1.keep K87).keep K88).ext E89).keep K90).keep K149) q149_4 q149_7 (by first | assumption | decide | omega)) 134 (argsL := [(.ref r86)]) (rest := []) f152 own_pd1062 at_131 ?_
            rintro _ vm151 h151 C151 z151 ⟨rfl, K151, q151_0, q151_1, q151_2, q151_3⟩
            refine gat1 ?_
            refine vP 135 at_134 ?_
            refine vI 137 at_135 ?_
            refine vKc 138 (2 : Int32) at_137 ?_
            refine vNc 141 at_138 (tlt (by rw [nq]; decide)).2.2.2 ?_
            refine vA 143 at_141 ?_
            refine vA 145 at_143 ?_
            have f154 := (f152.keep K151)
            have f155 := (q149_5.keep K151)
            refine gmV (y := mn240) (z := mn240) (oz hw 369) (oz hw 370) (nfSel (oz hw 372)) (oz hw 372) (oz hw 371) (oz hw 373) (oz hw 36) (fun O => own_add2 cx b89 r87 d149 kc149 r85 r86 ((((0 : Int32) + (1 : Int32)) + (1 : Int32))) vm151 h151 O f154 q151_0 q151_1 q151_2 f155 (by first | assumption | decide | omega) n89 (((((q87_1.1.keep K88).ext E89).keep K90).keep K149).keep K151) q149_4 q151_3 (by first | assumption | decide | omega)) 148 (argsL := [(.ref r87)]) (rest := []) f154 own_pd1062 at_145 ?_
            rintro _ vm153 h153 C153 z153 ⟨rfl, K153, q153_0, q153_1, q153_2, q153_3⟩
            refine gat1 ?_
            refine vP 149 at_148 ?_
            refine gnewO hx (oz hw 58) (oz hw 59) (oz hw 60) 152 (hb hby at_149) rfl (by decide) (by decide) ?_
            intro b156 h156 g156 E156 C156 A156 D156 n156 L156
            have z156 := C156.2.1
            have lt_b156 : h156.size > b156 := A156.lt
            have F156_ui : Fld Z h156 b156 c6_ "ui" c1_ .null := D156 (Or.inr (oz hw 104)) (ty := (.object c13_)) (by decide)
            have F156_preferred : Fld Z h156 b156 c6_ "preferred" "Z" (.int (0 : Int32)) := D156 (Or.inr (oz hw 106)) (ty := .boolean) (by decide)
            have F156_terms : Fld Z h156 b156 c6_ "terms" c3_ .null := D156 (Or.inr (oz hw 136)) (ty := (.object c24_)) (by decide)
            refine vD 153 at_152 ?_
            refine vA 155 at_153 ?_
            refine vI 157 at_155 ?_
            refine vA 159 at_157 ?_
            have f158 := ((((((((((q84_1.keep K85 nin0 nin0).keep K86 nin0 nin0).keep K87 nin0 nin0).keep K88 nin0 nin0).ext E89).keep K90 nL nL).keep K149 nL nL).keep K151 nLL nLL).keep K153 nLL nLL).ext E156)
            have f159 := (q153_3.ext E156)
            have f160 := ((f154.keep K153).ext E156)
            have f161 := (q153_0.ext E156)
            have f162 := (q153_1.ext E156)
            have f163 := (q153_2.ext E156)
            have f164 := ((f155.keep K153).ext E156)
            have f165 := (((((((((q85_1.keep K86 nin0 nin0).keep K87 nin0 nin0).keep K88 nin0 nin0).ext E89).keep K90 nL nL).keep K149 nL nL).keep K151 nLL nLL).keep K153 nLL nLL).ext E156)
            have f166 := ((((((((q86_1.keep K87 nin0 nin0).keep K88 nin0 nin0).ext E89).keep K90 nL nL).keep K149 nL nL).keep K151 nLL nLL).keep K153 nLL nLL).ext E156)
            have f167 := (((((((q87_1.keep K88 nin0 nin0).ext E89).keep K90 nL nL).keep K149 nL nL).keep K151 nLL nLL).keep K153 nLL nLL).ext E156)
            refine gmI (y := mn563) rfl (oz hw 61) (oz hw 62) (oz hw 63) (oz hw 60) (fun O => own_cc3 cx b156 fg11_88 b89 (((((0 : Int32) + (1 : Int32)) + (1 : Int32)) + (1 : Int32))) (.null) ((0 : Int32)) (.null) ((.ref r84)) fg5_1 ((own_fst x1)) ((own_tl (own_k x0 1) x1)) d149 kc149 r85 r86 r87 t85 ((own_fst x2)) ((own_tl (own_k x0 4) x2)) t86 ((own_fst x3)) ((own_tl (own_k x0 5) x3)) t87 ((own_fst x4)) ((own_tl (own_k x0 6) x4)) vm153 h156 O (Or.inr ⟨e5, r84, t84, rfl, f158⟩) rfl (own_fstB _).1 (own_fstB _).2 (own_hpos _ _) A156 F156_ui F156_preferred F156_terms n156 (by first | assumption | decide | omega) f159 f160 f161 f162 f163 f164 (by first | assumption | decide | omega) f165 (own_fstB _).1 (own_fstB _).2 (own_hpos _ _) f166 (own_fstB _).1 (own_fstB _).2 (own_hpos _ _) f167 (own_fstB _).1 (own_fstB _).2 (own_hpos _ _) (by first | assumption | decide | omega) (by first | assumption | decide | omega)) 162 (argsL := [(.ref r84), (.int fg11_88), (.ref b89)]) (rest := [(.ref b156)]) (a := b156) own_pd1061 at_159 ?_
            rintro _ vm157 h157 C157 z157 ⟨r157, g157, kg157, rfl, K157, q157_0, q157_1, q157_2, q157_3, q157_4, q157_5⟩
            have lt_r157 : h157.size > r157 := q157_3.lt
            have lt_g157 : h157.size > g157 := q157_5.lt
            refine gat0 ?_
            refine vSA 164 #[vi x0, vi x1, vi x2, vi x3, vi x4, vi fg5_1, vr r84, vi (own_nt x0), vr r85, vr r86, vr r87, vi fg11_88, vr b89, vr b156, un, un, un] at_162 ?_
            refine vA 166 at_164 ?_
            have f169 := (f158.keep K157 nL nL)
            have f170 := (A156.keep K157)
            have f171 := (f165.keep K157 nL nL)
            have f172 := (f166.keep K157 nL nL)
            have f173 := (f167.keep K157 nL nL)
            refine gmV (y := mn1020) (z := mn1020) (oz hw 137) (oz hw 138) (nfSel (oz hw 140)) (oz hw 140) (oz hw 139) (oz hw 141) (oz hw 60) (fun O => own_ct3 cx b156 ((.ref r84)) fg5_1 (((own_fst x1) :: (own_tl (own_k x0 1) x1))) r157 g157 kg157 r85 t85 (((own_fst x2) :: (own_tl (own_k x0 4) x2))) r86 t86 (((own_fst x3) :: (own_tl (own_k x0 5) x3))) r87 t87 (((own_fst x4) :: (own_tl (own_k x0 6) x4))) vm157 h157 O (Or.inr ⟨e5, r84, t84, rfl, f169⟩) (Nat.succ_le_succ (own_tll _ _)) f170 q157_0 rfl q157_2 q157_3 q157_4 q157_5 f171 (Nat.succ_le_succ (own_tll _ _)) f172 (Nat.succ_le_succ (own_tll _ _)) f173 (Nat.succ_le_succ (own_tll _ _)) (by first | assumption | decide | omega)) 169 (argsL := []) (rest := []) f170 own_pd884 at_166 ?_
            rintro _ vm168 h168 C168 z168 ⟨r168, t168, rfl, K168, q168_0, q168_1⟩
            have lt_r168 : h168.size > r168 := q168_1.1.lt
            have lt_t168 : h168.size > t168 := q168_1.tlt
            refine gat1 ?_
            refine vSA 171 #[vi x0, vi x1, vi x2, vi x3, vi x4, vi fg5_1, vr r84, vi (own_nt x0), vr r85, vr r86, vr r87, vi fg11_88, vr b89, vr b156, vr r168, un, un] at_169 ?_
            have f174 := (f169.keep K168 nin0 nin0)
            have f175 := (f171.keep K168 nin0 nin0)
            have f176 := (f172.keep K168 nin0 nin0)
            have f177 := (f173.keep K168 nin0 nin0)
            exact gmono (by decide) (by decide) (J2 _ _ _ ⟨(vr r84), (vi fg11_88), (vr b89), (vr b156), r85, t85, r86, t86, r87, t87, r168, t168, ((([] : List Int32) ++ (own_u fg5_1 ((own_fst x1) :: (own_tl (own_k x0 1) x1)))) ++ (((((((((([] : List Int32) ++ [(91 : Int32)]) ++ ((own_fst x2) :: (own_tl (own_k x0 4) x2))) ++ [(44 : Int32)]) ++ [(32 : Int32)]) ++ ((own_fst x3) :: (own_tl (own_k x0 5) x3))) ++ [(44 : Int32)]) ++ [(32 : Int32)]) ++ ((own_fst x4) :: (own_tl (own_k x0 6) x4))) ++ [(93 : Int32)])), rfl, ((((((((((((((Keep.refl h1 []).trans K84 all0).trans K85 all0).trans K86 all0).trans K87 all0).trans K88 all0).ext E89).trans K90 (allS (Or.inr (by omega)) all0)).trans K149 (allS (Or.inr (by omega)) all0)).trans K151 (allS (Or.inr (by omega)) (allS (Or.inr (by omega)) all0))).trans K153 (allS (Or.inr (by omega)) (allS (Or.inr (by omega)) all0))).ext E156).trans K157 (allS (Or.inr (by omega)) all0)).trans K168 all0), ((((((((((((C84.trans C85).trans C86).trans C87).trans C88).trans C89).trans C90).trans C149).trans C151).trans C153).trans C156).trans C157).trans C168), f175, f176, f177, q168_1, (Or.inr ⟨r84, t84, rfl, ⟨by omega, by omega⟩, f174⟩), (by simp +decide [own_u, own_q, own_r, e5, nq])⟩)
        · intro J88
          refine vIN 84 at_83 ?_
          refine vKb 86 (7 : Int32) at_84 ?_
          refine gs (mkF m 87 #[vi x0, vi x1, vi x2, vi x3, vi x4, vi fg5_1, vr r84, vi (own_nt x0), vr r85, vr r86, vr r87, un, un, un, un, un, un] [(.int ((x0.toUInt32 >>> ((7 : Int32) &&& 31).toUInt32).toInt32))]) (fun _ _ A kq => XS.iushr A hx rfl (hb hby at_86) rfl kq) ?_
          refine vKc 88 (1 : Int32) at_87 ?_
          refine viand 89 (((x0.toUInt32 >>> ((7 : Int32) &&& 31).toUInt32).toInt32) &&& (1 : Int32)) at_88 ?_
          by_cases e0 : (((x0.toUInt32 >>> ((7 : Int32) &&& 31).toUInt32).toInt32) &&& (1 : Int32)) = (0 : Int32)
          · refine vY 96 at_89 ((if0 _ _).trans (teq e0).1) ?_
            refine vKc 97 (0 : Int32) at_96 ?_
            refine ginfo fun _ Hq _ => ?_
            exact gmono (by decide) (by decide) (J88 _ _ _ ⟨(0 : Int32), rfl, (Keep.refl h87 []), (CHq.refl Hq), (by first | assumption | rfl | decide | exact Or.inl rfl | exact Or.inr (by assumption) | omega)⟩)
          · refine vN 92 at_89 ((if0 _ _).trans (feq e0).1) ?_
            refine vKc 93 (1 : Int32) at_92 ?_
            refine vG 97 at_93 ?_
            refine ginfo fun _ Hq _ => ?_
            exact gmono (by decide) (by decide) (J88 _ _ _ ⟨(1 : Int32), rfl, (Keep.refl h87 []), (CHq.refl Hq), (by first | assumption | rfl | decide | exact Or.inl rfl | exact Or.inr (by assumption) | omega)⟩)
  · intro J1
    refine vIN 1 at_0 ?_
    refine vKc 2 (1 : Int32) at_1 ?_
    refine viand 3 (x0 &&& (1 : Int32)) at_2 ?_
    by_cases e0 : (x0 &&& (1 : Int32)) = (0 : Int32)
    · refine vY 10 at_3 ((if0 _ _).trans (teq e0).1) ?_
      refine vKc 11 (0 : Int32) at_10 ?_
      refine ginfo fun _ Hq _ => ?_
      exact gmono (by decide) (by decide) (J1 _ _ _ ⟨(0 : Int32), rfl, (Keep.refl h0 []), (CHq.refl Hq), (by first | assumption | rfl | decide | exact Or.inl rfl | exact Or.inr (by assumption) | omega)⟩)
    · refine vN 6 at_3 ((if0 _ _).trans (feq e0).1) ?_
      refine vKc 7 (1 : Int32) at_6 ?_
      refine vG 11 at_7 ?_
      refine ginfo fun _ Hq _ => ?_
      exact gmono (by decide) (by decide) (J1 _ _ _ ⟨(1 : Int32), rfl, (Keep.refl h0 []), (CHq.refl Hq), (by first | assumption | rfl | decide | exact Or.inl rfl | exact Or.inr (by assumption) | omega)⟩)
theorem comes_1 {Post : Tables → Env → Array Value → State → Outcome → State → Prop} (hpost : ∀ tb e args s v u, (limb_1_1.after args s (.returned v) u = true ∧ limb_1_2.after args s (.returned v) u = true ∧ True) → ReturnedEndW s (.returned v) u (Jvm.fieldLocs frame_1_writes args s ++ Jvm.arrayLocs frame_1_arrays args s ++ Jvm.staticLocs frame_1_statics s) 80 3520 → Post tb e args s (.returned v) u) :
    ArmFor flags0 classFile x code maxLocals ret World_1 tables_1 room_1 Calls_1 rest_1 Pre_1 Post := by
  intro l hfl _ _ p e ha hc hk s m args below hf hA hF happ hP
  obtain ⟨hcalls, hrest, hpre⟩ := hP
  obtain ⟨-, -, -, hnamed, -, -, -, hat⟩ := (Spec.applies_iff hf).mp happ
  obtain ⟨hg, hn⟩ := and_e (Cond.before_iff.mp (show (Jvm.Cond.and given_1 narrow_1).before args s = true from hpre))
  obtain ⟨gc, g0⟩ := and_e hg
  obtain ⟨ga0, g1⟩ := and_e g0
  obtain ⟨ga1, g2⟩ := and_e g1
  obtain ⟨ga2, g3⟩ := and_e g2
  obtain ⟨ga3, g4⟩ := and_e g3
  have ga4 := g4
  obtain ⟨w0, w1, w2, w3, w4, rfl⟩ : ∃ w0 w1 w2 w3 w4 : Value, args = #[w0, w1, w2, w3, w4] := by
    have hs : args.size = 5 := by simpa [Cond.value, given_1] using gc
    obtain ⟨L⟩ := args
    match L, hs with
    | [w0, w1, w2, w3, w4], _ => exact ⟨w0, w1, w2, w3, w4, rfl⟩
  have hw := fun d (hd : d ∈ tables_1) => atoms_spec (ws := Jvm.Cond.code x code maxLocals ret :: tables_1) hat d (List.mem_cons_of_mem _ hd)
  have hfit : Fit s := fun {y c} hc i hi => by
    obtain ⟨ha, rfl⟩ := Array.getElem?_eq_some_iff.mp hc
    have q := List.all_eq_true.mp ((Array.all_eq_true_iff_forall_mem.mp hF) _ (Array.getElem_mem ha)) i (List.mem_range.mpr hi)
    simpa [Array.getElem?_eq_getElem hi] using q
  obtain ⟨hsets, hown0⟩ := atoms_of _ (rest_1_c_eq ▸ (show rest_1_c.before _ s = true from hrest))
  obtain ⟨i0, ei0⟩ := is_v ga0
  obtain rfl : w0 = (.int i0) := Option.some.inj ei0
  obtain ⟨i1, ei1⟩ := is_v ga1
  obtain rfl : w1 = (.int i1) := Option.some.inj ei1
  obtain ⟨i2, ei2⟩ := is_v ga2
  obtain rfl : w2 = (.int i2) := Option.some.inj ei2
  obtain ⟨i3, ei3⟩ := is_v ga3
  obtain rfl : w3 = (.int i3) := Option.some.inj ei3
  obtain ⟨i4, ei4⟩ := is_v ga4
  obtain rfl : w4 = (.int i4) := Option.some.inj ei4
  obtain ⟨zc, eG⟩ := is_v (Cond.before_iff.mp (hsets _ (List.mem_of_getElem? (i := 1) rfl)))
  have Scs := Sta.start eG (Or.inl (hsets _ (List.mem_of_getElem? (i := 0) rfl)))
  have hcw := hsets _ (List.mem_of_getElem? (i := 2) rfl)
  have hzc : ¬ zc = 0 := by
    have q := not_v (Cond.before_iff.mp hcw)
    intro z
    have q2 := eq_i (x := .int zc) (y := .int 0) eG (Term.int_eval (0)) (by rw [z])
    rw [q2] at q; cases q
  obtain ⟨fm, eF, hfm⟩ := isR_v (Cond.before_iff.mp (hsets _ (List.mem_of_getElem? (i := 8) rfl)))
  have Sfm := Sta.start eF (Or.inl (hsets _ (List.mem_of_getElem? (i := 7) rfl)))
  have hEL : EW s _ consts_1 := (EW.cons (oz hw 160) (by decide +kernel) (EW.cons (oz hw 365) (by decide +kernel) (EW.cons (oz hw 262) (by decide +kernel) EW.nil)))
  have hCH : CHv s consts_1 s.vm s.heap := CHv.start hEL (fun p hp => hcalls.2.1 p hp) hcw (oz hw 23) (oz hw 5)
  have ja_dz := (Cond.before_iff.mp (hsets _ (List.mem_of_getElem? (i := 15) rfl)))
  obtain ⟨dz, e_dz⟩ := arr_v ja_dz
  obtain ⟨c_dz, A_dz⟩ := Arr.start e_dz ja_dz
  have hA_dz : s.arrayAt? dz = some c_dz := A_dz.fin (Vm.Alike.refl _)
  obtain ⟨l_dz, m_dz⟩ := lenI (Cond.before_iff.mp (hsets _ (List.mem_of_getElem? (i := 17) rfl))) e_dz hA_dz
  have V_dz : Arv s s.heap dz c_dz.cls (.object c12_) (0 : Int32) [] .null := Arv.start hfit A_dz l_dz m_dz (by decide) rfl trivial
  have je := (Cond.before_iff.mp (hsets _ (List.mem_of_getElem? (i := 20) rfl)))
  obtain ⟨el, e_el⟩ := exa_v je
  have ja_ee := (Cond.before_iff.mp (hsets _ (List.mem_of_getElem? (i := 21) rfl)))
  obtain ⟨ee, e_ee⟩ := arr_v ja_ee
  obtain ⟨c_ee, A_ee⟩ := Arr.start e_ee ja_ee
  have hA_ee : s.arrayAt? ee = some c_ee := A_ee.fin (Vm.Alike.refl _)
  obtain ⟨l_ee, m_ee⟩ := lenI (Cond.before_iff.mp (hsets _ (List.mem_of_getElem? (i := 23) rfl))) e_ee hA_ee
  have V_ee : Arv s s.heap ee c_ee.cls (.object c12_) (0 : Int32) [] .null := Arv.start hfit A_ee l_ee m_ee (by decide) rfl trivial
  have jm := (Cond.before_iff.mp (hsets _ (List.mem_of_getElem? (i := 291) rfl)))
  obtain ⟨em, e_em⟩ := exa_v jm
  obtain ⟨mc, mk, mr, M1, M2, M3, mcell, M4, M5⟩ := hcalls.1
  have hL0 : (∃ dz el ee em mr : Addr, ∃ kd ke : ClassId, Sta s s.heap c17_ "DEFAULTCAPACITY_EMPTY_ELEMENTDATA" c4_ (.ref dz) ∧ Exa s s.heap dz c4_ ∧ Arv s s.heap dz kd (.object c12_) (0 : Int32) [] .null ∧ Sta s s.heap c19_ "EMPTY_LIST" "Ljava/util/ImmutableCollections$ListN;" (.ref el) ∧ Exa s s.heap el c22_ ∧ Fld s s.heap el c22_ "elements" c4_ (.ref ee) ∧ Arv s s.heap ee ke (.object c12_) (0 : Int32) [] .null ∧ Fld s s.heap el c22_ c5_ "Z" (.int (0 : Int32)) ∧ Sta s s.heap c19_ "EMPTY" c0_ (.ref em) ∧ Exa s s.heap em c12_ ∧ Mir s c4_ mr) := ⟨dz, el, ee, em, mr, c_dz.cls, c_ee.cls, Sta.start e_dz (Or.inr ⟨ow hw 36 rfl, (hsets _ (List.mem_of_getElem? (i := 11) rfl))⟩), Exa.start e_dz (Cond.before_iff.mp (hsets _ (List.mem_of_getElem? (i := 16) rfl))), V_dz, Sta.start e_el (Or.inl (hsets _ (List.mem_of_getElem? (i := 19) rfl))), Exa.start e_el je, Fld.start ((fld_at e_el).symm.trans e_ee), V_ee, fldI e_el (Cond.before_iff.mp (hsets _ (List.mem_of_getElem? (i := 24) rfl))), Sta.start e_em (Or.inl (hsets _ (List.mem_of_getElem? (i := 290) rfl))), Exa.start e_em jm, ⟨mc, mk, M1, M2, M3, mcell, M4, M5⟩⟩
  have jA := (Cond.before_iff.mp (hsets _ (List.mem_of_getElem? (i := 30) rfl)))
  obtain ⟨ca, eca⟩ := arr_v jA
  obtain ⟨cca, Aca⟩ := Arr.start eca jA
  have hAca : s.arrayAt? ca = some cca := Aca.fin (Vm.Alike.refl _)
  obtain ⟨lA1, lA2⟩ := lenI (Cond.before_iff.mp (hsets _ (List.mem_of_getElem? (i := 32) rfl))) eca hAca
  have Vca : Arv s s.heap ca cca.cls .int (256 : Int32) (own_tabI.map Value.int) (.int (0 : Int32)) := Arv.start hfit Aca lA1 lA2 (by decide) (by decide) (own_has eca Aca.1 hsets)
  have jI := (Cond.before_iff.mp (hsets _ (List.mem_of_getElem? (i := 27) rfl)))
  obtain ⟨cdi, ecdi⟩ := exa_v jI
  have hB0 : (∃ cdi ca : Addr, ∃ kA : ClassId, Sta s s.heap c11_ "instance" "Ljava/lang/CharacterDataLatin1;" (.ref cdi) ∧ Exa s s.heap cdi c11_ ∧ Sta s s.heap c11_ "A" "[I" (.ref ca) ∧ Arv s s.heap ca kA .int (256 : Int32) (own_tabI.map Value.int) (.int (0 : Int32))) := ⟨cdi, ca, cca.cls, Sta.start ecdi (Or.inl (hsets _ (List.mem_of_getElem? (i := 26) rfl))), Exa.start ecdi jI, Sta.start eca (Or.inl (hsets _ (List.mem_of_getElem? (i := 29) rfl))), Vca⟩
  have cx : Ctx s _ := ⟨hw, hEL, ⟨zc, Scs, hzc⟩, ⟨fm, Sfm, hfm⟩, hL0, hB0⟩
  obtain ⟨n, o, h1, h2, h3, _, L, rfl, ⟨N, ⟨rfl, -⟩⟩, hCq, hq⟩ := own_law l s _ cx tables_1 i0 i1 i2 i3 i4 s.vm s.heap ⟨Nat.le_refl _, fun _ _ q => q⟩ p e ha hc hk s m _ below hf ((Spec.applies_iff_loose hf).mp happ).1 ⟨rfl, State.Warmed39.refl s, rfl, CHq.refl hCH, State.Warmed39.of_rootvm (s := s) rfl (State.Warmed39.refl s)⟩ trivial
  refine ⟨n, _, h1, h2, h3, hpost _ _ _ _ _ _ ⟨Cond.after_iff.mpr rfl, Cond.after_iff.mpr (eq_i res_at (Term.int_eval (1)) rfl), trivial⟩ ⟨hq.1, hq.2.1, hq.2.2.1, (hq.2.2.2.sift fun y hy => Or.inr (N y hy)).mono (by decide) (by decide)⟩⟩
theorem main_1_1 : Claimed_1_1 := comes_1 fun _ _ _ _ _ _ h hF => ⟨h.1, hF⟩
theorem main_1_2 : Claimed_1_2 := comes_1 fun _ _ _ _ _ _ h hF => ⟨h.2.1, hF⟩
end Jvm.Pilot.@@N@@
namespace Jvm.Pilot.@@N@@
open Jvm Jvm.ClassFile Sem Op Lib Jvm.Free Jvm.Stand Jvm.Pilot.@@N@@.Jvm.D
/-! MADE BY PROGRAM (witnessworld.py) out of the Statement's table words and the real class files: 48 classes; the members and pool entries that the words name. The judged class is class 1, her method 4. -/
namespace start1
open Jvm.ClassFile
set_option maxRecDepth 65536
abbrev cd_ (s l : Nat) (b : ByteArray) : Code := { maxStack := s, maxLocals := l, code := b, exceptionTable := #[], attributes := #[] }
abbrev md_ (n d : String) (ps : List FieldType) (r : Option FieldType) (a : Nat) (c : Option Code) : Method := { name := n, desc := d, sig := { parameters := ps, returnType := r }, accessFlags := a, code := c }
abbrev fd_ (n : String) (ty : FieldType) (a s : Nat) : Field := { name := n, type := ty, accessFlags := a, slot := s, constantValue := 0 }
abbrev q0_ : String := "$assertionsDisabled"
abbrev q1_ : String := "()Ljava/lang/Object;"
abbrev q2_ : String := "()Ljava/lang/String;"
abbrev q3_ : String := "()Ljava/util/Iterator;"
abbrev q4_ : String := "()Ljava/util/List;"
abbrev q5_ : String := "()[Ljava/lang/Object;"
abbrev q6_ : String := "(C)Ljava/lang/AbstractStringBuilder;"
abbrev q7_ : String := "(C)Ljava/lang/StringBuilder;"
abbrev q8_ : String := "(I)Ljava/lang/Object;"
abbrev q9_ : String := "(IILjava/util/function/BiFunction;)I"
abbrev q10_ : String := "(Ljava/lang/AbstractStringBuilder;Ljava/lang/Void;)V"
abbrev q11_ : String := "(Ljava/lang/Object;)Ljava/lang/Object;"
abbrev q12_ : String := "(Ljava/lang/Object;)Ljava/lang/String;"
abbrev q13_ : String := "(Ljava/lang/Object;)Ljava/lang/StringBuilder;"
abbrev q14_ : String := "(Ljava/lang/Object;)V"
abbrev q15_ : String := "(Ljava/lang/Object;)Z"
abbrev q16_ : String := "(Ljava/lang/Object;ILjava/lang/Object;II)V"
abbrev q17_ : String := "(Ljava/lang/Object;Ljava/lang/Object;)V"
abbrev q18_ : String := "(Ljava/lang/Object;[Ljava/lang/Object;I)V"
abbrev q19_ : String := "(Ljava/lang/String;)Ljava/lang/AbstractStringBuilder;"
abbrev q20_ : String := "(Ljava/lang/String;)Ljava/lang/StringBuilder;"
abbrev q21_ : String := "(Ljava/lang/String;ZLjava/util/List;)V"
abbrev q22_ : String := "(Ljava/lang/String;[CII)Z"
abbrev q23_ : String := "(Ljava/lang/StringBuilder;)V"
abbrev q24_ : String := "(Ljava/util/ArrayList;)V"
abbrev q25_ : String := "(Ljava/util/Collection;)Ljava/util/List;"
abbrev q26_ : String := "(Ljava/util/List;I)V"
abbrev q27_ : String := "([CILjava/lang/String;)I"
abbrev q28_ : String := "([Ljava/lang/Object;)Ljava/util/List;"
abbrev q29_ : String := "([Ljava/lang/Object;I)[Ljava/lang/Object;"
abbrev q30_ : String := "([Ljava/lang/Object;ILjava/lang/Class;)[Ljava/lang/Object;"
abbrev q31_ : String := "([Ljava/lang/Object;Z)V"
abbrev q32_ : String := "<init>"
abbrev q33_ : String := "[Ljava/lang/Object;"
abbrev q34_ : String := "checkIndex"
abbrev q35_ : String := "coderFromArrayLen"
abbrev q36_ : String := "com/example/headings_from_text/headingsfromtext/vocabulary/Concept"
abbrev q37_ : String := "com/example/headings_from_text/headingsfromtext/vocabulary/ConceptToStringPinLaw"
abbrev q38_ : String := "indexOfNonWhitespace"
abbrev q39_ : String := "iterator"
abbrev q40_ : String := "java/io/InputStream"
abbrev q41_ : String := "java/io/PrintStream"
abbrev q42_ : String := "java/io/Serializable"
abbrev q43_ : String := "java/lang/AbstractStringBuilder"
abbrev q44_ : String := "java/lang/Appendable"
abbrev q45_ : String := "java/lang/CharSequence"
abbrev q46_ : String := "java/lang/CharacterDataLatin1"
abbrev q47_ : String := "java/lang/Comparable"
abbrev q48_ : String := "java/lang/Math"
abbrev q49_ : String := "java/lang/Object"
abbrev q50_ : String := "java/lang/String"
abbrev q51_ : String := "java/lang/StringBuilder"
abbrev q52_ : String := "java/lang/StringLatin1"
abbrev q53_ : String := "java/lang/StringUTF16"
abbrev q54_ : String := "java/lang/constant/Constable"
abbrev q55_ : String := "java/lang/constant/ConstantDesc"
abbrev q56_ : String := "java/util/AbstractCollection"
abbrev q57_ : String := "java/util/AbstractList"
abbrev q58_ : String := "java/util/ArrayList"
abbrev q59_ : String := "java/util/ArrayList$Itr"
abbrev q60_ : String := "java/util/Arrays"
abbrev q61_ : String := "java/util/Collection"
abbrev q62_ : String := "java/util/ImmutableCollections"
abbrev q63_ : String := "java/util/ImmutableCollections$AbstractImmutableCollection"
abbrev q64_ : String := "java/util/ImmutableCollections$AbstractImmutableList"
abbrev q65_ : String := "java/util/ImmutableCollections$List12"
abbrev q66_ : String := "java/util/ImmutableCollections$ListItr"
abbrev q67_ : String := "java/util/ImmutableCollections$ListN"
abbrev q68_ : String := "java/util/ImmutableCollections$MapN"
abbrev q69_ : String := "java/util/ImmutableCollections$SetN"
abbrev q70_ : String := "java/util/Iterator"
abbrev q71_ : String := "java/util/List"
abbrev q72_ : String := "java/util/Objects"
abbrev q73_ : String := "java/util/RandomAccess"
abbrev q74_ : String := "java/util/SequencedCollection"
abbrev q75_ : String := "java/util/function/BiFunction"
abbrev q76_ : String := "jdk/internal/util/Preconditions"
abbrev q77_ : String := "requireNonNull"
abbrev q78_ : String := "serialVersionUID"
abbrev q79_ : String := "toString"
def u (s : String) : CpInfo := .utf8 (stringToUtf16 s)
/-- a pool by its gaps: so many unusable entries, then the entry; so many at the end -/
def gap : Nat → List CpInfo → List CpInfo
  | 0, r => r
  | n + 1, r => .unusable :: gap n r
def poolList (es : List (Nat × CpInfo)) (last : Nat) : List CpInfo := es.foldr (fun e r => gap e.1 (e.2 :: r)) (gap last [])
def pool (es : List (Nat × CpInfo)) (last : Nat) : Array CpInfo := ⟨poolList es last⟩
def fileOf (pool : Array CpInfo) (this : Nat) (attrs : Array Attribute := #[]) (ms : Array MethodInfo := #[]) (fl : Nat := 33) (sup : Nat := 0) (ifs : Array Nat := #[]) (fds : Array FieldInfo := #[]) : ClassFile where
  minorVersion := 0
  majorVersion := 65
  constantPool := pool
  accessFlags := fl
  thisClass := this
  superClass := sup
  interfaces := ifs
  fields := fds
  methods := ms
  attributes := attrs
def plain (name : String) (sup : Option ClassId) : Class where
  name := name
  kind := .ordinary
  loader := none
  accessFlags := 33
  super := sup
  interfaces := #[]
  cf := none
  fields := #[]
  methods := #[]
  instanceTypes := #[]
  staticTypes := #[]
  resolved := #[]
  callSites := []
  init := .initialized
  statics := none
  mirror := none

def pool0 : Array CpInfo := pool [(5, u q32_), (0, u "()V"), (1, .class_ 10), (1, u q49_), (0, u "getClass"), (0, u "()Ljava/lang/Class;"), (5, u q2_), (18, u q79_)] 86

def k0c0 : Code := cd_ 0 1 object_method_1_code
def k0m0 : Method := md_ q32_ "()V" [] (none) 1 (some k0c0)
def k0m1 : Method := md_ "getClass" "()Ljava/lang/Class;" [] (some (.object "java/lang/Class")) 273 (none)
def k0c2 : Code := cd_ 2 1 (⟨#[0xbb, 0x00, 0x01, 0x59, 0xb7, 0x00, 0x03, 0x2a, 0xb6, 0x00, 0x07, 0xb6, 0x00, 0x0d, 0xb6, 0x00, 0x13, 0x12, 0x17, 0xb6, 0x00, 0x13, 0x2a, 0xb6, 0x00, 0x19, 0xb8, 0x00, 0x1d, 0xb6, 0x00, 0x13, 0xb6, 0x00, 0x23, 0xb0]⟩)
def k0m2 : Method := md_ q79_ q2_ [] (some (.object q50_)) 1 (some k0c2)
/-- java/lang/Object -/
def k0 : Class := { plain q49_ none with
  accessFlags := 33
  interfaces := #[]
  cf := some (fileOf pool0 8 #[] #[⟨1, 5, 6, #[]⟩, ⟨273, 11, 12, #[]⟩, ⟨1, 37, 18, #[]⟩] 33 0 #[] #[])
  fields := #[]
  methods := #[k0m0, k0m1, k0m2]
  instanceTypes := #[]
  staticTypes := #[]
  resolved := Array.replicate 124 none
  statics := none }

def pool1 : Array CpInfo := pool [(2, .class_ 4), (0, .nameAndType 5 6), (0, u q49_), (0, u q32_), (0, u "()V"), (0, .class_ 8), (0, u q50_), (0, .methodref 7 10), (0, .nameAndType 5 11), (0, u "([C)V"), (0, .methodref 7 13), (0, .nameAndType 14 15), (0, u "charAt"), (0, u "(I)C"), (0, .methodref 7 17), (0, .nameAndType 18 19), (0, u "length"), (0, u "()I"), (0, .methodref 21 22), (0, .class_ 23), (0, .nameAndType 24 25), (0, u q37_), (0, u "mk"), (0, u "(II)Ljava/lang/String;"), (0, .class_ 27), (0, u q58_), (0, .methodref 26 3), (0, .methodref 26 30), (0, .nameAndType 31 32), (0, u "add"), (0, u q15_), (0, .class_ 34), (0, u q36_), (0, .methodref 33 36), (0, .nameAndType 5 37), (0, u q21_), (0, .methodref 33 39), (0, .nameAndType 40 41), (0, u q79_), (0, u q2_), (0, .methodref 21 43), (0, .nameAndType 44 45), (0, u "put"), (0, u q27_), (0, .methodref 21 47), (0, .nameAndType 48 49), (0, u "at"), (0, u q22_), (3, u "law"), (0, u "(IIIII)Z")] 4

def k1m0 : Method := md_ q32_ "()V" [] (none) 1 (none)
def k1c1 : Code := cd_ 6 4 method_2_code
def k1m1 : Method := md_ "mk" "(II)Ljava/lang/String;" [.int, .int] (some (.object q50_)) 10 (some k1c1)
def k1c2 : Code := cd_ 4 3 method_3_code
def k1m2 : Method := md_ "put" q27_ [(.array .char), .int, (.object q50_)] (some .int) 10 (some k1c2)
def k1c3 : Code := cd_ 3 4 method_4_code
def k1m3 : Method := md_ "at" q22_ [(.object q50_), (.array .char), .int, .int] (some .boolean) 10 (some k1c3)
def k1c4 : Code := cd_ 5 17 code
def k1m4 : Method := md_ "law" "(IIIII)Z" [.int, .int, .int, .int, .int] (some .boolean) 9 (some k1c4)
/-- com/example/headings_from_text/headingsfromtext/vocabulary/ConceptToStringPinLaw -/
def k1 : Class := { plain q37_ (some 0) with
  accessFlags := 49
  interfaces := #[]
  cf := some (fileOf pool1 21 #[] #[⟨1, 5, 6, #[]⟩, ⟨10, 24, 25, #[]⟩, ⟨10, 44, 45, #[]⟩, ⟨10, 48, 49, #[]⟩, ⟨9, 53, 54, #[]⟩] 49 2 #[] #[])
  fields := #[]
  methods := #[k1m0, k1m1, k1m2, k1m3, k1m4]
  instanceTypes := #[]
  staticTypes := #[]
  resolved := Array.replicate 59 none
  statics := none }

def pool2 : Array CpInfo := pool [(1, .class_ 2), (0, u q42_), (0, .class_ 4), (0, u q49_)] 2

/-- java/io/Serializable -/
def k2 : Class := { plain q42_ (some 0) with
  accessFlags := 1537
  interfaces := #[]
  cf := some (fileOf pool2 1 #[] #[] 1537 3 #[] #[])
  fields := #[]
  methods := #[]
  instanceTypes := #[]
  staticTypes := #[]
  resolved := Array.replicate 7 none
  statics := none }

def pool3 : Array CpInfo := pool [(1, .class_ 2), (0, u q47_), (0, .class_ 4), (0, u q49_)] 7

/-- java/lang/Comparable -/
def k3 : Class := { plain q47_ (some 0) with
  accessFlags := 1537
  interfaces := #[]
  cf := some (fileOf pool3 1 #[] #[] 1537 3 #[] #[])
  fields := #[]
  methods := #[]
  instanceTypes := #[]
  staticTypes := #[]
  resolved := Array.replicate 12 none
  statics := none }

def pool4 : Array CpInfo := pool [(2, .class_ 4), (1, u q45_), (42, .class_ 48), (0, u "java/lang/CharSequence$1CodePointIterator"), (10, .class_ 60), (0, u "java/lang/CharSequence$1CharIterator"), (5, .class_ 67), (0, u q49_)] 63

/-- java/lang/CharSequence -/
def k4 : Class := { plain q45_ (some 0) with
  accessFlags := 1537
  interfaces := #[]
  cf := some (fileOf pool4 2 #[.nestMembers #[47, 59]] #[] 1537 66 #[] #[])
  fields := #[]
  methods := #[]
  instanceTypes := #[]
  staticTypes := #[]
  resolved := Array.replicate 131 none
  statics := none }

def pool5 : Array CpInfo := pool [(1, .class_ 2), (0, u q54_), (0, .class_ 4), (0, u q49_)] 6

/-- java/lang/constant/Constable -/
def k5 : Class := { plain q54_ (some 0) with
  accessFlags := 1537
  interfaces := #[]
  cf := some (fileOf pool5 1 #[] #[] 1537 3 #[] #[])
  fields := #[]
  methods := #[]
  instanceTypes := #[]
  staticTypes := #[]
  resolved := Array.replicate 11 none
  statics := none }

def pool6 : Array CpInfo := pool [(1, .class_ 2), (0, u q55_), (0, .class_ 4), (0, u q49_)] 32

/-- java/lang/constant/ConstantDesc -/
def k6 : Class := { plain q55_ (some 0) with
  accessFlags := 1537
  interfaces := #[]
  cf := some (fileOf pool6 1 #[] #[] 1537 3 #[] #[])
  fields := #[]
  methods := #[]
  instanceTypes := #[]
  staticTypes := #[]
  resolved := Array.replicate 37 none
  statics := none }

def pool7 : Array CpInfo := pool [(1, .methodref 2 3), (0, .class_ 4), (0, .nameAndType 5 6), (0, u q49_), (0, u q32_), (0, u "()V"), (2, .fieldref 10 11), (0, .class_ 12), (0, .nameAndType 13 14), (0, u q50_), (0, u "value"), (0, u "[B"), (0, .fieldref 10 16), (0, .nameAndType 17 18), (0, u "coder"), (0, u "B"), (2, u "hash"), (0, u "I"), (2, u "hashIsZero"), (0, u "Z"), (0, .methodref 10 28), (0, .nameAndType 5 29), (0, u "([CIILjava/lang/Void;)V"), (8, .fieldref 10 39), (0, .nameAndType 40 26), (0, u "COMPACT_STRINGS"), (1, .class_ 44), (1, u q53_), (0, u "compress"), (1, .methodref 42 48), (0, .nameAndType 49 50), (0, u q35_), (0, u "([BI)B"), (3, .methodref 55 56), (0, .class_ 57), (0, .nameAndType 58 59), (0, u q60_), (0, u "copyOfRange"), (0, u "([BII)[B"), (47, .class_ 109), (1, u q52_), (32, u "()Z"), (34, .methodref 42 178), (0, .nameAndType 45 179), (0, u "([CII)[B"), (13, .class_ 195), (1, u "java/lang/System"), (16, .methodref 193 213), (0, .nameAndType 214 215), (0, u "arraycopy"), (0, u q16_), (118, u "()I"), (0, .methodref 10 336), (0, .nameAndType 17 337), (0, u "()B"), (2, u "()[B"), (22, u "([BI)C"), (27, u "(II)V"), (35, u "(I)C"), (34, .nameAndType 463 464), (0, u q79_), (0, u q2_), (24, .methodref 10 490), (0, .nameAndType 5 491), (0, u q10_), (0, .methodref 10 493), (0, .nameAndType 494 142), (0, u "isLatin1"), (0, .methodref 107 496), (0, .nameAndType 497 363), (0, u "charAt"), (3, u q34_), (3, .methodref 10 506), (0, .nameAndType 507 334), (0, u "length"), (24, u "getBytes"), (16, .methodref 550 506), (0, .class_ 551), (0, u q43_), (0, .methodref 550 553), (0, .nameAndType 554 340), (0, u "getValue"), (20, .class_ 576), (0, u q45_), (22, u "CASE_INSENSITIVE_ORDER"), (0, u "Ljava/util/Comparator;"), (30, u "([B)I"), (150, u "valueOf"), (25, u q12_), (12, u "([BIB)V"), (54, .methodref 10 877), (0, .nameAndType 878 334), (0, u q38_), (45, .methodref 107 925), (0, .nameAndType 878 631), (26, u "isBlank"), (54, .methodref 2 462), (2, u "([C)V"), (36, .methodref 550 493), (5, .fieldref 1054 1055), (0, .class_ 1056), (0, .nameAndType 1057 1058), (0, u q76_), (0, u "SIOOBE_FORMATTER"), (0, u "Ljava/util/function/BiFunction;"), (0, .methodref 1054 1060), (0, .nameAndType 501 1061), (0, u q9_), (39, u "serialPersistentFields"), (0, u "[Ljava/io/ObjectStreamField;"), (0, .class_ 1104), (0, u "java/lang/String$CaseInsensitiveComparator"), (1, .class_ 1107), (0, u q42_), (0, .class_ 1109), (0, u q47_), (0, .class_ 1111), (0, u q54_), (0, .class_ 1113), (0, u q55_), (2, u q78_), (0, u "J"), (3, u "REPL"), (0, u "C"), (2, u "LATIN1"), (1, u "UTF16"), (105, u q23_)] 217

def k7m0 : Method := md_ q32_ "()V" [] (none) 1 (none)
def k7c1 : Code := cd_ 5 2 jdk_42_method_3_code
def k7m1 : Method := md_ q32_ "([C)V" [(.array .char)] (none) 1 (some k7c1)
def k7c2 : Code := cd_ 3 2 jdk_42_method_53_code
def k7m2 : Method := md_ q32_ q23_ [(.object q51_)] (none) 1 (some k7c2)
def k7c3 : Code := cd_ 2 1 jdk_42_method_54_code
def k7m3 : Method := md_ "length" "()I" [] (some .int) 1 (some k7c3)
def k7c4 : Code := cd_ 2 2 jdk_42_method_56_code
def k7m4 : Method := md_ "charAt" "(I)C" [.int] (some .char) 1 (some k7c4)
def k7c5 : Code := cd_ 2 1 jdk_42_method_117_code
def k7m5 : Method := md_ "isBlank" "()Z" [] (some .boolean) 1 (some k7c5)
def k7c6 : Code := cd_ 1 1 jdk_42_method_120_code
def k7m6 : Method := md_ q38_ "()I" [] (some .int) 2 (some k7c6)
def k7c7 : Code := cd_ 1 1 jdk_42_method_126_code
def k7m7 : Method := md_ q79_ q2_ [] (some (.object q50_)) 1 (some k7c7)
def k7c8 : Code := cd_ 1 1 jdk_42_method_133_code
def k7m8 : Method := md_ "valueOf" q12_ [(.object q49_)] (some (.object q50_)) 9 (some k7c8)
def k7c9 : Code := cd_ 5 4 jdk_42_method_147_code
def k7m9 : Method := md_ "getBytes" "([BIB)V" [(.array .byte), .int, .byte] (none) 0 (some k7c9)
def k7c10 : Code := cd_ 4 6 jdk_42_method_149_code
def k7m10 : Method := md_ q32_ "([CIILjava/lang/Void;)V" [(.array .char), .int, .int, (.object "java/lang/Void")] (none) 2 (some k7c10)
def k7c11 : Code := cd_ 5 5 jdk_42_method_150_code
def k7m11 : Method := md_ q32_ q10_ [(.object q43_), (.object "java/lang/Void")] (none) 0 (some k7c11)
def k7c12 : Code := cd_ 1 1 jdk_42_method_152_code
def k7m12 : Method := md_ "coder" "()B" [] (some .byte) 0 (some k7c12)
def k7c13 : Code := cd_ 1 1 jdk_42_method_154_code
def k7m13 : Method := md_ "isLatin1" "()Z" [] (some .boolean) 0 (some k7c13)
def k7c14 : Code := cd_ 3 2 jdk_42_method_155_code
def k7m14 : Method := md_ q34_ "(II)V" [.int, .int] (none) 8 (some k7c14)
/-- java/lang/String -/
def k7 : Class := { plain q50_ (some 0) with
  accessFlags := 49
  interfaces := #[2, 3, 4, 5, 6]
  cf := some (fileOf pool7 10 #[.nestMembers #[1103]] #[⟨1, 5, 6, #[]⟩, ⟨1, 5, 1010, #[]⟩, ⟨1, 5, 1233, #[]⟩, ⟨1, 507, 334, #[]⟩, ⟨1, 497, 427, #[]⟩, ⟨1, 952, 142, #[]⟩, ⟨2, 878, 334, #[]⟩, ⟨1, 463, 464, #[]⟩, ⟨9, 782, 808, #[]⟩, ⟨0, 532, 821, #[]⟩, ⟨2, 5, 29, #[]⟩, ⟨0, 5, 491, #[]⟩, ⟨0, 17, 337, #[]⟩, ⟨0, 494, 142, #[]⟩, ⟨8, 501, 391, #[]⟩] 49 2 #[1106, 1108, 575, 1110, 1112] #[⟨18, 13, 14, #[]⟩, ⟨18, 17, 18, #[]⟩, ⟨2, 21, 22, #[]⟩, ⟨2, 25, 26, #[]⟩, ⟨26, 1116, 1117, #[]⟩, ⟨24, 40, 26, #[]⟩, ⟨26, 1101, 1102, #[]⟩, ⟨26, 1121, 1122, #[]⟩, ⟨25, 599, 600, #[]⟩, ⟨24, 1125, 18, #[]⟩, ⟨24, 1127, 18, #[]⟩])
  fields := #[fd_ "value" (.array .byte) 18 0, fd_ "coder" .byte 18 1, fd_ "hash" .int 2 2, fd_ "hashIsZero" .boolean 2 3, fd_ q78_ .long 26 0, fd_ "COMPACT_STRINGS" .boolean 24 1, fd_ "serialPersistentFields" (.array (.object "java/io/ObjectStreamField")) 26 2, fd_ "REPL" .char 26 3, fd_ "CASE_INSENSITIVE_ORDER" (.object "java/util/Comparator") 25 4, fd_ "LATIN1" .byte 24 5, fd_ "UTF16" .byte 24 6]
  methods := #[k7m0, k7m1, k7m2, k7m3, k7m4, k7m5, k7m6, k7m7, k7m8, k7m9, k7m10, k7m11, k7m12, k7m13, k7m14]
  instanceTypes := #[(.array .byte), .byte, .int, .boolean]
  staticTypes := #[.long, .boolean, (.array (.object "java/io/ObjectStreamField")), .char, (.object "java/util/Comparator"), .byte, .byte]
  resolved := Array.replicate 1451 none
  statics := some 0 }

def pool8 : Array CpInfo := pool [(6, .class_ 8), (1, u q49_), (0, u q32_), (0, u "()V"), (1, .class_ 14), (1, u q53_), (31, u q0_), (0, u "Z"), (13, u "HI_BYTE_SHIFT"), (0, u "I"), (2, u "LO_BYTE_SHIFT"), (49, .methodref 12 116), (0, .nameAndType 117 118), (0, u "compress"), (0, u "([CI[BII)I"), (3, u "([CII)[B"), (138, u q35_), (0, u "([BI)B"), (106, .class_ 371), (1, u "java/lang/StringUTF16$LinesSpliterator"), (58, u "MAX_LENGTH"), (196, .class_ 628), (0, u "java/lang/StringUTF16$CodePointsSpliterator"), (0, .class_ 630), (0, u "java/lang/StringUTF16$CharsSpliterator")] 4

def k8m0 : Method := md_ q32_ "()V" [] (none) 0 (none)
def k8c1 : Code := cd_ 2 2 jdk_52_method_15_code
def k8m1 : Method := md_ q35_ "([BI)B" [(.array .byte), .int] (some .byte) 8 (some k8c1)
def k8c2 : Code := cd_ 5 6 jdk_52_method_16_code
def k8m2 : Method := md_ "compress" "([CII)[B" [(.array .char), .int, .int] (some (.array .byte)) 9 (some k8c2)
def k8c3 : Code := cd_ 3 7 jdk_52_method_21_code
def k8m3 : Method := md_ "compress" "([CI[BII)I" [(.array .char), .int, (.array .byte), .int, .int] (some .int) 9 (some k8c3)
/-- java/lang/StringUTF16 -/
def k8 : Class := { plain q53_ (some 0) with
  accessFlags := 48
  interfaces := #[]
  cf := some (fileOf pool8 12 #[.nestMembers #[627, 629, 369]] #[⟨0, 9, 10, #[]⟩, ⟨8, 261, 262, #[]⟩, ⟨9, 117, 122, #[]⟩, ⟨9, 117, 118, #[]⟩] 48 6 #[] #[⟨26, 61, 62, #[]⟩, ⟨26, 65, 62, #[]⟩, ⟨24, 430, 62, #[]⟩, ⟨4120, 46, 47, #[]⟩])
  fields := #[fd_ "HI_BYTE_SHIFT" .int 26 0, fd_ "LO_BYTE_SHIFT" .int 26 1, fd_ "MAX_LENGTH" .int 24 2, fd_ q0_ .boolean 4120 3]
  methods := #[k8m0, k8m1, k8m2, k8m3]
  instanceTypes := #[]
  staticTypes := #[.int, .int, .int, .boolean]
  resolved := Array.replicate 635 none
  statics := none }

def pool9 : Array CpInfo := pool [(8, .class_ 10), (1, u "java/lang/Iterable"), (24, .class_ 36), (0, u q49_)] 25

/-- java/lang/Iterable -/
def k9 : Class := { plain "java/lang/Iterable" (some 0) with
  accessFlags := 1537
  interfaces := #[]
  cf := some (fileOf pool9 8 #[] #[] 1537 35 #[] #[])
  fields := #[]
  methods := #[]
  instanceTypes := #[]
  staticTypes := #[]
  resolved := Array.replicate 62 none
  statics := none }

def pool10 : Array CpInfo := pool [(10, .class_ 12), (1, u q61_), (0, u "toArray"), (16, u "()Z"), (29, .class_ 61), (0, u q49_), (0, .class_ 63), (0, u "java/lang/Iterable"), (2, u "isEmpty"), (3, u q5_)] 44

def k10m0 : Method := md_ "isEmpty" "()Z" [] (some .boolean) 1025 (none)
def k10m1 : Method := md_ "toArray" q5_ [] (some (.array (.object q49_))) 1025 (none)
/-- java/util/Collection -/
def k10 : Class := { plain q61_ (some 0) with
  accessFlags := 1537
  interfaces := #[9]
  cf := some (fileOf pool10 10 #[] #[⟨1025, 66, 30, #[]⟩, ⟨1025, 13, 70, #[]⟩] 1537 60 #[62] #[])
  fields := #[]
  methods := #[k10m0, k10m1]
  instanceTypes := #[]
  staticTypes := #[]
  resolved := Array.replicate 115 none
  statics := none }

def pool11 : Array CpInfo := pool [(1, .methodref 2 3), (0, .class_ 4), (0, .nameAndType 5 6), (0, u q49_), (0, u q32_), (0, u "()V"), (1, .class_ 10), (1, u q56_), (0, u "size"), (0, u "()I"), (0, .methodref 8 14), (0, .nameAndType 15 16), (0, u q39_), (0, u q3_), (0, .interfaceMethodref 18 19), (0, .class_ 20), (0, .nameAndType 21 22), (0, u q70_), (0, u "hasNext"), (0, u "()Z"), (0, .interfaceMethodref 18 24), (0, .nameAndType 25 26), (0, u "next"), (0, u q1_), (50, .class_ 78), (0, u q61_), (13, .string 93), (0, u "[]"), (0, .class_ 95), (0, u q51_), (0, .methodref 94 3), (0, .methodref 94 98), (0, .nameAndType 99 100), (0, u "append"), (0, u q7_), (2, .methodref 94 104), (0, .nameAndType 99 105), (0, u q13_), (0, .methodref 94 107), (0, .nameAndType 108 109), (0, u q79_), (0, u q2_)] 50

def k11c0 : Code := cd_ 1 1 jdk_22_method_1_code
def k11m0 : Method := md_ q32_ "()V" [] (none) 4 (some k11c0)
def k11m1 : Method := md_ q39_ q3_ [] (some (.object q70_)) 1025 (none)
def k11m2 : Method := md_ "size" "()I" [] (some .int) 1025 (none)
def k11c3 : Code := cd_ 3 4 jdk_22_method_16_code
def k11m3 : Method := md_ q79_ q2_ [] (some (.object q50_)) 1 (some k11c3)
/-- java/util/AbstractCollection -/
def k11 : Class := { plain q56_ (some 0) with
  accessFlags := 1057
  interfaces := #[10]
  cf := some (fileOf pool11 8 #[] #[⟨4, 5, 6, #[]⟩, ⟨1025, 15, 16, #[]⟩, ⟨1025, 11, 12, #[]⟩, ⟨1, 108, 109, #[]⟩] 1057 2 #[77] #[])
  fields := #[]
  methods := #[k11m0, k11m1, k11m2, k11m3]
  instanceTypes := #[]
  staticTypes := #[]
  resolved := Array.replicate 160 none
  statics := none }

def pool12 : Array CpInfo := pool [(8, .class_ 10), (1, u q74_), (15, .class_ 27), (0, u q49_), (0, .class_ 29), (0, u q61_)] 27

/-- java/util/SequencedCollection -/
def k12 : Class := { plain q74_ (some 0) with
  accessFlags := 1537
  interfaces := #[10]
  cf := some (fileOf pool12 8 #[] #[] 1537 26 #[28] #[])
  fields := #[]
  methods := #[]
  instanceTypes := #[]
  staticTypes := #[]
  resolved := Array.replicate 57 none
  statics := none }

def pool13 : Array CpInfo := pool [(8, .class_ 10), (1, u q71_), (20, u q14_), (16, u q32_), (26, u "get"), (0, u q8_), (11, u "of"), (1, .fieldref 91 92), (0, .class_ 93), (0, .nameAndType 94 95), (0, u q62_), (0, u "EMPTY_LIST"), (0, u "Ljava/util/ImmutableCollections$ListN;"), (0, .class_ 97), (0, u q65_), (0, .methodref 96 99), (0, .nameAndType 48 31), (0, .methodref 96 101), (0, .nameAndType 48 102), (0, u q17_), (0, .class_ 104), (0, u q49_), (3, u q28_), (0, .methodref 91 110), (0, .nameAndType 111 108), (0, u "listFromArray"), (0, .methodref 91 113), (0, .nameAndType 114 115), (0, u "listCopy"), (0, u q25_), (3, u q4_), (0, .class_ 121), (0, u q74_), (1, u q39_), (0, u q3_), (109, u "copyOf")] 16

def k13m0 : Method := md_ q39_ q3_ [] (some (.object q70_)) 1025 (none)
def k13m1 : Method := md_ "get" q8_ [.int] (some (.object q49_)) 1025 (none)
def k13c2 : Code := cd_ 1 0 jdk_40_method_36_code
def k13m2 : Method := md_ "of" q4_ [] (some (.object q71_)) 9 (some k13c2)
def k13c3 : Code := cd_ 5 2 jdk_40_method_47_code
def k13m3 : Method := md_ "of" q28_ [(.array (.object q49_))] (some (.object q71_)) 137 (some k13c3)
def k13c4 : Code := cd_ 1 1 jdk_40_method_48_code
def k13m4 : Method := md_ "copyOf" q25_ [(.object q61_)] (some (.object q71_)) 9 (some k13c4)
/-- java/util/List -/
def k13 : Class := { plain q71_ (some 0) with
  accessFlags := 1537
  interfaces := #[12]
  cf := some (fileOf pool13 8 #[] #[⟨1025, 123, 124, #[]⟩, ⟨1025, 75, 76, #[]⟩, ⟨9, 88, 119, #[]⟩, ⟨137, 88, 108, #[]⟩, ⟨9, 234, 115, #[]⟩] 1537 103 #[120] #[])
  fields := #[]
  methods := #[k13m0, k13m1, k13m2, k13m3, k13m4]
  instanceTypes := #[]
  staticTypes := #[]
  resolved := Array.replicate 251 none
  statics := none }

def pool14 : Array CpInfo := pool [(1, .methodref 2 3), (0, .class_ 4), (0, .nameAndType 5 6), (0, u q56_), (0, u q32_), (0, u "()V"), (0, .fieldref 8 9), (0, .class_ 10), (0, .nameAndType 11 12), (0, u q57_), (0, u "modCount"), (0, u "I"), (64, .class_ 78), (0, u "java/util/AbstractList$Itr"), (3, .class_ 83), (0, u "java/util/AbstractList$ListItr"), (9, .class_ 94), (0, u "java/util/AbstractList$RandomAccessSubList"), (3, .class_ 99), (0, u "java/util/AbstractList$SubList"), (33, .class_ 134), (0, u q71_), (73, .class_ 209), (0, u "java/util/AbstractList$SubList$1"), (0, .class_ 211), (0, u "java/util/AbstractList$RandomAccessSpliterator")] 6

def k14c0 : Code := cd_ 2 1 jdk_39_method_1_code
def k14m0 : Method := md_ q32_ "()V" [] (none) 4 (some k14c0)
/-- java/util/AbstractList -/
def k14 : Class := { plain q57_ (some 11) with
  accessFlags := 1057
  interfaces := #[13]
  cf := some (fileOf pool14 8 #[.nestMembers #[93, 98, 208, 210, 82, 77]] #[⟨4, 5, 6, #[]⟩] 1057 2 #[133] #[⟨132, 11, 12, #[]⟩])
  fields := #[fd_ "modCount" .int 132 0]
  methods := #[k14m0]
  instanceTypes := #[.int]
  staticTypes := #[]
  resolved := Array.replicate 218 none
  statics := none }

def pool15 : Array CpInfo := pool [(1, .class_ 2), (0, u q73_), (0, .class_ 4), (0, u q49_)] 2

/-- java/util/RandomAccess -/
def k15 : Class := { plain q73_ (some 0) with
  accessFlags := 1537
  interfaces := #[]
  cf := some (fileOf pool15 1 #[] #[] 1537 3 #[] #[])
  fields := #[]
  methods := #[]
  instanceTypes := #[]
  staticTypes := #[]
  resolved := Array.replicate 7 none
  statics := none }

def pool16 : Array CpInfo := pool [(1, .class_ 2), (0, u "java/lang/Cloneable"), (0, .class_ 4), (0, u q49_)] 2

/-- java/lang/Cloneable -/
def k16 : Class := { plain "java/lang/Cloneable" (some 0) with
  accessFlags := 1537
  interfaces := #[]
  cf := some (fileOf pool16 1 #[] #[] 1537 3 #[] #[])
  fields := #[]
  methods := #[]
  instanceTypes := #[]
  staticTypes := #[]
  resolved := Array.replicate 7 none
  statics := none }

def pool17 : Array CpInfo := pool [(1, .methodref 2 3), (0, .class_ 4), (0, .nameAndType 5 6), (0, u q57_), (0, u q32_), (0, u "()V"), (0, .class_ 8), (0, u q49_), (0, .fieldref 10 11), (0, .class_ 12), (0, .nameAndType 13 14), (0, u q58_), (0, u "elementData"), (0, u q33_), (2, u "EMPTY_ELEMENTDATA"), (21, .fieldref 10 40), (0, .nameAndType 41 14), (0, u "DEFAULTCAPACITY_EMPTY_ELEMENTDATA"), (4, u "toArray"), (0, u q5_), (0, .fieldref 10 49), (0, .nameAndType 50 51), (0, u "size"), (0, u "I"), (6, .class_ 60), (1, u q60_), (0, u "copyOf"), (1, .fieldref 10 64), (0, .nameAndType 65 51), (0, u "modCount"), (0, .methodref 58 67), (0, .nameAndType 61 68), (0, u q29_), (0, .methodref 10 70), (0, .nameAndType 71 72), (0, u "grow"), (0, u "(I)[Ljava/lang/Object;"), (6, .methodref 80 81), (0, .class_ 82), (0, .nameAndType 83 84), (0, u q48_), (0, u "max"), (0, u "(II)I"), (11, u q15_), (32, .methodref 10 130), (0, .nameAndType 71 47), (0, .methodref 10 132), (0, .nameAndType 133 134), (0, u "add"), (0, u q18_), (13, .class_ 149), (0, u q71_), (16, u q39_), (0, u q3_), (5, u "()Z"), (88, .class_ 263), (0, u "java/util/ArrayList$ListItr"), (3, .class_ 268), (0, u q59_), (0, .methodref 267 270), (0, .nameAndType 5 271), (0, u q24_), (4, .class_ 277), (0, u "java/util/ArrayList$SubList"), (12, .class_ 291), (0, u "java/util/ArrayList$ArrayListSpliterator"), (37, .class_ 330), (0, u q73_), (0, .class_ 332), (0, u "java/lang/Cloneable"), (0, .class_ 334), (0, u q42_), (0, u q78_), (0, u "J"), (3, u "DEFAULT_CAPACITY"), (22, u "isEmpty"), (136, .class_ 501), (0, u "java/util/ArrayList$SubList$2"), (0, .class_ 503), (0, u "java/util/ArrayList$SubList$1")] 5

def k17c0 : Code := cd_ 2 1 jdk_38_method_2_code
def k17m0 : Method := md_ q32_ "()V" [] (none) 1 (some k17c0)
def k17c1 : Code := cd_ 4 4 jdk_38_method_6_code
def k17m1 : Method := md_ "grow" "(I)[Ljava/lang/Object;" [.int] (some (.array (.object q49_))) 2 (some k17c1)
def k17c2 : Code := cd_ 3 1 jdk_38_method_7_code
def k17m2 : Method := md_ "grow" q5_ [] (some (.array (.object q49_))) 2 (some k17c2)
def k17c3 : Code := cd_ 1 1 jdk_38_method_9_code
def k17m3 : Method := md_ "isEmpty" "()Z" [] (some .boolean) 1 (some k17c3)
def k17c4 : Code := cd_ 2 1 jdk_38_method_16_code
def k17m4 : Method := md_ "toArray" q5_ [] (some (.array (.object q49_))) 1 (some k17c4)
def k17c5 : Code := cd_ 3 4 jdk_38_method_24_code
def k17m5 : Method := md_ "add" q18_ [(.object q49_), (.array (.object q49_)), .int] (none) 2 (some k17c5)
def k17c6 : Code := cd_ 4 2 jdk_38_method_25_code
def k17m6 : Method := md_ "add" q15_ [(.object q49_)] (some .boolean) 1 (some k17c6)
def k17c7 : Code := cd_ 3 1 jdk_38_method_55_code
def k17m7 : Method := md_ q39_ q3_ [] (some (.object q70_)) 1 (some k17c7)
/-- java/util/ArrayList -/
def k17 : Class := { plain q58_ (some 14) with
  accessFlags := 33
  interfaces := #[13, 15, 16, 2]
  cf := some (fileOf pool17 10 #[.nestMembers #[290, 276, 500, 502, 262, 267]] #[⟨1, 5, 6, #[]⟩, ⟨2, 71, 72, #[]⟩, ⟨2, 71, 47, #[]⟩, ⟨1, 363, 173, #[]⟩, ⟨1, 46, 47, #[]⟩, ⟨2, 133, 134, #[]⟩, ⟨1, 133, 96, #[]⟩, ⟨1, 166, 167, #[]⟩] 33 2 #[148, 329, 331, 333] #[⟨26, 335, 336, #[]⟩, ⟨26, 340, 51, #[]⟩, ⟨26, 17, 14, #[]⟩, ⟨26, 41, 14, #[]⟩, ⟨128, 13, 14, #[]⟩, ⟨2, 50, 51, #[]⟩])
  fields := #[fd_ q78_ .long 26 0, fd_ "DEFAULT_CAPACITY" .int 26 1, fd_ "EMPTY_ELEMENTDATA" (.array (.object q49_)) 26 2, fd_ "DEFAULTCAPACITY_EMPTY_ELEMENTDATA" (.array (.object q49_)) 26 3, fd_ "elementData" (.array (.object q49_)) 128 1, fd_ "size" .int 2 2]
  methods := #[k17m0, k17m1, k17m2, k17m3, k17m4, k17m5, k17m6, k17m7]
  instanceTypes := #[.int, (.array (.object q49_)), .int]
  staticTypes := #[.long, .int, (.array (.object q49_)), (.array (.object q49_))]
  resolved := Array.replicate 509 none
  statics := some 1 }

def pool18 : Array CpInfo := pool [(1, .methodref 2 3), (0, .class_ 4), (0, .nameAndType 5 6), (0, u q49_), (0, u q32_), (0, u "()V"), (0, .methodref 8 9), (0, .class_ 10), (0, .nameAndType 11 12), (0, u q50_), (0, u "isBlank"), (0, u "()Z"), (7, .interfaceMethodref 21 22), (0, .class_ 23), (0, .nameAndType 24 25), (0, u q71_), (0, u q39_), (0, u q3_), (0, .interfaceMethodref 27 28), (0, .class_ 29), (0, .nameAndType 30 12), (0, u q70_), (0, u "hasNext"), (0, .interfaceMethodref 27 32), (0, .nameAndType 33 34), (0, u "next"), (0, u q1_), (2, .fieldref 38 39), (0, .class_ 40), (0, .nameAndType 41 42), (0, u q36_), (0, u "ui"), (0, u "Ljava/lang/String;"), (0, .fieldref 38 44), (0, .nameAndType 45 46), (0, u "preferred"), (0, u "Z"), (0, .interfaceMethodref 21 48), (0, .nameAndType 49 50), (0, u "copyOf"), (0, u q25_), (0, .fieldref 38 52), (0, .nameAndType 53 54), (0, u "terms"), (0, u "Ljava/util/List;"), (19, .class_ 75), (0, u q51_), (0, .methodref 74 3), (0, .string 78), (0, u ""), (0, .methodref 74 80), (0, .nameAndType 81 82), (0, u "append"), (0, u q20_), (0, .string 84), (0, u " "), (0, .methodref 74 86), (0, .nameAndType 87 88), (0, u q79_), (0, u q2_), (0, .methodref 74 90), (0, .nameAndType 81 91), (0, u q13_), (2, u q21_)] 10

def k18c0 : Code := cd_ 3 6 prog_32_method_1_code
def k18m0 : Method := md_ q32_ q21_ [(.object q50_), .boolean, (.object q71_)] (none) 1 (some k18c0)
def k18c1 : Code := cd_ 3 1 prog_32_method_7_code
def k18m1 : Method := md_ q79_ q2_ [] (some (.object q50_)) 1 (some k18c1)
/-- com/example/headings_from_text/headingsfromtext/vocabulary/Concept -/
def k18 : Class := { plain q36_ (some 0) with
  accessFlags := 33
  interfaces := #[]
  cf := some (fileOf pool18 38 #[] #[⟨1, 5, 94, #[]⟩, ⟨1, 87, 88, #[]⟩] 33 2 #[] #[⟨18, 41, 42, #[]⟩, ⟨18, 45, 46, #[]⟩, ⟨18, 53, 54, #[]⟩])
  fields := #[fd_ "ui" (.object q50_) 18 0, fd_ "preferred" .boolean 18 1, fd_ "terms" (.object q71_) 18 2]
  methods := #[k18m0, k18m1]
  instanceTypes := #[(.object q50_), .boolean, (.object q71_)]
  staticTypes := #[]
  resolved := Array.replicate 105 none
  statics := none }

def pool19 : Array CpInfo := pool [(16, .class_ 18), (1, u q70_), (0, u "hasNext"), (0, u "()Z"), (2, u "next"), (0, u q1_), (6, .class_ 32), (0, u q49_)] 20

def k19m0 : Method := md_ "hasNext" "()Z" [] (some .boolean) 1025 (none)
def k19m1 : Method := md_ "next" q1_ [] (some (.object q49_)) 1025 (none)
/-- java/util/Iterator -/
def k19 : Class := { plain q70_ (some 0) with
  accessFlags := 1537
  interfaces := #[]
  cf := some (fileOf pool19 16 #[] #[⟨1025, 19, 20, #[]⟩, ⟨1025, 23, 24, #[]⟩] 1537 31 #[] #[])
  fields := #[]
  methods := #[k19m0, k19m1]
  instanceTypes := #[]
  staticTypes := #[]
  resolved := Array.replicate 53 none
  statics := none }

def pool20 : Array CpInfo := pool [(1, .fieldref 2 3), (0, .class_ 4), (0, .nameAndType 5 6), (0, u q59_), (0, u "this$0"), (0, u "Ljava/util/ArrayList;"), (0, .methodref 8 9), (0, .class_ 10), (0, .nameAndType 11 12), (0, u q49_), (0, u q32_), (0, u "()V"), (0, .fieldref 2 14), (0, .nameAndType 15 16), (0, u "lastRet"), (0, u "I"), (0, .fieldref 18 19), (0, .class_ 20), (0, .nameAndType 21 16), (0, u q58_), (0, u "modCount"), (0, .fieldref 2 23), (0, .nameAndType 24 16), (0, u "expectedModCount"), (0, .fieldref 2 26), (0, .nameAndType 27 16), (0, u "cursor"), (0, .fieldref 18 29), (0, .nameAndType 30 16), (0, u "size"), (0, .methodref 2 32), (0, .nameAndType 33 12), (0, u "checkForComodification"), (3, .fieldref 18 38), (0, .nameAndType 39 40), (0, u "elementData"), (0, u q33_), (28, .class_ 70), (0, u q70_), (0, u q24_), (8, u "hasNext"), (0, u "()Z"), (1, u "next"), (0, u q1_)] 19

def k20c0 : Code := cd_ 2 2 jdk_49_method_1_code
def k20m0 : Method := md_ q32_ q24_ [(.object q58_)] (none) 0 (some k20c0)
def k20c1 : Code := cd_ 2 1 jdk_49_method_2_code
def k20m1 : Method := md_ "hasNext" "()Z" [] (some .boolean) 1 (some k20c1)
def k20c2 : Code := cd_ 4 3 jdk_49_method_3_code
def k20m2 : Method := md_ "next" q1_ [] (some (.object q49_)) 1 (some k20c2)
def k20c3 : Code := cd_ 2 1 jdk_49_method_6_code
def k20m3 : Method := md_ "checkForComodification" "()V" [] (none) 16 (some k20c3)
/-- java/util/ArrayList$Itr -/
def k20 : Class := { plain q59_ (some 0) with
  accessFlags := 32
  interfaces := #[19]
  cf := some (fileOf pool20 2 #[.nestHost 18] #[⟨0, 11, 71, #[]⟩, ⟨1, 80, 81, #[]⟩, ⟨1, 83, 84, #[]⟩, ⟨16, 33, 12, #[]⟩] 32 8 #[69] #[⟨0, 27, 16, #[]⟩, ⟨0, 15, 16, #[]⟩, ⟨0, 24, 16, #[]⟩, ⟨4112, 5, 6, #[]⟩])
  fields := #[fd_ "cursor" .int 0 0, fd_ "lastRet" .int 0 1, fd_ "expectedModCount" .int 0 2, fd_ "this$0" (.object q58_) 4112 3]
  methods := #[k20m0, k20m1, k20m2, k20m3]
  instanceTypes := #[.int, .int, .int, (.object q58_)]
  staticTypes := #[]
  resolved := Array.replicate 104 none
  statics := none }

def pool21 : Array CpInfo := pool [(2, .class_ 4), (1, u q49_), (0, u q32_), (0, u "()V"), (3, .class_ 11), (0, u q65_), (0, .class_ 13), (0, u q67_), (3, u "Z"), (0, .class_ 19), (0, u q71_), (0, .interfaceMethodref 21 22), (0, .class_ 23), (0, .nameAndType 24 25), (0, u q61_), (0, u "isEmpty"), (0, u "()Z"), (0, .interfaceMethodref 18 27), (0, .nameAndType 28 29), (0, u "of"), (0, u q4_), (0, .interfaceMethodref 21 31), (0, .nameAndType 32 33), (0, u "toArray"), (0, u q5_), (0, .interfaceMethodref 18 35), (0, .nameAndType 28 36), (0, u q28_), (0, .methodref 38 39), (0, .class_ 40), (0, .nameAndType 41 42), (0, u q72_), (0, u q77_), (0, u q11_), (0, .methodref 12 44), (0, .nameAndType 5 45), (0, u q31_), (1, .class_ 49), (1, u q62_), (0, u q0_), (5, u q33_), (5, u "EMPTY_LIST"), (0, u "Ljava/util/ImmutableCollections$ListN;"), (8, u "EMPTY_LIST_NULLS"), (22, u "SALT32L"), (0, u "J"), (2, u "REVERSE"), (6, u "archivedObjects"), (2, u "EMPTY"), (0, u "Ljava/lang/Object;"), (0, .class_ 112), (0, u q69_), (5, u "EMPTY_SET"), (0, u "Ljava/util/ImmutableCollections$SetN;"), (0, .class_ 121), (0, u q68_), (3, u "EMPTY_MAP"), (0, u "Ljava/util/ImmutableCollections$MapN;"), (4, u "EXPAND_FACTOR"), (0, u "I"), (9, u "listCopy"), (0, u q25_), (7, u "listFromArray"), (17, .class_ 170), (0, u "java/util/ImmutableCollections$MapN$MapNIterator"), (0, .class_ 172), (0, u "java/util/ImmutableCollections$MapN$1"), (0, .class_ 174), (0, u "java/util/ImmutableCollections$Map1"), (0, .class_ 176), (0, u "java/util/ImmutableCollections$AbstractImmutableMap"), (0, .class_ 178), (0, u "java/util/ImmutableCollections$SetN$SetNIterator"), (0, .class_ 180), (0, u "java/util/ImmutableCollections$Set12"), (0, .class_ 182), (0, u "java/util/ImmutableCollections$Set12$1"), (0, .class_ 184), (0, u "java/util/ImmutableCollections$AbstractImmutableSet"), (0, .class_ 186), (0, u "java/util/ImmutableCollections$SubList"), (0, .class_ 188), (0, u q66_), (0, .class_ 190), (0, u q64_), (0, .class_ 192), (0, u q63_), (0, .class_ 194), (0, u "java/util/ImmutableCollections$Access"), (0, .class_ 196), (0, u "java/util/ImmutableCollections$Access$1")] 16

def k21m0 : Method := md_ q32_ "()V" [] (none) 2 (none)
def k21c1 : Code := cd_ 1 2 jdk_56_method_3_code
def k21m1 : Method := md_ "listCopy" q25_ [(.object q61_)] (some (.object q71_)) 8 (some k21c1)
def k21c2 : Code := cd_ 4 3 jdk_56_method_4_code
def k21m2 : Method := md_ "listFromArray" q28_ [(.array (.object q49_))] (some (.object q71_)) 136 (some k21c2)
/-- java/util/ImmutableCollections -/
def k21 : Class := { plain q62_ (some 0) with
  accessFlags := 32
  interfaces := #[]
  cf := some (fileOf pool21 47 #[.nestMembers #[120, 169, 171, 173, 175, 111, 177, 179, 181, 183, 12, 10, 185, 187, 189, 191, 193, 195]] #[⟨2, 5, 6, #[]⟩, ⟨8, 142, 143, #[]⟩, ⟨136, 151, 36, #[]⟩] 32 2 #[] #[⟨26, 95, 96, #[]⟩, ⟨26, 99, 17, #[]⟩, ⟨10, 106, 56, #[]⟩, ⟨26, 109, 110, #[]⟩, ⟨24, 62, 63, #[]⟩, ⟨24, 72, 63, #[]⟩, ⟨24, 118, 119, #[]⟩, ⟨24, 125, 126, #[]⟩, ⟨24, 131, 132, #[]⟩, ⟨4120, 50, 17, #[]⟩])
  fields := #[fd_ "SALT32L" .long 26 0, fd_ "REVERSE" .boolean 26 1, fd_ "archivedObjects" (.array (.object q49_)) 10 2, fd_ "EMPTY" (.object q49_) 26 3, fd_ "EMPTY_LIST" (.object q67_) 24 4, fd_ "EMPTY_LIST_NULLS" (.object q67_) 24 5, fd_ "EMPTY_SET" (.object q69_) 24 6, fd_ "EMPTY_MAP" (.object q68_) 24 7, fd_ "EXPAND_FACTOR" .int 24 8, fd_ q0_ .boolean 4120 9]
  methods := #[k21m0, k21m1, k21m2]
  instanceTypes := #[]
  staticTypes := #[.long, .boolean, (.array (.object q49_)), (.object q49_), (.object q67_), (.object q67_), (.object q69_), (.object q68_), .int, .boolean]
  resolved := Array.replicate 213 none
  statics := some 2 }

def pool22 : Array CpInfo := pool [(1, .methodref 2 3), (0, .class_ 4), (0, .nameAndType 5 6), (0, u q56_), (0, u q32_), (0, u "()V"), (1, .class_ 10), (1, u q62_), (2, .class_ 14), (0, u q63_)] 41

def k22c0 : Code := cd_ 1 1 jdk_47_method_1_code
def k22m0 : Method := md_ q32_ "()V" [] (none) 0 (some k22c0)
/-- java/util/ImmutableCollections$AbstractImmutableCollection -/
def k22 : Class := { plain q63_ (some 11) with
  accessFlags := 1056
  interfaces := #[]
  cf := some (fileOf pool22 13 #[.nestHost 8] #[⟨0, 5, 6, #[]⟩] 1056 2 #[] #[])
  fields := #[]
  methods := #[k22m0]
  instanceTypes := #[]
  staticTypes := #[]
  resolved := Array.replicate 56 none
  statics := none }

def pool23 : Array CpInfo := pool [(1, .methodref 2 3), (0, .class_ 4), (0, .nameAndType 5 6), (0, u q63_), (0, u q32_), (0, u "()V"), (1, .class_ 10), (1, u q62_), (2, .methodref 14 15), (0, .class_ 16), (0, .nameAndType 17 18), (0, u q64_), (0, u "size"), (0, u "()I"), (42, .class_ 62), (0, u q66_), (0, .methodref 61 64), (0, .nameAndType 5 65), (0, u q26_), (11, .class_ 78), (0, u q71_), (2, u q39_), (0, u q3_), (41, .class_ 125), (0, u q73_)] 70

def k23c0 : Code := cd_ 1 1 jdk_46_method_1_code
def k23m0 : Method := md_ q32_ "()V" [] (none) 0 (some k23c0)
def k23c1 : Code := cd_ 4 1 jdk_46_method_10_code
def k23m1 : Method := md_ q39_ q3_ [] (some (.object q70_)) 1 (some k23c1)
/-- java/util/ImmutableCollections$AbstractImmutableList -/
def k23 : Class := { plain q64_ (some 22) with
  accessFlags := 1056
  interfaces := #[13, 15]
  cf := some (fileOf pool23 14 #[.nestHost 8] #[⟨0, 5, 6, #[]⟩, ⟨1, 81, 82, #[]⟩] 1056 2 #[77, 124] #[])
  fields := #[]
  methods := #[k23m0, k23m1]
  instanceTypes := #[]
  staticTypes := #[]
  resolved := Array.replicate 196 none
  statics := none }

def pool24 : Array CpInfo := pool [(1, .methodref 2 3), (0, .class_ 4), (0, .nameAndType 5 6), (0, u q64_), (0, u q32_), (0, u "()V"), (0, .methodref 8 9), (0, .class_ 10), (0, .nameAndType 11 12), (0, u q72_), (0, u q77_), (0, u q11_), (0, .fieldref 14 15), (0, .class_ 16), (0, .nameAndType 17 18), (0, u q65_), (0, u "e0"), (0, u "Ljava/lang/Object;"), (0, .fieldref 20 21), (0, .class_ 22), (0, .nameAndType 23 18), (0, u q62_), (0, u "EMPTY"), (0, .fieldref 14 25), (0, .nameAndType 26 18), (0, u "e1"), (24, u "size"), (0, u "()I"), (17, .class_ 71), (0, u q42_), (4, u q14_), (8, u q17_), (4, u "get"), (0, u q8_)] 33

def k24c0 : Code := cd_ 2 2 jdk_44_method_1_code
def k24m0 : Method := md_ q32_ q14_ [(.object q49_)] (none) 0 (some k24c0)
def k24c1 : Code := cd_ 2 3 jdk_44_method_2_code
def k24m1 : Method := md_ q32_ q17_ [(.object q49_), (.object q49_)] (none) 0 (some k24c1)
def k24c2 : Code := cd_ 2 1 jdk_44_method_3_code
def k24m2 : Method := md_ "size" "()I" [] (some .int) 1 (some k24c2)
def k24c3 : Code := cd_ 2 2 jdk_44_method_5_code
def k24m3 : Method := md_ "get" q8_ [.int] (some (.object q49_)) 1 (some k24c3)
/-- java/util/ImmutableCollections$List12 -/
def k24 : Class := { plain q65_ (some 23) with
  accessFlags := 48
  interfaces := #[2]
  cf := some (fileOf pool24 14 #[.nestHost 20] #[⟨0, 5, 76, #[]⟩, ⟨0, 5, 85, #[]⟩, ⟨1, 51, 52, #[]⟩, ⟨1, 90, 91, #[]⟩] 48 2 #[70] #[⟨18, 17, 18, #[]⟩, ⟨18, 26, 18, #[]⟩])
  fields := #[fd_ "e0" (.object q49_) 18 0, fd_ "e1" (.object q49_) 18 1]
  methods := #[k24m0, k24m1, k24m2, k24m3]
  instanceTypes := #[(.object q49_), (.object q49_)]
  staticTypes := #[]
  resolved := Array.replicate 125 none
  statics := none }

def pool25 : Array CpInfo := pool [(1, .methodref 2 3), (0, .class_ 4), (0, .nameAndType 5 6), (0, u q64_), (0, u q32_), (0, u "()V"), (0, .fieldref 8 9), (0, .class_ 10), (0, .nameAndType 11 12), (0, u q67_), (0, u "elements"), (0, u q33_), (0, .fieldref 8 14), (0, .nameAndType 15 16), (0, u "allowNulls"), (0, u "Z"), (42, .class_ 60), (0, u q42_), (4, u q31_), (11, u "size"), (0, u "()I"), (0, u "get"), (0, u q8_), (33, .class_ 115), (0, u q62_)] 3

def k25c0 : Code := cd_ 2 3 jdk_45_method_1_code
def k25m0 : Method := md_ q32_ q31_ [(.array (.object q49_)), .boolean] (none) 2 (some k25c0)
def k25c1 : Code := cd_ 1 1 jdk_45_method_3_code
def k25m1 : Method := md_ "size" "()I" [] (some .int) 1 (some k25c1)
def k25c2 : Code := cd_ 2 2 jdk_45_method_4_code
def k25m2 : Method := md_ "get" q8_ [.int] (some (.object q49_)) 1 (some k25c2)
/-- java/util/ImmutableCollections$ListN -/
def k25 : Class := { plain q67_ (some 23) with
  accessFlags := 48
  interfaces := #[2]
  cf := some (fileOf pool25 8 #[.nestHost 114] #[⟨2, 5, 65, #[]⟩, ⟨1, 77, 78, #[]⟩, ⟨1, 79, 80, #[]⟩] 48 2 #[59] #[⟨18, 11, 12, #[]⟩, ⟨18, 15, 16, #[]⟩])
  fields := #[fd_ "elements" (.array (.object q49_)) 18 0, fd_ "allowNulls" .boolean 18 1]
  methods := #[k25m0, k25m1, k25m2]
  instanceTypes := #[(.array (.object q49_)), .boolean]
  staticTypes := #[]
  resolved := Array.replicate 119 none
  statics := none }

def pool26 : Array CpInfo := pool [(1, .class_ 2), (0, u q44_), (0, .class_ 4), (0, u q49_)] 9

/-- java/lang/Appendable -/
def k26 : Class := { plain q44_ (some 0) with
  accessFlags := 1537
  interfaces := #[]
  cf := some (fileOf pool26 1 #[] #[] 1537 3 #[] #[])
  fields := #[]
  methods := #[]
  instanceTypes := #[]
  staticTypes := #[]
  resolved := Array.replicate 14 none
  statics := none }

def pool27 : Array CpInfo := pool [(1, .class_ 2), (0, u q50_), (0, .methodref 4 5), (0, .class_ 6), (0, .nameAndType 7 8), (0, u q49_), (0, u q32_), (0, u "()V"), (1, .class_ 12), (1, u q43_), (0, u "EMPTYVALUE"), (0, u "[B"), (0, .fieldref 10 16), (0, .nameAndType 17 14), (0, u "value"), (0, .fieldref 1 19), (0, .nameAndType 20 21), (0, u "COMPACT_STRINGS"), (0, u "Z"), (0, .fieldref 10 23), (0, .nameAndType 24 25), (0, u "coder"), (0, u "B"), (6, .methodref 1 33), (0, .nameAndType 34 35), (0, u "length"), (0, u "()I"), (4, .methodref 1 41), (0, .nameAndType 24 42), (0, u "()B"), (2, u "append"), (0, u q19_), (1, .class_ 49), (0, u q45_), (19, u "(Ljava/lang/String;)V"), (5, u "maybeLatin1"), (3, .fieldref 10 80), (0, .nameAndType 81 82), (0, u "count"), (0, u "I"), (0, .methodref 10 84), (0, .nameAndType 85 86), (0, u "isLatin1"), (0, u "()Z"), (1, .class_ 90), (1, u q52_), (9, .methodref 10 101), (0, .nameAndType 102 103), (0, u "ensureCapacityInternal"), (0, u "(I)V"), (87, .methodref 88 192), (0, .nameAndType 193 194), (0, u "canEncode"), (0, u "(C)Z"), (13, .methodref 10 209), (0, .nameAndType 210 211), (0, u "putStringAt"), (0, u "(ILjava/lang/String;)V"), (5, u "inflateIfNeededFor"), (2, .nameAndType 221 222), (0, u "getBytes"), (0, u "([BIB)V"), (69, u q6_), (104, .methodref 10 398), (0, .nameAndType 217 69), (0, .methodref 1 220), (3, u "()[B"), (40, .class_ 445), (0, u q44_), (106, u "getValue")] 56

def k27m0 : Method := md_ q32_ "()V" [] (none) 0 (none)
def k27c1 : Code := cd_ 2 2 jdk_68_method_2_code
def k27m1 : Method := md_ q32_ "(I)V" [.int] (none) 0 (some k27c1)
def k27c2 : Code := cd_ 1 1 jdk_68_method_6_code
def k27m2 : Method := md_ "length" "()I" [] (some .int) 1 (some k27c2)
def k27c3 : Code := cd_ 4 3 jdk_68_method_9_code
def k27m3 : Method := md_ "ensureCapacityInternal" "(I)V" [.int] (none) 2 (some k27c3)
def k27c4 : Code := cd_ 3 3 jdk_68_method_22_code
def k27m4 : Method := md_ "append" q19_ [(.object q50_)] (some (.object q43_)) 1 (some k27c4)
def k27c5 : Code := cd_ 5 2 jdk_68_method_31_code
def k27m5 : Method := md_ "append" q6_ [.char] (some (.object q43_)) 1 (some k27c5)
def k27c6 : Code := cd_ 1 1 jdk_68_method_64_code
def k27m6 : Method := md_ "getValue" "()[B" [] (some (.array .byte)) 16 (some k27c6)
def k27c7 : Code := cd_ 1 1 jdk_68_method_68_code
def k27m7 : Method := md_ "isLatin1" "()Z" [] (some .boolean) 16 (some k27c7)
def k27c8 : Code := cd_ 2 2 jdk_68_method_71_code
def k27m8 : Method := md_ "inflateIfNeededFor" "(Ljava/lang/String;)V" [(.object q50_)] (none) 2 (some k27c8)
def k27c9 : Code := cd_ 4 3 jdk_68_method_73_code
def k27m9 : Method := md_ "putStringAt" "(ILjava/lang/String;)V" [.int, (.object q50_)] (none) 2 (some k27c9)
/-- java/lang/AbstractStringBuilder -/
def k27 : Class := { plain q43_ (some 0) with
  accessFlags := 1056
  interfaces := #[26, 4]
  cf := some (fileOf pool27 10 #[] #[⟨0, 7, 8, #[]⟩, ⟨0, 7, 103, #[]⟩, ⟨1, 34, 35, #[]⟩, ⟨2, 102, 103, #[]⟩, ⟨1, 45, 46, #[]⟩, ⟨1, 45, 292, #[]⟩, ⟨16, 552, 403, #[]⟩, ⟨16, 85, 86, #[]⟩, ⟨2, 217, 69, #[]⟩, ⟨2, 210, 211, #[]⟩] 1056 4 #[444, 48] #[⟨0, 17, 14, #[]⟩, ⟨0, 24, 25, #[]⟩, ⟨0, 75, 21, #[]⟩, ⟨0, 81, 82, #[]⟩, ⟨26, 13, 14, #[]⟩])
  fields := #[fd_ "value" (.array .byte) 0 0, fd_ "coder" .byte 0 1, fd_ "maybeLatin1" .boolean 0 2, fd_ "count" .int 0 3, fd_ "EMPTYVALUE" (.array .byte) 26 0]
  methods := #[k27m0, k27m1, k27m2, k27m3, k27m4, k27m5, k27m6, k27m7, k27m8, k27m9]
  instanceTypes := #[(.array .byte), .byte, .boolean, .int]
  staticTypes := #[(.array .byte)]
  resolved := Array.replicate 609 none
  statics := none }

def pool28 : Array CpInfo := pool [(1, .methodref 2 3), (0, .class_ 4), (0, .nameAndType 5 6), (0, u q43_), (0, u q32_), (0, u "(I)V"), (10, .methodref 18 19), (0, .class_ 20), (0, .nameAndType 21 22), (0, u q50_), (0, u "valueOf"), (0, u q12_), (0, .methodref 24 25), (0, .class_ 26), (0, .nameAndType 27 28), (0, u q51_), (0, u "append"), (0, u q20_), (0, .methodref 2 30), (0, .nameAndType 27 31), (0, u q19_), (18, .methodref 2 51), (0, .nameAndType 27 52), (0, u q6_), (84, .methodref 18 138), (0, .nameAndType 5 139), (0, u q23_), (5, u "()V"), (10, u "()I"), (129, u q7_), (20, u q13_), (35, .methodref 2 344), (0, .nameAndType 345 156), (0, u "length"), (3, .class_ 350), (0, u q44_), (0, .class_ 352), (0, u q42_), (0, .class_ 354), (0, u q47_), (0, .class_ 356), (0, u q45_), (0, u q78_), (0, u "J"), (40, u q79_), (0, u q2_)] 21

def k28c0 : Code := cd_ 2 1 jdk_67_method_1_code
def k28m0 : Method := md_ q32_ "()V" [] (none) 1 (some k28c0)
def k28c1 : Code := cd_ 2 2 jdk_67_method_6_code
def k28m1 : Method := md_ "append" q13_ [(.object q49_)] (some (.object q51_)) 1 (some k28c1)
def k28c2 : Code := cd_ 2 2 jdk_67_method_7_code
def k28m2 : Method := md_ "append" q20_ [(.object q50_)] (some (.object q51_)) 1 (some k28c2)
def k28c3 : Code := cd_ 2 2 jdk_67_method_14_code
def k28m3 : Method := md_ "append" q7_ [.char] (some (.object q51_)) 1 (some k28c3)
def k28c4 : Code := cd_ 3 1 jdk_67_method_42_code
def k28m4 : Method := md_ q79_ q2_ [] (some (.object q50_)) 1 (some k28c4)
def k28c5 : Code := cd_ 1 1 jdk_67_method_93_code
def k28m5 : Method := md_ "length" "()I" [] (some .int) 4161 (some k28c5)
/-- java/lang/StringBuilder -/
def k28 : Class := { plain q51_ (some 27) with
  accessFlags := 49
  interfaces := #[26, 2, 3, 4]
  cf := some (fileOf pool28 24 #[] #[⟨1, 5, 145, #[]⟩, ⟨1, 27, 307, #[]⟩, ⟨1, 27, 28, #[]⟩, ⟨1, 27, 286, #[]⟩, ⟨1, 399, 400, #[]⟩, ⟨4161, 345, 156, #[]⟩] 49 2 #[349, 351, 353, 355] #[⟨24, 357, 358, #[]⟩])
  fields := #[fd_ q78_ .long 24 0]
  methods := #[k28m0, k28m1, k28m2, k28m3, k28m4, k28m5]
  instanceTypes := #[(.array .byte), .byte, .boolean, .int]
  staticTypes := #[.long]
  resolved := Array.replicate 422 none
  statics := none }

def pool29 : Array CpInfo := pool [(2, .class_ 4), (1, u q49_), (0, u q32_), (0, u "()V"), (1, .class_ 10), (1, u "java/lang/System"), (0, u "allowSecurityManager"), (0, u "I"), (16, u "cons"), (0, u "Ljava/io/Console;"), (77, .class_ 110), (1, u "java/lang/System$CallersHolder"), (43, u "initialErrStream"), (0, u "Ljava/io/PrintStream;"), (19, u "security"), (0, u "Ljava/lang/SecurityManager;"), (31, .class_ 209), (0, u "java/lang/System$1"), (7, u "props"), (0, u "Ljava/util/Properties;"), (2, u "lineSeparator"), (0, u "Ljava/lang/String;"), (96, .class_ 321), (1, u "java/lang/System$LoggerFinder"), (5, .class_ 328), (0, u "java/lang/System$Logger"), (67, u "err"), (2, u "out"), (91, u "notSupportedJnuEncoding"), (15, u "in"), (17, u "initialIn"), (0, u "Ljava/io/InputStream;"), (35, u "bootLayer"), (0, u "Ljava/lang/ModuleLayer;"), (99, .class_ 664), (0, u "java/lang/System$2"), (9, u "NEVER"), (2, u "MAYBE"), (49, u "arraycopy"), (0, u q16_), (72, .class_ 802), (0, u "java/lang/System$Logger$Level")] 31

def k29m0 : Method := md_ q32_ "()V" [] (none) 2 (none)
def k29m1 : Method := md_ "arraycopy" q16_ [(.object q49_), .int, (.object q49_), .int, .int] (none) 265 (none)
/-- java/lang/System -/
def k29 : Class := { plain "java/lang/System" (some 0) with
  accessFlags := 49
  interfaces := #[]
  cf := some (fileOf pool29 8 #[.nestMembers #[319, 327, 801, 108, 663, 208]] #[⟨2, 5, 6, #[]⟩, ⟨265, 727, 728, #[]⟩] 49 2 #[] #[⟨25, 507, 526, #[]⟩, ⟨25, 399, 155, #[]⟩, ⟨25, 396, 155, #[]⟩, ⟨10, 525, 526, #[]⟩, ⟨26, 674, 12, #[]⟩, ⟨26, 677, 12, #[]⟩, ⟨10, 11, 12, #[]⟩, ⟨74, 175, 176, #[]⟩, ⟨10, 491, 222, #[]⟩, ⟨74, 29, 30, #[]⟩, ⟨74, 154, 155, #[]⟩, ⟨10, 217, 218, #[]⟩, ⟨10, 221, 222, #[]⟩, ⟨8, 562, 563, #[]⟩])
  fields := #[fd_ "in" (.object q40_) 25 0, fd_ "out" (.object q41_) 25 1, fd_ "err" (.object q41_) 25 2, fd_ "initialIn" (.object q40_) 10 3, fd_ "NEVER" .int 26 4, fd_ "MAYBE" .int 26 5, fd_ "allowSecurityManager" .int 10 6, fd_ "security" (.object "java/lang/SecurityManager") 74 7, fd_ "notSupportedJnuEncoding" (.object q50_) 10 8, fd_ "cons" (.object "java/io/Console") 74 9, fd_ "initialErrStream" (.object q41_) 74 10, fd_ "props" (.object "java/util/Properties") 10 11, fd_ "lineSeparator" (.object q50_) 10 12, fd_ "bootLayer" (.object "java/lang/ModuleLayer") 8 13]
  methods := #[k29m0, k29m1]
  instanceTypes := #[]
  staticTypes := #[(.object q40_), (.object q41_), (.object q41_), (.object q40_), .int, .int, .int, (.object "java/lang/SecurityManager"), (.object q50_), (.object "java/io/Console"), (.object q41_), (.object "java/util/Properties"), (.object q50_), (.object "java/lang/ModuleLayer")]
  resolved := Array.replicate 834 none
  statics := none }

def pool30 : Array CpInfo := pool [(1, .class_ 2), (0, u "java/util/ListIterator"), (0, .class_ 4), (0, u q49_), (0, .class_ 6), (0, u q70_)] 20

/-- java/util/ListIterator -/
def k30 : Class := { plain "java/util/ListIterator" (some 0) with
  accessFlags := 1537
  interfaces := #[19]
  cf := some (fileOf pool30 1 #[] #[] 1537 3 #[5] #[])
  fields := #[]
  methods := #[]
  instanceTypes := #[]
  staticTypes := #[]
  resolved := Array.replicate 27 none
  statics := none }

def pool31 : Array CpInfo := pool [(1, .methodref 2 3), (0, .class_ 4), (0, .nameAndType 5 6), (0, u q49_), (0, u q32_), (0, u "()V"), (0, .fieldref 8 9), (0, .class_ 10), (0, .nameAndType 11 12), (0, u q66_), (0, u "list"), (0, u "Ljava/util/List;"), (0, .fieldref 8 14), (0, .nameAndType 15 16), (0, u "size"), (0, u "I"), (0, .fieldref 8 18), (0, .nameAndType 19 16), (0, u "cursor"), (0, .fieldref 8 21), (0, .nameAndType 22 23), (0, u "isListIterator"), (0, u "Z"), (0, .interfaceMethodref 25 26), (0, .class_ 27), (0, .nameAndType 28 29), (0, u q71_), (0, u "get"), (0, u q8_), (6, .class_ 38), (1, u q62_), (2, .class_ 42), (0, u "java/util/ListIterator"), (4, u q26_), (11, u "hasNext"), (0, u "()Z"), (1, u "next"), (0, u q1_)] 22

def k31c0 : Code := cd_ 2 3 jdk_53_method_1_code
def k31m0 : Method := md_ q32_ q26_ [(.object q71_), .int] (none) 0 (some k31c0)
def k31c1 : Code := cd_ 2 1 jdk_53_method_3_code
def k31m1 : Method := md_ "hasNext" "()Z" [] (some .boolean) 1 (some k31c1)
def k31c2 : Code := { maxStack := 3, maxLocals := 3, code := jdk_53_method_4_code, exceptionTable := #[{ startPc := 0, endPc := 24, handlerPc := 25, catchType := 30 }], attributes := #[] }
def k31m2 : Method := md_ "next" q1_ [] (some (.object q49_)) 1 (some k31c2)
/-- java/util/ImmutableCollections$ListItr -/
def k31 : Class := { plain q66_ (some 0) with
  accessFlags := 48
  interfaces := #[30]
  cf := some (fileOf pool31 8 #[.nestHost 36] #[⟨0, 5, 47, #[]⟩, ⟨1, 59, 60, #[]⟩, ⟨1, 62, 63, #[]⟩] 48 2 #[41] #[⟨18, 11, 12, #[]⟩, ⟨18, 15, 16, #[]⟩, ⟨18, 22, 23, #[]⟩, ⟨2, 19, 16, #[]⟩])
  fields := #[fd_ "list" (.object q71_) 18 0, fd_ "size" .int 18 1, fd_ "isListIterator" .boolean 18 2, fd_ "cursor" .int 2 3]
  methods := #[k31m0, k31m1, k31m2]
  instanceTypes := #[(.object q71_), .int, .boolean, .int]
  staticTypes := #[]
  resolved := Array.replicate 86 none
  statics := none }

def pool32 : Array CpInfo := pool [(2, .class_ 4), (1, u q49_), (0, u q32_), (0, u "()V"), (7, .class_ 16), (1, u q60_), (57, .class_ 76), (1, u "java/util/Arrays$NaturalOrder"), (9, .methodref 2 87), (0, .nameAndType 88 89), (0, u "getClass"), (0, u "()Ljava/lang/Class;"), (20, .class_ 111), (0, u q33_), (1, .class_ 115), (1, u "java/util/Arrays$LegacyMergeSort"), (1, u "Z"), (21, u "copyOfRange"), (10, .methodref 151 152), (0, .class_ 153), (0, .nameAndType 154 155), (0, u "java/lang/System"), (0, u "arraycopy"), (0, u q16_), (144, .methodref 14 301), (0, .nameAndType 302 303), (0, u "copyOf"), (0, u q30_), (0, .methodref 305 306), (0, .class_ 307), (0, .nameAndType 308 309), (0, u q48_), (0, u "min"), (0, u "(II)I"), (29, .methodref 14 340), (0, .nameAndType 341 342), (0, u "copyOfRangeByte"), (0, u "([BII)[B"), (0, .methodref 14 344), (0, .nameAndType 345 346), (0, u "checkLength"), (0, u "(II)V"), (28, .class_ 376), (0, u "java/util/Arrays$ArrayList"), (68, u q0_), (269, u "MIN_ARRAY_SORT_GRAN"), (0, u "I"), (2, u "INSERTIONSORT_THRESHOLD"), (140, u q29_), (114, .class_ 976), (0, u "java/util/Arrays$ArrayItr")] 52

def k32m0 : Method := md_ q32_ "()V" [] (none) 2 (none)
def k32c1 : Code := cd_ 3 2 jdk_65_method_119_code
def k32m1 : Method := md_ "copyOf" q29_ [(.array (.object q49_)), .int] (some (.array (.object q49_))) 9 (some k32c1)
def k32c2 : Code := cd_ 6 4 jdk_65_method_120_code
def k32m2 : Method := md_ "copyOf" q30_ [(.array (.object q49_)), .int, (.object "java/lang/Class")] (some (.array (.object q49_))) 9 (some k32c2)
def k32c3 : Code := cd_ 4 2 jdk_65_method_131_code
def k32m3 : Method := md_ "checkLength" "(II)V" [.int, .int] (none) 10 (some k32c3)
def k32c4 : Code := cd_ 3 3 jdk_65_method_132_code
def k32m4 : Method := md_ "copyOfRange" "([BII)[B" [(.array .byte), .int, .int] (some (.array .byte)) 9 (some k32c4)
def k32c5 : Code := cd_ 6 5 jdk_65_method_133_code
def k32m5 : Method := md_ "copyOfRangeByte" "([BII)[B" [(.array .byte), .int, .int] (some (.array .byte)) 10 (some k32c5)
/-- java/util/Arrays -/
def k32 : Class := { plain q60_ (some 0) with
  accessFlags := 49
  interfaces := #[]
  cf := some (fileOf pool32 14 #[.nestMembers #[975, 375, 113, 74]] #[⟨2, 5, 6, #[]⟩, ⟨9, 302, 860, #[]⟩, ⟨9, 302, 303, #[]⟩, ⟨10, 345, 346, #[]⟩, ⟨9, 139, 342, #[]⟩, ⟨10, 341, 342, #[]⟩] 49 2 #[] #[⟨26, 715, 716, #[]⟩, ⟨26, 719, 716, #[]⟩, ⟨4120, 445, 117, #[]⟩])
  fields := #[fd_ "MIN_ARRAY_SORT_GRAN" .int 26 0, fd_ "INSERTIONSORT_THRESHOLD" .int 26 1, fd_ q0_ .boolean 4120 2]
  methods := #[k32m0, k32m1, k32m2, k32m3, k32m4, k32m5]
  instanceTypes := #[]
  staticTypes := #[.int, .int, .boolean]
  resolved := Array.replicate 1029 none
  statics := none }

def pool33 : Array CpInfo := pool [(1, .class_ 2), (0, u q48_), (1, .class_ 6), (1, u q49_), (0, u q32_), (0, u "()V"), (89, .class_ 100), (1, u "java/lang/Math$RandomNumberGeneratorHolder"), (71, u "negativeZeroFloatBits"), (0, u "J"), (2, u "negativeZeroDoubleBits"), (21, u "max"), (2, u "min"), (43, u q0_), (0, u "Z"), (88, u "(II)I"), (2, u "twoToTheDoubleScaleDown"), (0, u "D"), (4, u "twoToTheDoubleScaleUp"), (9, u "E"), (3, u "PI"), (2, u "TAU"), (2, u "DEGREES_TO_RADIANS"), (0, u "RADIANS_TO_DEGREES")] 94

def k33m0 : Method := md_ q32_ "()V" [] (none) 2 (none)
def k33c1 : Code := cd_ 2 2 jdk_29_method_65_code
def k33m1 : Method := md_ "max" "(II)I" [.int, .int] (some .int) 9 (some k33c1)
def k33c2 : Code := cd_ 2 2 jdk_29_method_69_code
def k33m2 : Method := md_ "min" "(II)I" [.int, .int] (some .int) 9 (some k33c2)
/-- java/lang/Math -/
def k33 : Class := { plain q48_ (some 0) with
  accessFlags := 49
  interfaces := #[]
  cf := some (fileOf pool33 1 #[.nestMembers #[98]] #[⟨2, 7, 8, #[]⟩, ⟨9, 198, 335, #[]⟩, ⟨9, 201, 335, #[]⟩] 49 4 #[] #[⟨25, 354, 339, #[]⟩, ⟨25, 358, 339, #[]⟩, ⟨25, 361, 339, #[]⟩, ⟨26, 364, 339, #[]⟩, ⟨26, 365, 339, #[]⟩, ⟨26, 172, 173, #[]⟩, ⟨26, 176, 173, #[]⟩, ⟨8, 344, 339, #[]⟩, ⟨8, 338, 339, #[]⟩, ⟨4120, 245, 246, #[]⟩])
  fields := #[fd_ "E" .double 25 0, fd_ "PI" .double 25 1, fd_ "TAU" .double 25 2, fd_ "DEGREES_TO_RADIANS" .double 26 3, fd_ "RADIANS_TO_DEGREES" .double 26 4, fd_ "negativeZeroFloatBits" .long 26 5, fd_ "negativeZeroDoubleBits" .long 26 6, fd_ "twoToTheDoubleScaleUp" .double 8 7, fd_ "twoToTheDoubleScaleDown" .double 8 8, fd_ q0_ .boolean 4120 9]
  methods := #[k33m0, k33m1, k33m2]
  instanceTypes := #[]
  staticTypes := #[.double, .double, .double, .double, .double, .long, .long, .double, .double, .boolean]
  resolved := Array.replicate 460 none
  statics := none }

def pool34 : Array CpInfo := pool [(1, .class_ 2), (0, u q50_), (1, .class_ 6), (1, u q49_), (0, u q32_), (0, u "()V"), (0, .methodref 1 10), (0, .nameAndType 11 12), (0, u q34_), (0, u "(II)V"), (1, .class_ 16), (1, u q52_), (33, .methodref 14 51), (0, .nameAndType 52 53), (0, u "getChar"), (0, u "([BI)C"), (3, u "([B)I"), (8, .fieldref 67 68), (0, .class_ 69), (0, .nameAndType 70 71), (0, u q46_), (0, u "instance"), (0, u "Ljava/lang/CharacterDataLatin1;"), (18, u "canEncode"), (0, u "(I)Z"), (13, u "(C)Z"), (15, u q0_), (0, u "Z"), (88, .methodref 67 212), (0, .nameAndType 213 91), (0, u "isWhitespace"), (2, u q38_), (4, .class_ 223), (1, u "java/lang/StringLatin1$LinesSpliterator"), (28, u "charAt"), (137, .class_ 391), (0, u "java/lang/StringLatin1$CharsSpliterator")] 3

def k34m0 : Method := md_ q32_ "()V" [] (none) 0 (none)
def k34c1 : Code := cd_ 2 2 jdk_43_method_2_code
def k34m1 : Method := md_ "charAt" "([BI)C" [(.array .byte), .int] (some .char) 9 (some k34c1)
def k34c2 : Code := cd_ 2 1 jdk_43_method_3_code
def k34m2 : Method := md_ "canEncode" "(C)Z" [.char] (some .boolean) 9 (some k34c2)
def k34c3 : Code := cd_ 2 4 jdk_43_method_37_code
def k34m3 : Method := md_ q38_ "([B)I" [(.array .byte)] (some .int) 9 (some k34c3)
def k34c4 : Code := cd_ 2 2 jdk_43_method_44_code
def k34m4 : Method := md_ "getChar" "([BI)C" [(.array .byte), .int] (some .char) 9 (some k34c4)
/-- java/lang/StringLatin1 -/
def k34 : Class := { plain q52_ (some 0) with
  accessFlags := 48
  interfaces := #[]
  cf := some (fileOf pool34 14 #[.nestMembers #[390, 221]] #[⟨0, 7, 8, #[]⟩, ⟨9, 252, 53, #[]⟩, ⟨9, 90, 105, #[]⟩, ⟨9, 216, 57, #[]⟩, ⟨9, 52, 53, #[]⟩] 48 4 #[] #[⟨4120, 121, 122, #[]⟩])
  fields := #[fd_ q0_ .boolean 4120 0]
  methods := #[k34m0, k34m1, k34m2, k34m3, k34m4]
  instanceTypes := #[]
  staticTypes := #[.boolean]
  resolved := Array.replicate 395 none
  statics := none }

def pool35 : Array CpInfo := pool [(2, .class_ 4), (1, u q49_), (0, u q32_), (0, u "()V"), (17, .class_ 26), (1, u q76_), (6, u q34_), (21, .class_ 56), (0, u "jdk/internal/util/Preconditions$4"), (57, .class_ 115), (0, u "jdk/internal/util/Preconditions$1"), (7, u "SIOOBE_FORMATTER"), (0, u "Ljava/util/function/BiFunction;"), (0, .class_ 126), (0, u "jdk/internal/util/Preconditions$2"), (3, u "AIOOBE_FORMATTER"), (0, .class_ 132), (0, u "jdk/internal/util/Preconditions$3"), (3, u "IOOBE_FORMATTER"), (41, u q9_)] 15

def k35m0 : Method := md_ q32_ "()V" [] (none) 1 (none)
def k35c1 : Code := cd_ 3 3 jdk_41_method_11_code
def k35m1 : Method := md_ q34_ q9_ [.int, .int, (.object q75_)] (some .int) 9 (some k35c1)
/-- jdk/internal/util/Preconditions -/
def k35 : Class := { plain q76_ (some 0) with
  accessFlags := 33
  interfaces := #[]
  cf := some (fileOf pool35 24 #[.nestMembers #[55, 131, 125, 114]] #[⟨1, 5, 6, #[]⟩, ⟨9, 33, 178, #[]⟩] 33 2 #[] #[⟨25, 123, 124, #[]⟩, ⟨25, 130, 124, #[]⟩, ⟨25, 136, 124, #[]⟩])
  fields := #[fd_ "SIOOBE_FORMATTER" (.object q75_) 25 0, fd_ "AIOOBE_FORMATTER" (.object q75_) 25 1, fd_ "IOOBE_FORMATTER" (.object q75_) 25 2]
  methods := #[k35m0, k35m1]
  instanceTypes := #[]
  staticTypes := #[(.object q75_), (.object q75_), (.object q75_)]
  resolved := Array.replicate 194 none
  statics := some 3 }

def pool36 : Array CpInfo := pool [(2, .class_ 4), (1, u q49_), (0, u q32_), (0, u "()V"), (1, .class_ 10), (1, u "java/lang/CharacterData")] 75

def k36m0 : Method := md_ q32_ "()V" [] (none) 0 (none)
/-- java/lang/CharacterData -/
def k36 : Class := { plain "java/lang/CharacterData" (some 0) with
  accessFlags := 1056
  interfaces := #[]
  cf := some (fileOf pool36 8 #[] #[⟨0, 5, 6, #[]⟩] 1056 2 #[] #[])
  fields := #[]
  methods := #[k36m0]
  instanceTypes := #[]
  staticTypes := #[]
  resolved := Array.replicate 86 none
  statics := none }

def pool37 : Array CpInfo := pool [(1, .fieldref 2 3), (0, .class_ 4), (0, .nameAndType 5 6), (0, u q46_), (0, u "A"), (0, u "[I"), (2, u "B"), (0, u "[C"), (3, u "(I)I"), (0, .methodref 2 16), (0, .nameAndType 17 14), (0, u "getProperties"), (3, u "(I)Z"), (5, u "DIGITS"), (0, u "[B"), (8, u "sharpsMap"), (1, .class_ 41), (1, u "java/lang/CharacterData"), (0, u q32_), (0, u "()V"), (3, u "instance"), (0, u "Ljava/lang/CharacterDataLatin1;"), (78, u "isWhitespace")] 13

def k37c0 : Code := cd_ 2 4 jdk_116_method_1_code
def k37m0 : Method := md_ "getProperties" "(I)I" [.int] (some .int) 0 (some k37c0)
def k37c1 : Code := cd_ 2 3 jdk_116_method_26_code
def k37m1 : Method := md_ "isWhitespace" "(I)Z" [.int] (some .boolean) 0 (some k37c1)
def k37m2 : Method := md_ q32_ "()V" [] (none) 2 (none)
/-- java/lang/CharacterDataLatin1 -/
def k37 : Class := { plain q46_ (some 36) with
  accessFlags := 32
  interfaces := #[]
  cf := some (fileOf pool37 2 #[] #[⟨0, 17, 14, #[]⟩, ⟨0, 127, 21, #[]⟩, ⟨2, 42, 43, #[]⟩] 32 39 #[] #[⟨26, 27, 28, #[]⟩, ⟨8, 37, 10, #[]⟩, ⟨24, 47, 48, #[]⟩, ⟨24, 5, 6, #[]⟩, ⟨24, 9, 10, #[]⟩])
  fields := #[fd_ "DIGITS" (.array .byte) 26 0, fd_ "sharpsMap" (.array .char) 8 1, fd_ "instance" (.object q46_) 24 2, fd_ "A" (.array .int) 24 3, fd_ "B" (.array .char) 24 4]
  methods := #[k37m0, k37m1, k37m2]
  instanceTypes := #[]
  staticTypes := #[(.array .byte), (.array .char), (.object q46_), (.array .int), (.array .char)]
  resolved := Array.replicate 141 none
  statics := some 4 }

def pool38 : Array CpInfo := pool [(2, .class_ 4), (1, u q49_), (0, u q32_), (0, u "()V"), (35, .class_ 44), (1, u q72_), (0, u q77_), (0, u q11_)] 137

def k38m0 : Method := md_ q32_ "()V" [] (none) 2 (none)
def k38c1 : Code := cd_ 2 1 jdk_31_method_10_code
def k38m1 : Method := md_ q77_ q11_ [(.object q49_)] (some (.object q49_)) 9 (some k38c1)
/-- java/util/Objects -/
def k38 : Class := { plain q72_ (some 0) with
  accessFlags := 49
  interfaces := #[]
  cf := some (fileOf pool38 42 #[] #[⟨2, 5, 6, #[]⟩, ⟨9, 45, 46, #[]⟩] 49 2 #[] #[])
  fields := #[]
  methods := #[k38m0, k38m1]
  instanceTypes := #[]
  staticTypes := #[]
  resolved := Array.replicate 184 none
  statics := none }

def pool39 : Array CpInfo := pool [(9, u q32_), (6, .class_ 18), (1, u q49_), (0, u "()V"), (1, .class_ 23), (1, u "jdk/internal/util/ArraysSupport"), (0, u "LOG2_ARRAY_LONG_INDEX_SCALE"), (0, u "I"), (2, u "U"), (0, u "Ljdk/internal/misc/Unsafe;"), (8, u "BIG_ENDIAN"), (0, u "Z"), (8, u "LOG2_BYTE_BIT_SIZE"), (4, u "LOG2_ARRAY_INT_INDEX_SCALE"), (54, u "JLA"), (0, u "Ljdk/internal/access/JavaLangAccess;"), (11, u "LOG2_ARRAY_BOOLEAN_INDEX_SCALE"), (9, u "LOG2_ARRAY_BYTE_INDEX_SCALE"), (5, u "LOG2_ARRAY_CHAR_INDEX_SCALE"), (5, u "LOG2_ARRAY_SHORT_INDEX_SCALE"), (18, u "LOG2_ARRAY_FLOAT_INDEX_SCALE"), (24, u "LOG2_ARRAY_DOUBLE_INDEX_SCALE"), (89, u "T_BOOLEAN"), (2, u "T_CHAR"), (1, u "T_FLOAT"), (1, u "T_DOUBLE"), (1, u "T_BYTE"), (1, u "T_SHORT"), (1, u "T_INT"), (1, u "T_LONG"), (1, u "SOFT_MAX_ARRAY_LENGTH")] 83

def k39m0 : Method := md_ q32_ "()V" [] (none) 2 (none)
/-- jdk/internal/util/ArraysSupport -/
def k39 : Class := { plain "jdk/internal/util/ArraysSupport" (some 0) with
  accessFlags := 33
  interfaces := #[]
  cf := some (fileOf pool39 21 #[] #[⟨2, 9, 19, #[]⟩] 33 16 #[] #[⟨24, 28, 29, #[]⟩, ⟨26, 38, 39, #[]⟩, ⟨25, 121, 25, #[]⟩, ⟨25, 131, 25, #[]⟩, ⟨25, 137, 25, #[]⟩, ⟨25, 143, 25, #[]⟩, ⟨25, 53, 25, #[]⟩, ⟨25, 24, 25, #[]⟩, ⟨25, 162, 25, #[]⟩, ⟨25, 187, 25, #[]⟩, ⟨26, 48, 25, #[]⟩, ⟨25, 277, 25, #[]⟩, ⟨25, 280, 25, #[]⟩, ⟨25, 282, 25, #[]⟩, ⟨25, 284, 25, #[]⟩, ⟨25, 286, 25, #[]⟩, ⟨25, 288, 25, #[]⟩, ⟨25, 290, 25, #[]⟩, ⟨25, 292, 25, #[]⟩, ⟨26, 108, 109, #[]⟩, ⟨25, 294, 25, #[]⟩])
  fields := #[fd_ "U" (.object "jdk/internal/misc/Unsafe") 24 0, fd_ "BIG_ENDIAN" .boolean 26 1, fd_ "LOG2_ARRAY_BOOLEAN_INDEX_SCALE" .int 25 2, fd_ "LOG2_ARRAY_BYTE_INDEX_SCALE" .int 25 3, fd_ "LOG2_ARRAY_CHAR_INDEX_SCALE" .int 25 4, fd_ "LOG2_ARRAY_SHORT_INDEX_SCALE" .int 25 5, fd_ "LOG2_ARRAY_INT_INDEX_SCALE" .int 25 6, fd_ "LOG2_ARRAY_LONG_INDEX_SCALE" .int 25 7, fd_ "LOG2_ARRAY_FLOAT_INDEX_SCALE" .int 25 8, fd_ "LOG2_ARRAY_DOUBLE_INDEX_SCALE" .int 25 9, fd_ "LOG2_BYTE_BIT_SIZE" .int 26 10, fd_ "T_BOOLEAN" .int 25 11, fd_ "T_CHAR" .int 25 12, fd_ "T_FLOAT" .int 25 13, fd_ "T_DOUBLE" .int 25 14, fd_ "T_BYTE" .int 25 15, fd_ "T_SHORT" .int 25 16, fd_ "T_INT" .int 25 17, fd_ "T_LONG" .int 25 18, fd_ "JLA" (.object "jdk/internal/access/JavaLangAccess") 26 19, fd_ "SOFT_MAX_ARRAY_LENGTH" .int 25 20]
  methods := #[k39m0]
  instanceTypes := #[]
  staticTypes := #[(.object "jdk/internal/misc/Unsafe"), .boolean, .int, .int, .int, .int, .int, .int, .int, .int, .int, .int, .int, .int, .int, .int, .int, .int, .int, (.object "jdk/internal/access/JavaLangAccess"), .int]
  resolved := Array.replicate 378 none
  statics := none }

def pool40 : Array CpInfo := pool [(1, u "java/lang/Class"), (0, .class_ 1), (0, u q49_), (0, .class_ 3)] 0

/-- java/lang/Class -/
def k40 : Class := { plain "java/lang/Class" (some 0) with
  accessFlags := 49
  interfaces := #[]
  cf := some (fileOf pool40 2 #[] #[] 49 4 #[] #[])
  fields := #[]
  methods := #[]
  instanceTypes := #[]
  staticTypes := #[]
  resolved := Array.replicate 5 none
  statics := none }

/-- the primitive byte -/
def k41 : Class := { plain "byte" none with kind := .primitive 'B', accessFlags := 0x411 }
/-- [B -/
def k42 : Class := { plain "[B" (some 0) with kind := .array 41 .byte, interfaces := #[16, 2], accessFlags := 1041 }

/-- the primitive char -/
def k43 : Class := { plain "char" none with kind := .primitive 'C', accessFlags := 0x411 }
/-- [C -/
def k44 : Class := { plain "[C" (some 0) with kind := .array 43 .char, interfaces := #[16, 2], accessFlags := 1041 }

/-- the primitive int -/
def k45 : Class := { plain "int" none with kind := .primitive 'I', accessFlags := 0x411 }
/-- [I -/
def k46 : Class := { plain "[I" (some 0) with kind := .array 45 .int, interfaces := #[16, 2], accessFlags := 1041 }

/-- [Ljava/lang/Object; -/
def k47 : Class := { plain q33_ (some 0) with kind := .array 0 (.object q49_), interfaces := #[16, 2], accessFlags := 1041, mirror := some 5 }

def heap : Heap := #[{ cls := 7, slots := #[.long 0, .int 1, .null, .int 0, .null, .int 0, .int 0], vm := .statics 7 },
  { cls := 17, slots := #[.long 0, .int 0, .ref 10, .ref 11], vm := .statics 17 },
  { cls := 21, slots := #[.long 0, .int 0, .null, .ref 12, .ref 7, .null, .null, .null, .int 0, .int 1], vm := .statics 21 },
  { cls := 35, slots := #[.null, .null, .null], vm := .statics 35 },
  { cls := 37, slots := #[.null, .null, .ref 9, .ref 8, .null], vm := .statics 37 },
  { cls := 40, slots := #[], vm := .mirror 47 },
  { cls := 47, slots := #[], vm := .none },
  { cls := 25, slots := #[.ref 6, .int 0], vm := .none },
  { cls := 46, slots := #[.int (1207963663), .int (1207963663), .int (1207963663), .int (1207963663), .int (1207963663), .int (1207963663), .int (1207963663), .int (1207963663), .int (1207963663), .int (1476411407), .int (1342193679), .int (1476411407), .int (1610629135), .int (1342193679), .int (1207963663), .int (1207963663), .int (1207963663), .int (1207963663), .int (1207963663), .int (1207963663), .int (1207963663), .int (1207963663), .int (1207963663), .int (1207963663), .int (1207963663), .int (1207963663), .int (1207963663), .int (1207963663), .int (1342193679), .int (1342193679), .int (1342193679), .int (1476411407), .int (1610629132), .int (1744830488), .int (1744830488), .int (671088664), .int (671113242), .int (671088664), .int (1744830488), .int (1744830488), .int (-402653163), .int (-402653162), .int (1744830488), .int (536870937), .int (939524120), .int (536870932), .int (939524120), .int (939524120), .int (402667017), .int (402667017), .int (402667017), .int (402667017), .int (402667017), .int (402667017), .int (402667017), .int (402667017), .int (402667017), .int (402667017), .int (939524120), .int (1744830488), .int (-402653159), .int (1744830489), .int (-402653159), .int (1744830488), .int (1744830488), .int (8552417), .int (8552417), .int (8552417), .int (8552417), .int (8552417), .int (8552417), .int (8552417), .int (8552417), .int (8552417), .int (8552417), .int (8552417), .int (8552417), .int (8552417), .int (8552417), .int (8552417), .int (8552417), .int (8552417), .int (8552417), .int (8552417), .int (8552417), .int (8552417), .int (8552417), .int (8552417), .int (8552417), .int (8552417), .int (8552417), .int (-402653163), .int (1744830488), .int (-402653162), .int (1744830491), .int (1744850967), .int (1744830491), .int (8486882), .int (8486882), .int (8486882), .int (8486882), .int (8486882), .int (8486882), .int (8486882), .int (8486882), .int (8486882), .int (8486882), .int (8486882), .int (8486882), .int (8486882), .int (8486882), .int (8486882), .int (8486882), .int (8486882), .int (8486882), .int (8486882), .int (8486882), .int (8486882), .int (8486882), .int (8486882), .int (8486882), .int (8486882), .int (8486882), .int (-402653163), .int (1744830489), .int (-402653162), .int (1744830489), .int (1207963663), .int (1207963663), .int (1207963663), .int (1207963663), .int (1207963663), .int (1207963663), .int (1342181391), .int (1207963663), .int (1207963663), .int (1207963663), .int (1207963663), .int (1207963663), .int (1207963663), .int (1207963663), .int (1207963663), .int (1207963663), .int (1207963663), .int (1207963663), .int (1207963663), .int (1207963663), .int (1207963663), .int (1207963663), .int (1207963663), .int (1207963663), .int (1207963663), .int (1207963663), .int (1207963663), .int (1207963663), .int (1207963663), .int (1207963663), .int (1207963663), .int (1207963663), .int (1207963663), .int (939524108), .int (1744830488), .int (671113242), .int (671113242), .int (671113242), .int (671113242), .int (1744830492), .int (1744830488), .int (1744830491), .int (1744830492), .int (28677), .int (-402653155), .int (1744830489), .int (1207963664), .int (1744830492), .int (1744830491), .int (671088668), .int (671088665), .int (402654731), .int (402654731), .int (1744830491), .int (134049794), .int (1744830488), .int (1744830488), .int (1744830491), .int (402654475), .int (28677), .int (-402653154), .int (1744832523), .int (1744832523), .int (1744832523), .int (1744830488), .int (8548353), .int (8548353), .int (8548353), .int (8548353), .int (8548353), .int (8548353), .int (8548353), .int (8548353), .int (8548353), .int (8548353), .int (8548353), .int (8548353), .int (8548353), .int (8548353), .int (8548353), .int (8548353), .int (8548353), .int (8548353), .int (8548353), .int (8548353), .int (8548353), .int (8548353), .int (8548353), .int (1744830489), .int (8548353), .int (8548353), .int (8548353), .int (8548353), .int (8548353), .int (8548353), .int (8548353), .int (134049794), .int (8482818), .int (8482818), .int (8482818), .int (8482818), .int (8482818), .int (8482818), .int (8482818), .int (8482818), .int (8482818), .int (8482818), .int (8482818), .int (8482818), .int (8482818), .int (8482818), .int (8482818), .int (8482818), .int (8482818), .int (8482818), .int (8482818), .int (8482818), .int (8482818), .int (8482818), .int (8482818), .int (1744830489), .int (8482818), .int (8482818), .int (8482818), .int (8482818), .int (8482818), .int (8482818), .int (8482818), .int (102592514)], vm := .none },
  { cls := 37, slots := #[], vm := .none },
  { cls := 47, slots := #[], vm := .none },
  { cls := 47, slots := #[], vm := .none },
  { cls := 0, slots := #[], vm := .none }]
def classes : Array Class := #[k0, k1, k2, k3, k4, k5, k6, k7, k8, k9, k10, k11, k12, k13, k14, k15, k16, k17, k18, k19, k20, k21, k22, k23, k24, k25, k26, k27, k28, k29, k30, k31, k32, k33, k34, k35, k36, k37, k38, k39, k40, k41, k42, k43, k44, k45, k46, k47]
def interned : List (Array UInt16 × Addr) := []
def slotsUsed : Nat := 287
def theMethod : MethodId := ⟨1, 4⟩
def args0 : Array Value := #[.int 13, .int 65, .int 66, .int 67, .int 68]
def aboutOver (below : List Frame) : State where
  vm := { classes := classes, interned := interned.toArray }
  heap := heap
  slotsUsed := slotsUsed
  threads := #[{ frames := .invoking theMethod args0 :: below }]
def below0 : List Frame := [.native { method := ⟨0, 0⟩, args := #[] }]
def about1 : State := aboutOver below0
def p0 : Program := .bare "" "" ""
def e0 : Env := launch0.env 0 0 0
theorem w_frames : about1.frames = Frame.invoking theMethod args0 :: below0 := rfl
theorem w_args : argsFit about1.vm theMethod args0 = true := by decide +kernel
theorem w_heap : heapFits about1 = true := by decide +kernel
theorem w_runnable : about1.curStatus? = some .runnable := by decide +kernel
theorem w_alone : about1.alone = true := by decide +kernel
theorem w_named : about1.methodNamed? x = some theMethod := by decide +kernel
theorem w_hears : about1.hears theMethod below0 = true := by decide +kernel
theorem w_ripe : about1.ripe theMethod args0 below0 = true := by decide +kernel
theorem w_running : about1.status = .running := rfl
theorem w_room : about1.hasRoom e0.platform room_1 = true :=
  launch0.hasRoom_least _ room_1 (by decide +kernel) (by decide +kernel) (by decide +kernel) (by decide +kernel) (by decide +kernel) (by decide +kernel)
theorem allAtoms_all (ts : List Jvm.Cond) (a : Array Jvm.Value) (st : Jvm.State) : (allAtoms ts).before a st = ts.all (fun c => c.before a st) := by
  induction ts with
  | nil => rfl
  | cons c t ih =>
    show (Jvm.Cond.and c (allAtoms t)).before a st = _
    rw [Jvm.Cond.before_and, ih, List.all_cons]
def words1 : List Jvm.Cond := Jvm.Cond.code x code maxLocals ret :: tables_1
/-- a 'code' word, met by the world's own term for the bytes: nothing is compared byte by byte -/
theorem code_word {y : MethodName} {bytes : ByteArray} {mx : Nat} {rt : Option FieldType} {a : Array Value} {s : State} {m : MethodId} {meth : Method} {c : Code} (h1 : s.methodNamed? y = some m) (h2 : s.vm.method? m = some meth) (h3 : meth.code = some c) (h4 : c.code = bytes)
    (h5 : (c.maxLocals == mx && c.exceptionTable.isEmpty && decide (c.maxStack ≤ mostOperands) && decide (meth.sig.returnType = rt) && !meth.locks && decide (parseMethodDescriptor y.desc = some meth.sig)) = true) : (Jvm.Cond.code y bytes mx rt).before a s = true := by
  simp only [Bool.and_eq_true, beq_iff_eq, Bool.not_eq_true', decide_eq_true_eq] at h5
  obtain ⟨⟨⟨⟨⟨g1, g2⟩, g3⟩, g4⟩, g5⟩, g6⟩ := h5
  simp [Cond.before, Cond.holds, Cond.value, h1, h2, h3, h4, g1, g2, g3, g4, g5, g6]
def isCode : Jvm.Cond → Bool
  | .code _ _ _ _ => true
  | _ => false
theorem all_split {L : List Jvm.Cond} {P : Jvm.Cond → Bool} (h1 : L.all (fun c => isCode c || P c) = true) (h2 : ∀ c ∈ L.filter isCode, P c = true) : L.all P = true := by
  refine List.all_eq_true.mpr fun c hc => ?_
  have h := List.all_eq_true.mp h1 c hc
  rcases Bool.eq_false_or_eq_true (isCode c) with hi | hi
  · exact h2 c (List.mem_filter.mpr ⟨hc, hi⟩)
  · simpa [hi] using h
abbrev w70_ : Jvm.Cond := Jvm.Cond.code ({ cls := q60_, name := "copyOf", desc := q30_ } : Jvm.MethodName) jdk_65_method_120_code (4 : Nat) (Option.some (Jvm.ClassFile.FieldType.array (Jvm.ClassFile.FieldType.object q49_)))
abbrev w23_ : Jvm.Cond := Jvm.Cond.code ({ cls := q43_, name := "append", desc := q19_ } : Jvm.MethodName) jdk_68_method_22_code (3 : Nat) (Option.some (Jvm.ClassFile.FieldType.object q43_))
abbrev w1_ : Jvm.Cond := Jvm.Cond.code ({ cls := q37_, name := "mk", desc := "(II)Ljava/lang/String;" } : Jvm.MethodName) method_2_code (4 : Nat) (Option.some (Jvm.ClassFile.FieldType.object q50_))
abbrev w69_ : Jvm.Cond := Jvm.Cond.code ({ cls := q60_, name := "copyOf", desc := q29_ } : Jvm.MethodName) jdk_65_method_119_code (2 : Nat) (Option.some (Jvm.ClassFile.FieldType.array (Jvm.ClassFile.FieldType.object q49_)))
abbrev w19_ : Jvm.Cond := Jvm.Cond.code ({ cls := q36_, name := q79_, desc := q2_ } : Jvm.MethodName) prog_32_method_7_code (1 : Nat) (Option.some (Jvm.ClassFile.FieldType.object q50_))
abbrev w11_ : Jvm.Cond := Jvm.Cond.code ({ cls := q36_, name := q32_, desc := q21_ } : Jvm.MethodName) prog_32_method_1_code (6 : Nat) (Option.none : Option Jvm.ClassFile.FieldType)
abbrev w78_ : Jvm.Cond := Jvm.Cond.code ({ cls := q43_, name := "append", desc := q6_ } : Jvm.MethodName) jdk_68_method_31_code (2 : Nat) (Option.some (Jvm.ClassFile.FieldType.object q43_))
abbrev w33_ : Jvm.Cond := Jvm.Cond.code ({ cls := q64_, name := q39_, desc := q3_ } : Jvm.MethodName) jdk_46_method_10_code (1 : Nat) (Option.some (Jvm.ClassFile.FieldType.object q70_))
abbrev w22_ : Jvm.Cond := Jvm.Cond.code ({ cls := q51_, name := "append", desc := q20_ } : Jvm.MethodName) jdk_67_method_7_code (2 : Nat) (Option.some (Jvm.ClassFile.FieldType.object q51_))
abbrev w30_ : Jvm.Cond := Jvm.Cond.code ({ cls := q51_, name := "append", desc := q13_ } : Jvm.MethodName) jdk_67_method_6_code (2 : Nat) (Option.some (Jvm.ClassFile.FieldType.object q51_))
abbrev w48_ : Jvm.Cond := Jvm.Cond.code ({ cls := q37_, name := "at", desc := q22_ } : Jvm.MethodName) method_4_code (4 : Nat) (Option.some Jvm.ClassFile.FieldType.boolean)
abbrev w68_ : Jvm.Cond := Jvm.Cond.code ({ cls := q58_, name := "toArray", desc := q5_ } : Jvm.MethodName) jdk_38_method_16_code (1 : Nat) (Option.some (Jvm.ClassFile.FieldType.array (Jvm.ClassFile.FieldType.object q49_)))
abbrev w82_ : Jvm.Cond := Jvm.Cond.code ({ cls := q62_, name := "listFromArray", desc := q28_ } : Jvm.MethodName) jdk_56_method_4_code (3 : Nat) (Option.some (Jvm.ClassFile.FieldType.object q71_))
abbrev w64_ : Jvm.Cond := Jvm.Cond.code ({ cls := q58_, name := "grow", desc := "(I)[Ljava/lang/Object;" } : Jvm.MethodName) jdk_38_method_6_code (4 : Nat) (Option.some (Jvm.ClassFile.FieldType.array (Jvm.ClassFile.FieldType.object q49_)))
abbrev w16_ : Jvm.Cond := Jvm.Cond.code ({ cls := q62_, name := "listCopy", desc := q25_ } : Jvm.MethodName) jdk_56_method_3_code (2 : Nat) (Option.some (Jvm.ClassFile.FieldType.object q71_))
abbrev w60_ : Jvm.Cond := Jvm.Cond.code ({ cls := q37_, name := "put", desc := q27_ } : Jvm.MethodName) method_3_code (3 : Nat) (Option.some Jvm.ClassFile.FieldType.int)
abbrev w63_ : Jvm.Cond := Jvm.Cond.code ({ cls := q58_, name := "grow", desc := q5_ } : Jvm.MethodName) jdk_38_method_7_code (1 : Nat) (Option.some (Jvm.ClassFile.FieldType.array (Jvm.ClassFile.FieldType.object q49_)))
abbrev w75_ : Jvm.Cond := Jvm.Cond.code ({ cls := q72_, name := q77_, desc := q11_ } : Jvm.MethodName) jdk_31_method_10_code (1 : Nat) (Option.some (Jvm.ClassFile.FieldType.object q49_))
abbrev w77_ : Jvm.Cond := Jvm.Cond.code ({ cls := q51_, name := "append", desc := q7_ } : Jvm.MethodName) jdk_67_method_14_code (2 : Nat) (Option.some (Jvm.ClassFile.FieldType.object q51_))
abbrev w31_ : Jvm.Cond := Jvm.Cond.code ({ cls := q50_, name := "valueOf", desc := q12_ } : Jvm.MethodName) jdk_42_method_133_code (1 : Nat) (Option.some (Jvm.ClassFile.FieldType.object q50_))
abbrev w72_ : Jvm.Cond := Jvm.Cond.code ({ cls := q65_, name := q32_, desc := q17_ } : Jvm.MethodName) jdk_44_method_2_code (3 : Nat) (Option.none : Option Jvm.ClassFile.FieldType)
abbrev w80_ : Jvm.Cond := Jvm.Cond.code ({ cls := q65_, name := "get", desc := q8_ } : Jvm.MethodName) jdk_44_method_5_code (2 : Nat) (Option.some (Jvm.ClassFile.FieldType.object q49_))
abbrev w84_ : Jvm.Cond := Jvm.Cond.code ({ cls := q67_, name := "get", desc := q8_ } : Jvm.MethodName) jdk_45_method_4_code (2 : Nat) (Option.some (Jvm.ClassFile.FieldType.object q49_))
abbrev w15_ : Jvm.Cond := Jvm.Cond.code ({ cls := q71_, name := "copyOf", desc := q25_ } : Jvm.MethodName) jdk_40_method_48_code (1 : Nat) (Option.some (Jvm.ClassFile.FieldType.object q71_))
abbrev w32_ : Jvm.Cond := Jvm.Cond.code ({ cls := q56_, name := q79_, desc := q2_ } : Jvm.MethodName) jdk_22_method_16_code (4 : Nat) (Option.some (Jvm.ClassFile.FieldType.object q50_))
abbrev w39_ : Jvm.Cond := Jvm.Cond.code ({ cls := q50_, name := q32_, desc := q10_ } : Jvm.MethodName) jdk_42_method_150_code (5 : Nat) (Option.none : Option Jvm.ClassFile.FieldType)
abbrev w53_ : Jvm.Cond := Jvm.Cond.code ({ cls := q76_, name := q34_, desc := q9_ } : Jvm.MethodName) jdk_41_method_11_code (3 : Nat) (Option.some Jvm.ClassFile.FieldType.int)
abbrev w40_ : Jvm.Cond := Jvm.Cond.code ({ cls := q43_, name := "getValue", desc := "()[B" } : Jvm.MethodName) jdk_68_method_64_code (1 : Nat) (Option.some (Jvm.ClassFile.FieldType.array Jvm.ClassFile.FieldType.byte))
abbrev w12_ : Jvm.Cond := Jvm.Cond.code ({ cls := q58_, name := q39_, desc := q3_ } : Jvm.MethodName) jdk_38_method_55_code (1 : Nat) (Option.some (Jvm.ClassFile.FieldType.object q70_))
abbrev w28_ : Jvm.Cond := Jvm.Cond.code ({ cls := q43_, name := "inflateIfNeededFor", desc := "(Ljava/lang/String;)V" } : Jvm.MethodName) jdk_68_method_71_code (2 : Nat) (Option.none : Option Jvm.ClassFile.FieldType)
abbrev w37_ : Jvm.Cond := Jvm.Cond.code ({ cls := q51_, name := q79_, desc := q2_ } : Jvm.MethodName) jdk_67_method_42_code (1 : Nat) (Option.some (Jvm.ClassFile.FieldType.object q50_))
abbrev w71_ : Jvm.Cond := Jvm.Cond.code ({ cls := q71_, name := "of", desc := q28_ } : Jvm.MethodName) jdk_40_method_47_code (2 : Nat) (Option.some (Jvm.ClassFile.FieldType.object q71_))
abbrev w45_ : Jvm.Cond := Jvm.Cond.code ({ cls := q60_, name := "copyOfRangeByte", desc := "([BII)[B" } : Jvm.MethodName) jdk_65_method_133_code (5 : Nat) (Option.some (Jvm.ClassFile.FieldType.array Jvm.ClassFile.FieldType.byte))
abbrev w74_ : Jvm.Cond := Jvm.Cond.code ({ cls := q63_, name := q32_, desc := "()V" } : Jvm.MethodName) jdk_47_method_1_code (1 : Nat) (Option.none : Option Jvm.ClassFile.FieldType)
abbrev w5_ : Jvm.Cond := Jvm.Cond.code ({ cls := q53_, name := "compress", desc := "([CII)[B" } : Jvm.MethodName) jdk_52_method_16_code (6 : Nat) (Option.some (Jvm.ClassFile.FieldType.array Jvm.ClassFile.FieldType.byte))
abbrev w66_ : Jvm.Cond := Jvm.Cond.code ({ cls := q59_, name := "next", desc := q1_ } : Jvm.MethodName) jdk_49_method_3_code (3 : Nat) (Option.some (Jvm.ClassFile.FieldType.object q49_))
abbrev w27_ : Jvm.Cond := Jvm.Cond.code ({ cls := q43_, name := "putStringAt", desc := "(ILjava/lang/String;)V" } : Jvm.MethodName) jdk_68_method_73_code (3 : Nat) (Option.none : Option Jvm.ClassFile.FieldType)
abbrev w44_ : Jvm.Cond := Jvm.Cond.code ({ cls := q60_, name := "copyOfRange", desc := "([BII)[B" } : Jvm.MethodName) jdk_65_method_132_code (3 : Nat) (Option.some (Jvm.ClassFile.FieldType.array Jvm.ClassFile.FieldType.byte))
abbrev w81_ : Jvm.Cond := Jvm.Cond.code ({ cls := q50_, name := q79_, desc := q2_ } : Jvm.MethodName) jdk_42_method_126_code (1 : Nat) (Option.some (Jvm.ClassFile.FieldType.object q50_))
abbrev w83_ : Jvm.Cond := Jvm.Cond.code ({ cls := q67_, name := q32_, desc := q31_ } : Jvm.MethodName) jdk_45_method_1_code (3 : Nat) (Option.none : Option Jvm.ClassFile.FieldType)
abbrev w35_ : Jvm.Cond := Jvm.Cond.code ({ cls := q66_, name := q32_, desc := q26_ } : Jvm.MethodName) jdk_53_method_1_code (3 : Nat) (Option.none : Option Jvm.ClassFile.FieldType)
abbrev w62_ : Jvm.Cond := Jvm.Cond.code ({ cls := q58_, name := "add", desc := q18_ } : Jvm.MethodName) jdk_38_method_24_code (4 : Nat) (Option.none : Option Jvm.ClassFile.FieldType)
abbrev w85_ : Jvm.Cond := Jvm.Cond.code ({ cls := q65_, name := q32_, desc := q14_ } : Jvm.MethodName) jdk_44_method_1_code (2 : Nat) (Option.none : Option Jvm.ClassFile.FieldType)
abbrev w73_ : Jvm.Cond := Jvm.Cond.code ({ cls := q64_, name := q32_, desc := "()V" } : Jvm.MethodName) jdk_46_method_1_code (1 : Nat) (Option.none : Option Jvm.ClassFile.FieldType)
abbrev w26_ : Jvm.Cond := Jvm.Cond.code ({ cls := q43_, name := "ensureCapacityInternal", desc := "(I)V" } : Jvm.MethodName) jdk_68_method_9_code (3 : Nat) (Option.none : Option Jvm.ClassFile.FieldType)
abbrev w13_ : Jvm.Cond := Jvm.Cond.code ({ cls := q59_, name := q32_, desc := q24_ } : Jvm.MethodName) jdk_49_method_1_code (2 : Nat) (Option.none : Option Jvm.ClassFile.FieldType)
abbrev w18_ : Jvm.Cond := Jvm.Cond.code ({ cls := q71_, name := "of", desc := q4_ } : Jvm.MethodName) jdk_40_method_36_code (0 : Nat) (Option.some (Jvm.ClassFile.FieldType.object q71_))
abbrev w38_ : Jvm.Cond := Jvm.Cond.code ({ cls := q50_, name := q32_, desc := q23_ } : Jvm.MethodName) jdk_42_method_53_code (2 : Nat) (Option.none : Option Jvm.ClassFile.FieldType)
abbrev w67_ : Jvm.Cond := Jvm.Cond.code ({ cls := q59_, name := "checkForComodification", desc := "()V" } : Jvm.MethodName) jdk_49_method_6_code (1 : Nat) (Option.none : Option Jvm.ClassFile.FieldType)
abbrev w3_ : Jvm.Cond := Jvm.Cond.code ({ cls := q50_, name := q32_, desc := "([CIILjava/lang/Void;)V" } : Jvm.MethodName) jdk_42_method_149_code (6 : Nat) (Option.none : Option Jvm.ClassFile.FieldType)
abbrev w36_ : Jvm.Cond := Jvm.Cond.code ({ cls := q66_, name := "hasNext", desc := "()Z" } : Jvm.MethodName) jdk_53_method_3_code (1 : Nat) (Option.some Jvm.ClassFile.FieldType.boolean)
abbrev w58_ : Jvm.Cond := Jvm.Cond.code ({ cls := q46_, name := "isWhitespace", desc := "(I)Z" } : Jvm.MethodName) jdk_116_method_26_code (3 : Nat) (Option.some Jvm.ClassFile.FieldType.boolean)
abbrev w56_ : Jvm.Cond := Jvm.Cond.code ({ cls := q52_, name := q38_, desc := "([B)I" } : Jvm.MethodName) jdk_43_method_37_code (4 : Nat) (Option.some Jvm.ClassFile.FieldType.int)
abbrev w61_ : Jvm.Cond := Jvm.Cond.code ({ cls := q58_, name := "add", desc := q15_ } : Jvm.MethodName) jdk_38_method_25_code (2 : Nat) (Option.some Jvm.ClassFile.FieldType.boolean)
abbrev w43_ : Jvm.Cond := Jvm.Cond.code ({ cls := q43_, name := "isLatin1", desc := "()Z" } : Jvm.MethodName) jdk_68_method_68_code (1 : Nat) (Option.some Jvm.ClassFile.FieldType.boolean)
abbrev w59_ : Jvm.Cond := Jvm.Cond.code ({ cls := q46_, name := "getProperties", desc := "(I)I" } : Jvm.MethodName) jdk_116_method_1_code (4 : Nat) (Option.some Jvm.ClassFile.FieldType.int)
abbrev w7_ : Jvm.Cond := Jvm.Cond.code ({ cls := q53_, name := q35_, desc := "([BI)B" } : Jvm.MethodName) jdk_52_method_15_code (2 : Nat) (Option.some Jvm.ClassFile.FieldType.byte)
abbrev w21_ : Jvm.Cond := Jvm.Cond.code ({ cls := q43_, name := q32_, desc := "(I)V" } : Jvm.MethodName) jdk_68_method_2_code (2 : Nat) (Option.none : Option Jvm.ClassFile.FieldType)
abbrev w76_ : Jvm.Cond := Jvm.Cond.code ({ cls := q65_, name := "size", desc := "()I" } : Jvm.MethodName) jdk_44_method_3_code (1 : Nat) (Option.some Jvm.ClassFile.FieldType.int)
abbrev w34_ : Jvm.Cond := Jvm.Cond.code ({ cls := q67_, name := "size", desc := "()I" } : Jvm.MethodName) jdk_45_method_3_code (1 : Nat) (Option.some Jvm.ClassFile.FieldType.int)
abbrev w10_ : Jvm.Cond := Jvm.Cond.code ({ cls := q56_, name := q32_, desc := "()V" } : Jvm.MethodName) jdk_22_method_1_code (1 : Nat) (Option.none : Option Jvm.ClassFile.FieldType)
abbrev w55_ : Jvm.Cond := Jvm.Cond.code ({ cls := q50_, name := q38_, desc := "()I" } : Jvm.MethodName) jdk_42_method_120_code (1 : Nat) (Option.some Jvm.ClassFile.FieldType.int)
abbrev w6_ : Jvm.Cond := Jvm.Cond.code ({ cls := q53_, name := "compress", desc := "([CI[BII)I" } : Jvm.MethodName) jdk_52_method_21_code (7 : Nat) (Option.some Jvm.ClassFile.FieldType.int)
abbrev w42_ : Jvm.Cond := Jvm.Cond.code ({ cls := q43_, name := "length", desc := "()I" } : Jvm.MethodName) jdk_68_method_6_code (1 : Nat) (Option.some Jvm.ClassFile.FieldType.int)
abbrev w46_ : Jvm.Cond := Jvm.Cond.code ({ cls := q60_, name := "checkLength", desc := "(II)V" } : Jvm.MethodName) jdk_65_method_131_code (2 : Nat) (Option.none : Option Jvm.ClassFile.FieldType)
abbrev w79_ : Jvm.Cond := Jvm.Cond.code ({ cls := q52_, name := "canEncode", desc := "(C)Z" } : Jvm.MethodName) jdk_43_method_3_code (1 : Nat) (Option.some Jvm.ClassFile.FieldType.boolean)
abbrev w29_ : Jvm.Cond := Jvm.Cond.code ({ cls := q50_, name := "getBytes", desc := "([BIB)V" } : Jvm.MethodName) jdk_42_method_147_code (4 : Nat) (Option.none : Option Jvm.ClassFile.FieldType)
abbrev w52_ : Jvm.Cond := Jvm.Cond.code ({ cls := q50_, name := q34_, desc := "(II)V" } : Jvm.MethodName) jdk_42_method_155_code (2 : Nat) (Option.none : Option Jvm.ClassFile.FieldType)
abbrev w14_ : Jvm.Cond := Jvm.Cond.code ({ cls := q59_, name := "hasNext", desc := "()Z" } : Jvm.MethodName) jdk_49_method_2_code (1 : Nat) (Option.some Jvm.ClassFile.FieldType.boolean)
abbrev w20_ : Jvm.Cond := Jvm.Cond.code ({ cls := q51_, name := q32_, desc := "()V" } : Jvm.MethodName) jdk_67_method_1_code (1 : Nat) (Option.none : Option Jvm.ClassFile.FieldType)
abbrev w57_ : Jvm.Cond := Jvm.Cond.code ({ cls := q52_, name := "getChar", desc := "([BI)C" } : Jvm.MethodName) jdk_43_method_44_code (2 : Nat) (Option.some Jvm.ClassFile.FieldType.char)
abbrev w9_ : Jvm.Cond := Jvm.Cond.code ({ cls := q57_, name := q32_, desc := "()V" } : Jvm.MethodName) jdk_39_method_1_code (1 : Nat) (Option.none : Option Jvm.ClassFile.FieldType)
abbrev w51_ : Jvm.Cond := Jvm.Cond.code ({ cls := q52_, name := "charAt", desc := "([BI)C" } : Jvm.MethodName) jdk_43_method_2_code (2 : Nat) (Option.some Jvm.ClassFile.FieldType.char)
abbrev w8_ : Jvm.Cond := Jvm.Cond.code ({ cls := q58_, name := q32_, desc := "()V" } : Jvm.MethodName) jdk_38_method_2_code (1 : Nat) (Option.none : Option Jvm.ClassFile.FieldType)
abbrev w17_ : Jvm.Cond := Jvm.Cond.code ({ cls := q58_, name := "isEmpty", desc := "()Z" } : Jvm.MethodName) jdk_38_method_9_code (1 : Nat) (Option.some Jvm.ClassFile.FieldType.boolean)
abbrev w41_ : Jvm.Cond := Jvm.Cond.code ({ cls := q51_, name := "length", desc := "()I" } : Jvm.MethodName) jdk_67_method_93_code (1 : Nat) (Option.some Jvm.ClassFile.FieldType.int)
abbrev w50_ : Jvm.Cond := Jvm.Cond.code ({ cls := q50_, name := "isLatin1", desc := "()Z" } : Jvm.MethodName) jdk_42_method_154_code (1 : Nat) (Option.some Jvm.ClassFile.FieldType.boolean)
abbrev w2_ : Jvm.Cond := Jvm.Cond.code ({ cls := q50_, name := q32_, desc := "([C)V" } : Jvm.MethodName) jdk_42_method_3_code (2 : Nat) (Option.none : Option Jvm.ClassFile.FieldType)
abbrev w54_ : Jvm.Cond := Jvm.Cond.code ({ cls := q50_, name := "isBlank", desc := "()Z" } : Jvm.MethodName) jdk_42_method_117_code (1 : Nat) (Option.some Jvm.ClassFile.FieldType.boolean)
abbrev w4_ : Jvm.Cond := Jvm.Cond.code ({ cls := q49_, name := q32_, desc := "()V" } : Jvm.MethodName) object_method_1_code (1 : Nat) (Option.none : Option Jvm.ClassFile.FieldType)
abbrev w49_ : Jvm.Cond := Jvm.Cond.code ({ cls := q50_, name := "charAt", desc := "(I)C" } : Jvm.MethodName) jdk_42_method_56_code (2 : Nat) (Option.some Jvm.ClassFile.FieldType.char)
abbrev w25_ : Jvm.Cond := Jvm.Cond.code ({ cls := q50_, name := "coder", desc := "()B" } : Jvm.MethodName) jdk_42_method_152_code (1 : Nat) (Option.some Jvm.ClassFile.FieldType.byte)
abbrev w24_ : Jvm.Cond := Jvm.Cond.code ({ cls := q50_, name := "length", desc := "()I" } : Jvm.MethodName) jdk_42_method_54_code (1 : Nat) (Option.some Jvm.ClassFile.FieldType.int)
abbrev w47_ : Jvm.Cond := Jvm.Cond.code ({ cls := q48_, name := "min", desc := "(II)I" } : Jvm.MethodName) jdk_29_method_69_code (2 : Nat) (Option.some Jvm.ClassFile.FieldType.int)
abbrev w65_ : Jvm.Cond := Jvm.Cond.code ({ cls := q48_, name := "max", desc := "(II)I" } : Jvm.MethodName) jdk_29_method_65_code (2 : Nat) (Option.some Jvm.ClassFile.FieldType.int)
theorem w_c0 : (Jvm.Cond.code x code maxLocals ret).before args0 about1 = true := code_word (m := ⟨1, 4⟩) (meth := k1m4) (c := k1c4) (by decide +kernel) rfl rfl rfl (by decide +kernel)
theorem w_c1 : w1_.before args0 about1 = true := code_word (m := ⟨1, 1⟩) (meth := k1m1) (c := k1c1) (by decide +kernel) rfl rfl rfl (by decide +kernel)
theorem w_c2 : w2_.before args0 about1 = true := code_word (m := ⟨7, 1⟩) (meth := k7m1) (c := k7c1) (by decide +kernel) rfl rfl rfl (by decide +kernel)
theorem w_c3 : w3_.before args0 about1 = true := code_word (m := ⟨7, 10⟩) (meth := k7m10) (c := k7c10) (by decide +kernel) rfl rfl rfl (by decide +kernel)
theorem w_c4 : w4_.before args0 about1 = true := code_word (m := ⟨0, 0⟩) (meth := k0m0) (c := k0c0) (by decide +kernel) rfl rfl rfl (by decide +kernel)
theorem w_c5 : w5_.before args0 about1 = true := code_word (m := ⟨8, 2⟩) (meth := k8m2) (c := k8c2) (by decide +kernel) rfl rfl rfl (by decide +kernel)
theorem w_c6 : w6_.before args0 about1 = true := code_word (m := ⟨8, 3⟩) (meth := k8m3) (c := k8c3) (by decide +kernel) rfl rfl rfl (by decide +kernel)
theorem w_c7 : w7_.before args0 about1 = true := code_word (m := ⟨8, 1⟩) (meth := k8m1) (c := k8c1) (by decide +kernel) rfl rfl rfl (by decide +kernel)
theorem w_c8 : w8_.before args0 about1 = true := code_word (m := ⟨17, 0⟩) (meth := k17m0) (c := k17c0) (by decide +kernel) rfl rfl rfl (by decide +kernel)
theorem w_c9 : w9_.before args0 about1 = true := code_word (m := ⟨14, 0⟩) (meth := k14m0) (c := k14c0) (by decide +kernel) rfl rfl rfl (by decide +kernel)
theorem w_c10 : w10_.before args0 about1 = true := code_word (m := ⟨11, 0⟩) (meth := k11m0) (c := k11c0) (by decide +kernel) rfl rfl rfl (by decide +kernel)
theorem w_c11 : w11_.before args0 about1 = true := code_word (m := ⟨18, 0⟩) (meth := k18m0) (c := k18c0) (by decide +kernel) rfl rfl rfl (by decide +kernel)
theorem w_c12 : w12_.before args0 about1 = true := code_word (m := ⟨17, 7⟩) (meth := k17m7) (c := k17c7) (by decide +kernel) rfl rfl rfl (by decide +kernel)
theorem w_c13 : w13_.before args0 about1 = true := code_word (m := ⟨20, 0⟩) (meth := k20m0) (c := k20c0) (by decide +kernel) rfl rfl rfl (by decide +kernel)
theorem w_c14 : w14_.before args0 about1 = true := code_word (m := ⟨20, 1⟩) (meth := k20m1) (c := k20c1) (by decide +kernel) rfl rfl rfl (by decide +kernel)
theorem w_c15 : w15_.before args0 about1 = true := code_word (m := ⟨13, 4⟩) (meth := k13m4) (c := k13c4) (by decide +kernel) rfl rfl rfl (by decide +kernel)
theorem w_c16 : w16_.before args0 about1 = true := code_word (m := ⟨21, 1⟩) (meth := k21m1) (c := k21c1) (by decide +kernel) rfl rfl rfl (by decide +kernel)
theorem w_c17 : w17_.before args0 about1 = true := code_word (m := ⟨17, 3⟩) (meth := k17m3) (c := k17c3) (by decide +kernel) rfl rfl rfl (by decide +kernel)
theorem w_c18 : w18_.before args0 about1 = true := code_word (m := ⟨13, 2⟩) (meth := k13m2) (c := k13c2) (by decide +kernel) rfl rfl rfl (by decide +kernel)
theorem w_c19 : w19_.before args0 about1 = true := code_word (m := ⟨18, 1⟩) (meth := k18m1) (c := k18c1) (by decide +kernel) rfl rfl rfl (by decide +kernel)
theorem w_c20 : w20_.before args0 about1 = true := code_word (m := ⟨28, 0⟩) (meth := k28m0) (c := k28c0) (by decide +kernel) rfl rfl rfl (by decide +kernel)
theorem w_c21 : w21_.before args0 about1 = true := code_word (m := ⟨27, 1⟩) (meth := k27m1) (c := k27c1) (by decide +kernel) rfl rfl rfl (by decide +kernel)
theorem w_c22 : w22_.before args0 about1 = true := code_word (m := ⟨28, 2⟩) (meth := k28m2) (c := k28c2) (by decide +kernel) rfl rfl rfl (by decide +kernel)
theorem w_c23 : w23_.before args0 about1 = true := code_word (m := ⟨27, 4⟩) (meth := k27m4) (c := k27c4) (by decide +kernel) rfl rfl rfl (by decide +kernel)
theorem w_c24 : w24_.before args0 about1 = true := code_word (m := ⟨7, 3⟩) (meth := k7m3) (c := k7c3) (by decide +kernel) rfl rfl rfl (by decide +kernel)
theorem w_c25 : w25_.before args0 about1 = true := code_word (m := ⟨7, 12⟩) (meth := k7m12) (c := k7c12) (by decide +kernel) rfl rfl rfl (by decide +kernel)
theorem w_c26 : w26_.before args0 about1 = true := code_word (m := ⟨27, 3⟩) (meth := k27m3) (c := k27c3) (by decide +kernel) rfl rfl rfl (by decide +kernel)
theorem w_c27 : w27_.before args0 about1 = true := code_word (m := ⟨27, 9⟩) (meth := k27m9) (c := k27c9) (by decide +kernel) rfl rfl rfl (by decide +kernel)
theorem w_c28 : w28_.before args0 about1 = true := code_word (m := ⟨27, 8⟩) (meth := k27m8) (c := k27c8) (by decide +kernel) rfl rfl rfl (by decide +kernel)
theorem w_c29 : w29_.before args0 about1 = true := code_word (m := ⟨7, 9⟩) (meth := k7m9) (c := k7c9) (by decide +kernel) rfl rfl rfl (by decide +kernel)
theorem w_c30 : w30_.before args0 about1 = true := code_word (m := ⟨28, 1⟩) (meth := k28m1) (c := k28c1) (by decide +kernel) rfl rfl rfl (by decide +kernel)
theorem w_c31 : w31_.before args0 about1 = true := code_word (m := ⟨7, 8⟩) (meth := k7m8) (c := k7c8) (by decide +kernel) rfl rfl rfl (by decide +kernel)
theorem w_c32 : w32_.before args0 about1 = true := code_word (m := ⟨11, 3⟩) (meth := k11m3) (c := k11c3) (by decide +kernel) rfl rfl rfl (by decide +kernel)
theorem w_c33 : w33_.before args0 about1 = true := code_word (m := ⟨23, 1⟩) (meth := k23m1) (c := k23c1) (by decide +kernel) rfl rfl rfl (by decide +kernel)
theorem w_c34 : w34_.before args0 about1 = true := code_word (m := ⟨25, 1⟩) (meth := k25m1) (c := k25c1) (by decide +kernel) rfl rfl rfl (by decide +kernel)
theorem w_c35 : w35_.before args0 about1 = true := code_word (m := ⟨31, 0⟩) (meth := k31m0) (c := k31c0) (by decide +kernel) rfl rfl rfl (by decide +kernel)
theorem w_c36 : w36_.before args0 about1 = true := code_word (m := ⟨31, 1⟩) (meth := k31m1) (c := k31c1) (by decide +kernel) rfl rfl rfl (by decide +kernel)
theorem w_c37 : w37_.before args0 about1 = true := code_word (m := ⟨28, 4⟩) (meth := k28m4) (c := k28c4) (by decide +kernel) rfl rfl rfl (by decide +kernel)
theorem w_c38 : w38_.before args0 about1 = true := code_word (m := ⟨7, 2⟩) (meth := k7m2) (c := k7c2) (by decide +kernel) rfl rfl rfl (by decide +kernel)
theorem w_c39 : w39_.before args0 about1 = true := code_word (m := ⟨7, 11⟩) (meth := k7m11) (c := k7c11) (by decide +kernel) rfl rfl rfl (by decide +kernel)
theorem w_c40 : w40_.before args0 about1 = true := code_word (m := ⟨27, 6⟩) (meth := k27m6) (c := k27c6) (by decide +kernel) rfl rfl rfl (by decide +kernel)
theorem w_c41 : w41_.before args0 about1 = true := code_word (m := ⟨28, 5⟩) (meth := k28m5) (c := k28c5) (by decide +kernel) rfl rfl rfl (by decide +kernel)
theorem w_c42 : w42_.before args0 about1 = true := code_word (m := ⟨27, 2⟩) (meth := k27m2) (c := k27c2) (by decide +kernel) rfl rfl rfl (by decide +kernel)
theorem w_c43 : w43_.before args0 about1 = true := code_word (m := ⟨27, 7⟩) (meth := k27m7) (c := k27c7) (by decide +kernel) rfl rfl rfl (by decide +kernel)
theorem w_c44 : w44_.before args0 about1 = true := code_word (m := ⟨32, 4⟩) (meth := k32m4) (c := k32c4) (by decide +kernel) rfl rfl rfl (by decide +kernel)
theorem w_c45 : w45_.before args0 about1 = true := code_word (m := ⟨32, 5⟩) (meth := k32m5) (c := k32c5) (by decide +kernel) rfl rfl rfl (by decide +kernel)
theorem w_c46 : w46_.before args0 about1 = true := code_word (m := ⟨32, 3⟩) (meth := k32m3) (c := k32c3) (by decide +kernel) rfl rfl rfl (by decide +kernel)
theorem w_c47 : w47_.before args0 about1 = true := code_word (m := ⟨33, 2⟩) (meth := k33m2) (c := k33c2) (by decide +kernel) rfl rfl rfl (by decide +kernel)
theorem w_c48 : w48_.before args0 about1 = true := code_word (m := ⟨1, 3⟩) (meth := k1m3) (c := k1c3) (by decide +kernel) rfl rfl rfl (by decide +kernel)
theorem w_c49 : w49_.before args0 about1 = true := code_word (m := ⟨7, 4⟩) (meth := k7m4) (c := k7c4) (by decide +kernel) rfl rfl rfl (by decide +kernel)
theorem w_c50 : w50_.before args0 about1 = true := code_word (m := ⟨7, 13⟩) (meth := k7m13) (c := k7c13) (by decide +kernel) rfl rfl rfl (by decide +kernel)
theorem w_c51 : w51_.before args0 about1 = true := code_word (m := ⟨34, 1⟩) (meth := k34m1) (c := k34c1) (by decide +kernel) rfl rfl rfl (by decide +kernel)
theorem w_c52 : w52_.before args0 about1 = true := code_word (m := ⟨7, 14⟩) (meth := k7m14) (c := k7c14) (by decide +kernel) rfl rfl rfl (by decide +kernel)
theorem w_c53 : w53_.before args0 about1 = true := code_word (m := ⟨35, 1⟩) (meth := k35m1) (c := k35c1) (by decide +kernel) rfl rfl rfl (by decide +kernel)
theorem w_c54 : w54_.before args0 about1 = true := code_word (m := ⟨7, 5⟩) (meth := k7m5) (c := k7c5) (by decide +kernel) rfl rfl rfl (by decide +kernel)
theorem w_c55 : w55_.before args0 about1 = true := code_word (m := ⟨7, 6⟩) (meth := k7m6) (c := k7c6) (by decide +kernel) rfl rfl rfl (by decide +kernel)
theorem w_c56 : w56_.before args0 about1 = true := code_word (m := ⟨34, 3⟩) (meth := k34m3) (c := k34c3) (by decide +kernel) rfl rfl rfl (by decide +kernel)
theorem w_c57 : w57_.before args0 about1 = true := code_word (m := ⟨34, 4⟩) (meth := k34m4) (c := k34c4) (by decide +kernel) rfl rfl rfl (by decide +kernel)
theorem w_c58 : w58_.before args0 about1 = true := code_word (m := ⟨37, 1⟩) (meth := k37m1) (c := k37c1) (by decide +kernel) rfl rfl rfl (by decide +kernel)
theorem w_c59 : w59_.before args0 about1 = true := code_word (m := ⟨37, 0⟩) (meth := k37m0) (c := k37c0) (by decide +kernel) rfl rfl rfl (by decide +kernel)
theorem w_c60 : w60_.before args0 about1 = true := code_word (m := ⟨1, 2⟩) (meth := k1m2) (c := k1c2) (by decide +kernel) rfl rfl rfl (by decide +kernel)
theorem w_c61 : w61_.before args0 about1 = true := code_word (m := ⟨17, 6⟩) (meth := k17m6) (c := k17c6) (by decide +kernel) rfl rfl rfl (by decide +kernel)
theorem w_c62 : w62_.before args0 about1 = true := code_word (m := ⟨17, 5⟩) (meth := k17m5) (c := k17c5) (by decide +kernel) rfl rfl rfl (by decide +kernel)
theorem w_c63 : w63_.before args0 about1 = true := code_word (m := ⟨17, 2⟩) (meth := k17m2) (c := k17c2) (by decide +kernel) rfl rfl rfl (by decide +kernel)
theorem w_c64 : w64_.before args0 about1 = true := code_word (m := ⟨17, 1⟩) (meth := k17m1) (c := k17c1) (by decide +kernel) rfl rfl rfl (by decide +kernel)
theorem w_c65 : w65_.before args0 about1 = true := code_word (m := ⟨33, 1⟩) (meth := k33m1) (c := k33c1) (by decide +kernel) rfl rfl rfl (by decide +kernel)
theorem w_c66 : w66_.before args0 about1 = true := code_word (m := ⟨20, 2⟩) (meth := k20m2) (c := k20c2) (by decide +kernel) rfl rfl rfl (by decide +kernel)
theorem w_c67 : w67_.before args0 about1 = true := code_word (m := ⟨20, 3⟩) (meth := k20m3) (c := k20c3) (by decide +kernel) rfl rfl rfl (by decide +kernel)
theorem w_c68 : w68_.before args0 about1 = true := code_word (m := ⟨17, 4⟩) (meth := k17m4) (c := k17c4) (by decide +kernel) rfl rfl rfl (by decide +kernel)
theorem w_c69 : w69_.before args0 about1 = true := code_word (m := ⟨32, 1⟩) (meth := k32m1) (c := k32c1) (by decide +kernel) rfl rfl rfl (by decide +kernel)
theorem w_c70 : w70_.before args0 about1 = true := code_word (m := ⟨32, 2⟩) (meth := k32m2) (c := k32c2) (by decide +kernel) rfl rfl rfl (by decide +kernel)
theorem w_c71 : w71_.before args0 about1 = true := code_word (m := ⟨13, 3⟩) (meth := k13m3) (c := k13c3) (by decide +kernel) rfl rfl rfl (by decide +kernel)
theorem w_c72 : w72_.before args0 about1 = true := code_word (m := ⟨24, 1⟩) (meth := k24m1) (c := k24c1) (by decide +kernel) rfl rfl rfl (by decide +kernel)
theorem w_c73 : w73_.before args0 about1 = true := code_word (m := ⟨23, 0⟩) (meth := k23m0) (c := k23c0) (by decide +kernel) rfl rfl rfl (by decide +kernel)
theorem w_c74 : w74_.before args0 about1 = true := code_word (m := ⟨22, 0⟩) (meth := k22m0) (c := k22c0) (by decide +kernel) rfl rfl rfl (by decide +kernel)
theorem w_c75 : w75_.before args0 about1 = true := code_word (m := ⟨38, 1⟩) (meth := k38m1) (c := k38c1) (by decide +kernel) rfl rfl rfl (by decide +kernel)
theorem w_c76 : w76_.before args0 about1 = true := code_word (m := ⟨24, 2⟩) (meth := k24m2) (c := k24c2) (by decide +kernel) rfl rfl rfl (by decide +kernel)
theorem w_c77 : w77_.before args0 about1 = true := code_word (m := ⟨28, 3⟩) (meth := k28m3) (c := k28c3) (by decide +kernel) rfl rfl rfl (by decide +kernel)
theorem w_c78 : w78_.before args0 about1 = true := code_word (m := ⟨27, 5⟩) (meth := k27m5) (c := k27c5) (by decide +kernel) rfl rfl rfl (by decide +kernel)
theorem w_c79 : w79_.before args0 about1 = true := code_word (m := ⟨34, 2⟩) (meth := k34m2) (c := k34c2) (by decide +kernel) rfl rfl rfl (by decide +kernel)
theorem w_c80 : w80_.before args0 about1 = true := code_word (m := ⟨24, 3⟩) (meth := k24m3) (c := k24c3) (by decide +kernel) rfl rfl rfl (by decide +kernel)
theorem w_c81 : w81_.before args0 about1 = true := code_word (m := ⟨7, 7⟩) (meth := k7m7) (c := k7c7) (by decide +kernel) rfl rfl rfl (by decide +kernel)
theorem w_c82 : w82_.before args0 about1 = true := code_word (m := ⟨21, 2⟩) (meth := k21m2) (c := k21c2) (by decide +kernel) rfl rfl rfl (by decide +kernel)
theorem w_c83 : w83_.before args0 about1 = true := code_word (m := ⟨25, 0⟩) (meth := k25m0) (c := k25c0) (by decide +kernel) rfl rfl rfl (by decide +kernel)
theorem w_c84 : w84_.before args0 about1 = true := code_word (m := ⟨25, 2⟩) (meth := k25m2) (c := k25c2) (by decide +kernel) rfl rfl rfl (by decide +kernel)
theorem w_c85 : w85_.before args0 about1 = true := code_word (m := ⟨24, 0⟩) (meth := k24m0) (c := k24c0) (by decide +kernel) rfl rfl rfl (by decide +kernel)
def codes1 : List Jvm.Cond := [Jvm.Cond.code x code maxLocals ret, w1_, w2_, w3_, w4_, w5_, w6_, w7_, w8_, w9_, w10_, w11_, w12_, w13_, w14_, w15_, w16_, w17_, w18_, w19_, w20_, w21_, w22_, w23_, w24_, w25_, w26_, w27_, w28_, w29_, w30_, w31_, w32_, w33_, w34_, w35_, w36_, w37_, w38_, w39_, w40_, w41_, w42_, w43_, w44_, w45_, w46_, w47_, w48_, w49_, w50_, w51_, w52_, w53_, w54_, w55_, w56_, w57_, w58_, w59_, w60_, w61_, w62_, w63_, w64_, w65_, w66_, w67_, w68_, w69_, w70_, w71_, w72_, w73_, w74_, w75_, w76_, w77_, w78_, w79_, w80_, w81_, w82_, w83_, w84_, w85_]
theorem codes_eq : words1.filter isCode = codes1 := rfl
theorem w_codes : ∀ c ∈ words1.filter isCode, c.before args0 about1 = true := by
  rw [codes_eq]
  intro c hc
  simp only [codes1, List.mem_cons, List.not_mem_nil, or_false] at hc
  rcases hc with rfl | rfl | rfl | rfl | rfl | rfl | rfl | rfl | rfl | rfl | rfl | rfl | rfl | rfl | rfl | rfl | rfl | rfl | rfl | rfl | rfl | rfl | rfl | rfl | rfl | rfl | rfl | rfl | rfl | rfl | rfl | rfl | rfl | rfl | rfl | rfl | rfl | rfl | rfl | rfl | rfl | rfl | rfl | rfl | rfl | rfl | rfl | rfl | rfl | rfl | rfl | rfl | rfl | rfl | rfl | rfl | rfl | rfl | rfl | rfl | rfl | rfl | rfl | rfl | rfl | rfl | rfl | rfl | rfl | rfl | rfl | rfl | rfl | rfl | rfl | rfl | rfl | rfl | rfl | rfl | rfl | rfl | rfl | rfl | rfl | rfl
  · exact w_c0
  · exact w_c1
  · exact w_c2
  · exact w_c3
  · exact w_c4
  · exact w_c5
  · exact w_c6
  · exact w_c7
  · exact w_c8
  · exact w_c9
  · exact w_c10
  · exact w_c11
  · exact w_c12
  · exact w_c13
  · exact w_c14
  · exact w_c15
  · exact w_c16
  · exact w_c17
  · exact w_c18
  · exact w_c19
  · exact w_c20
  · exact w_c21
  · exact w_c22
  · exact w_c23
  · exact w_c24
  · exact w_c25
  · exact w_c26
  · exact w_c27
  · exact w_c28
  · exact w_c29
  · exact w_c30
  · exact w_c31
  · exact w_c32
  · exact w_c33
  · exact w_c34
  · exact w_c35
  · exact w_c36
  · exact w_c37
  · exact w_c38
  · exact w_c39
  · exact w_c40
  · exact w_c41
  · exact w_c42
  · exact w_c43
  · exact w_c44
  · exact w_c45
  · exact w_c46
  · exact w_c47
  · exact w_c48
  · exact w_c49
  · exact w_c50
  · exact w_c51
  · exact w_c52
  · exact w_c53
  · exact w_c54
  · exact w_c55
  · exact w_c56
  · exact w_c57
  · exact w_c58
  · exact w_c59
  · exact w_c60
  · exact w_c61
  · exact w_c62
  · exact w_c63
  · exact w_c64
  · exact w_c65
  · exact w_c66
  · exact w_c67
  · exact w_c68
  · exact w_c69
  · exact w_c70
  · exact w_c71
  · exact w_c72
  · exact w_c73
  · exact w_c74
  · exact w_c75
  · exact w_c76
  · exact w_c77
  · exact w_c78
  · exact w_c79
  · exact w_c80
  · exact w_c81
  · exact w_c82
  · exact w_c83
  · exact w_c84
  · exact w_c85
theorem w_t1 : (words1.take 24).all (fun c => isCode c || c.before args0 about1) = true := by decide +kernel
theorem w_t2 : ((words1.drop 24).take 24).all (fun c => isCode c || c.before args0 about1) = true := by decide +kernel
theorem w_t3 : (((words1.drop 24).drop 24).take 24).all (fun c => isCode c || c.before args0 about1) = true := by decide +kernel
theorem w_t4 : ((((words1.drop 24).drop 24).drop 24).take 24).all (fun c => isCode c || c.before args0 about1) = true := by decide +kernel
theorem w_t5 : (((((words1.drop 24).drop 24).drop 24).drop 24).take 24).all (fun c => isCode c || c.before args0 about1) = true := by decide +kernel
theorem w_t6 : ((((((words1.drop 24).drop 24).drop 24).drop 24).drop 24).take 24).all (fun c => isCode c || c.before args0 about1) = true := by decide +kernel
theorem w_t7 : (((((((words1.drop 24).drop 24).drop 24).drop 24).drop 24).drop 24).take 24).all (fun c => isCode c || c.before args0 about1) = true := by decide +kernel
theorem w_t8 : ((((((((words1.drop 24).drop 24).drop 24).drop 24).drop 24).drop 24).drop 24).take 24).all (fun c => isCode c || c.before args0 about1) = true := by decide +kernel
theorem w_t9 : (((((((((words1.drop 24).drop 24).drop 24).drop 24).drop 24).drop 24).drop 24).drop 24).take 24).all (fun c => isCode c || c.before args0 about1) = true := by decide +kernel
theorem w_t10 : ((((((((((words1.drop 24).drop 24).drop 24).drop 24).drop 24).drop 24).drop 24).drop 24).drop 24).take 24).all (fun c => isCode c || c.before args0 about1) = true := by decide +kernel
theorem w_t11 : (((((((((((words1.drop 24).drop 24).drop 24).drop 24).drop 24).drop 24).drop 24).drop 24).drop 24).drop 24).take 24).all (fun c => isCode c || c.before args0 about1) = true := by decide +kernel
theorem w_t12 : ((((((((((((words1.drop 24).drop 24).drop 24).drop 24).drop 24).drop 24).drop 24).drop 24).drop 24).drop 24).drop 24).take 24).all (fun c => isCode c || c.before args0 about1) = true := by decide +kernel
theorem w_t13 : (((((((((((((words1.drop 24).drop 24).drop 24).drop 24).drop 24).drop 24).drop 24).drop 24).drop 24).drop 24).drop 24).drop 24).take 24).all (fun c => isCode c || c.before args0 about1) = true := by decide +kernel
theorem w_t14 : ((((((((((((((words1.drop 24).drop 24).drop 24).drop 24).drop 24).drop 24).drop 24).drop 24).drop 24).drop 24).drop 24).drop 24).drop 24).take 24).all (fun c => isCode c || c.before args0 about1) = true := by decide +kernel
theorem w_t15 : (((((((((((((((words1.drop 24).drop 24).drop 24).drop 24).drop 24).drop 24).drop 24).drop 24).drop 24).drop 24).drop 24).drop 24).drop 24).drop 24).take 24).all (fun c => isCode c || c.before args0 about1) = true := by decide +kernel
theorem w_t16 : ((((((((((((((((words1.drop 24).drop 24).drop 24).drop 24).drop 24).drop 24).drop 24).drop 24).drop 24).drop 24).drop 24).drop 24).drop 24).drop 24).drop 24).take 24).all (fun c => isCode c || c.before args0 about1) = true := by decide +kernel
theorem w_t17 : (((((((((((((((((words1.drop 24).drop 24).drop 24).drop 24).drop 24).drop 24).drop 24).drop 24).drop 24).drop 24).drop 24).drop 24).drop 24).drop 24).drop 24).drop 24).take 24).all (fun c => isCode c || c.before args0 about1) = true := by decide +kernel
theorem w_t18 : ((((((((((((((((((words1.drop 24).drop 24).drop 24).drop 24).drop 24).drop 24).drop 24).drop 24).drop 24).drop 24).drop 24).drop 24).drop 24).drop 24).drop 24).drop 24).drop 24).take 24).all (fun c => isCode c || c.before args0 about1) = true := by decide +kernel
theorem w_t19 : (((((((((((((((((((words1.drop 24).drop 24).drop 24).drop 24).drop 24).drop 24).drop 24).drop 24).drop 24).drop 24).drop 24).drop 24).drop 24).drop 24).drop 24).drop 24).drop 24).drop 24).take 24).all (fun c => isCode c || c.before args0 about1) = true := by decide +kernel
theorem w_t20 : ((((((((((((((((((((words1.drop 24).drop 24).drop 24).drop 24).drop 24).drop 24).drop 24).drop 24).drop 24).drop 24).drop 24).drop 24).drop 24).drop 24).drop 24).drop 24).drop 24).drop 24).drop 24).take 24).all (fun c => isCode c || c.before args0 about1) = true := by decide +kernel
theorem w_t21 : (((((((((((((((((((((words1.drop 24).drop 24).drop 24).drop 24).drop 24).drop 24).drop 24).drop 24).drop 24).drop 24).drop 24).drop 24).drop 24).drop 24).drop 24).drop 24).drop 24).drop 24).drop 24).drop 24).take 24).all (fun c => isCode c || c.before args0 about1) = true := by decide +kernel
theorem w_t22 : ((((((((((((((((((((((words1.drop 24).drop 24).drop 24).drop 24).drop 24).drop 24).drop 24).drop 24).drop 24).drop 24).drop 24).drop 24).drop 24).drop 24).drop 24).drop 24).drop 24).drop 24).drop 24).drop 24).drop 24).take 24).all (fun c => isCode c || c.before args0 about1) = true := by decide +kernel
theorem w_t23 : ((((((((((((((((((((((words1.drop 24).drop 24).drop 24).drop 24).drop 24).drop 24).drop 24).drop 24).drop 24).drop 24).drop 24).drop 24).drop 24).drop 24).drop 24).drop 24).drop 24).drop 24).drop 24).drop 24).drop 24).drop 24).all (fun c => isCode c || c.before args0 about1) = true := by decide +kernel
theorem w_tables : (allAtoms (Jvm.Cond.code x code maxLocals ret :: tables_1)).before args0 about1 = true := by
  rw [allAtoms_all]
  show words1.all (fun c => c.before args0 about1) = true
  refine all_split ?_ w_codes
  rw [← List.take_append_drop 24 words1, List.all_append, w_t1, ← List.take_append_drop 24 (words1.drop 24), List.all_append, w_t2, ← List.take_append_drop 24 ((words1.drop 24).drop 24), List.all_append, w_t3, ← List.take_append_drop 24 (((words1.drop 24).drop 24).drop 24), List.all_append, w_t4, ← List.take_append_drop 24 ((((words1.drop 24).drop 24).drop 24).drop 24), List.all_append, w_t5, ← List.take_append_drop 24 (((((words1.drop 24).drop 24).drop 24).drop 24).drop 24), List.all_append, w_t6, ← List.take_append_drop 24 ((((((words1.drop 24).drop 24).drop 24).drop 24).drop 24).drop 24), List.all_append, w_t7, ← List.take_append_drop 24 (((((((words1.drop 24).drop 24).drop 24).drop 24).drop 24).drop 24).drop 24), List.all_append, w_t8, ← List.take_append_drop 24 ((((((((words1.drop 24).drop 24).drop 24).drop 24).drop 24).drop 24).drop 24).drop 24), List.all_append, w_t9, ← List.take_append_drop 24 (((((((((words1.drop 24).drop 24).drop 24).drop 24).drop 24).drop 24).drop 24).drop 24).drop 24), List.all_append, w_t10, ← List.take_append_drop 24 ((((((((((words1.drop 24).drop 24).drop 24).drop 24).drop 24).drop 24).drop 24).drop 24).drop 24).drop 24), List.all_append, w_t11, ← List.take_append_drop 24 (((((((((((words1.drop 24).drop 24).drop 24).drop 24).drop 24).drop 24).drop 24).drop 24).drop 24).drop 24).drop 24), List.all_append, w_t12, ← List.take_append_drop 24 ((((((((((((words1.drop 24).drop 24).drop 24).drop 24).drop 24).drop 24).drop 24).drop 24).drop 24).drop 24).drop 24).drop 24), List.all_append, w_t13, ← List.take_append_drop 24 (((((((((((((words1.drop 24).drop 24).drop 24).drop 24).drop 24).drop 24).drop 24).drop 24).drop 24).drop 24).drop 24).drop 24).drop 24), List.all_append, w_t14, ← List.take_append_drop 24 ((((((((((((((words1.drop 24).drop 24).drop 24).drop 24).drop 24).drop 24).drop 24).drop 24).drop 24).drop 24).drop 24).drop 24).drop 24).drop 24), List.all_append, w_t15, ← List.take_append_drop 24 (((((((((((((((words1.drop 24).drop 24).drop 24).drop 24).drop 24).drop 24).drop 24).drop 24).drop 24).drop 24).drop 24).drop 24).drop 24).drop 24).drop 24), List.all_append, w_t16, ← List.take_append_drop 24 ((((((((((((((((words1.drop 24).drop 24).drop 24).drop 24).drop 24).drop 24).drop 24).drop 24).drop 24).drop 24).drop 24).drop 24).drop 24).drop 24).drop 24).drop 24), List.all_append, w_t17, ← List.take_append_drop 24 (((((((((((((((((words1.drop 24).drop 24).drop 24).drop 24).drop 24).drop 24).drop 24).drop 24).drop 24).drop 24).drop 24).drop 24).drop 24).drop 24).drop 24).drop 24).drop 24), List.all_append, w_t18, ← List.take_append_drop 24 ((((((((((((((((((words1.drop 24).drop 24).drop 24).drop 24).drop 24).drop 24).drop 24).drop 24).drop 24).drop 24).drop 24).drop 24).drop 24).drop 24).drop 24).drop 24).drop 24).drop 24), List.all_append, w_t19, ← List.take_append_drop 24 (((((((((((((((((((words1.drop 24).drop 24).drop 24).drop 24).drop 24).drop 24).drop 24).drop 24).drop 24).drop 24).drop 24).drop 24).drop 24).drop 24).drop 24).drop 24).drop 24).drop 24).drop 24), List.all_append, w_t20, ← List.take_append_drop 24 ((((((((((((((((((((words1.drop 24).drop 24).drop 24).drop 24).drop 24).drop 24).drop 24).drop 24).drop 24).drop 24).drop 24).drop 24).drop 24).drop 24).drop 24).drop 24).drop 24).drop 24).drop 24).drop 24), List.all_append, w_t21, ← List.take_append_drop 24 (((((((((((((((((((((words1.drop 24).drop 24).drop 24).drop 24).drop 24).drop 24).drop 24).drop 24).drop 24).drop 24).drop 24).drop 24).drop 24).drop 24).drop 24).drop 24).drop 24).drop 24).drop 24).drop 24).drop 24), List.all_append, w_t22, w_t23]
  rfl
theorem w_rest : rest_1_c.before args0 about1 = true := by decide +kernel
theorem w_case : (Jvm.Cond.and given_1 narrow_1).before args0 about1 = true := by decide +kernel
theorem w_consts : constsHeld consts_1 about1 := Jvm.Lit.constsHeldB_iff.mp (by decide +kernel)
theorem w_applies : (headSpec (Jvm.Cond.code x code maxLocals ret :: tables_1) room_1).applies x e0.platform about1 = true :=
  (Spec.applies_iff w_frames).mpr ⟨w_running, w_runnable, w_alone, w_named, w_hears, w_ripe, w_room, w_tables⟩
theorem atStart : AtStart classFile x code maxLocals ret World_1 tables_1 room_1 Calls_1 rest_1 Pre_1 launch0 p0 e0 about1 theMethod args0 below0 :=
  ⟨lists_1, trivial, launch0.admits_env _ _ _, launch0.least_env, fairChoices_fair.cas, fairChoices_fair.clock, w_frames, w_args, w_heap, w_applies, ⟨⟨47, k47, 5, by decide +kernel, rfl, rfl, _, rfl, rfl⟩, ⟨w_consts, trivial⟩⟩, w_rest, w_case⟩
end start1
theorem witness_1 : WitnessClaimed_1 := ⟨start1.p0, start1.e0, start1.about1, start1.theMethod, start1.args0, start1.below0, start1.atStart⟩
end Jvm.Pilot.@@N@@
