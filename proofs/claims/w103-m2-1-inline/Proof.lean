import JvmDerived
import JvmDerived.Pilot.@@N@@Statement
import JvmDerived.Pilot.@@N@@Code
set_option linter.unusedVariables false
set_option linter.unusedSimpArgs false
namespace Jvm.OwnKit
open Jvm Jvm.ClassFile Sem Op Lib Jvm.Free Jvm.Stand Jvm.LawKit Jvm.RoadKit Bundle
/-- what is known of the body at hand -/
def Me (p : Program) (meth : Method) (c : Code) (nm : String) (bytes : ByteArray) (maxL : Nat) (ret : Option FieldType) : Prop :=
  p.tables.exec = Jvm.exec ∧ c.code = bytes ∧ c.maxLocals = maxL ∧ meth.sig.returnType = ret ∧ meth.locks = false ∧ meth.name = nm
/-- the walk stands at T, whose heap is h; ss: addresses that are no booked constant's -/
def Wk (p : Program) (l : Launch) (e : Env) (R : Room) (s : State) (m : MethodId) (args : Array Value) (below : List Frame) (meth : Method) (c : Code)
    (Z : State) (EL : List (String × Nat)) (kn : Bool) (own : String) (T : State) (h : Heap) (ss : List Addr) (cells slots : Nat) : Prop :=
  ∃ (vm0 : Vm) (locs : List Loc) (k0 : Nat), Stand p l e R (s.setVm vm0) m args below meth c T locs cells slots ∧ T.heap = h ∧ Z.Warmed39 vm0 ∧ s.Since vm0 k0 ∧ k0 ≤ h.size ∧
    vm0.findClass own = some m.cls ∧ Fr Z.heap.size locs ∧ Old Z Z.heap.size h ∧ CHr Z EL s.vm s.heap vm0 h ∧ (∀ x ∈ ss, x < h.size ∧ Safe Z EL vm0 h x) ∧ (kn = true → vm0.MethodsKnown ∧ vm0.FramesKnown below)
/-- what may be written at U -/
def SF (Z : State) (EL : List (String × Nat)) (U : State) : Addr → Prop := fun x => x < U.heap.size ∧ Safe Z EL U.vm U.heap x
/-- from T at g the body comes to its end, with P of what it returns and of the heap -/
def Fi (p : Program) (e : Env) (below : List Frame) (s Z : State) (EL : List (String × Nat)) (kc ks : Nat) (P : Option Value → Heap → (Addr → Prop) → Prop) (T : State) (g : JFrame) : Prop :=
  ∃ (s₂ : State) (v : Option Value) (L : List Loc), Steps p.tables e below (T.setTop g) s₂ ∧ s₂.status = .running ∧ Ended s₂ below (.returned v) ∧ P v s₂.heap (SF Z EL s₂) ∧ Fr Z.heap.size L ∧
    Old Z Z.heap.size s₂.heap ∧ CHr Z EL s.vm s.heap s₂.vm s₂.heap ∧ ReturnedEndW s (.returned v) s₂ L kc ks
/-- a method's contract at given arguments and heap -/
def Con (l : Launch) (Z : State) (EL : List (String × Nat)) (kn : Bool) (ws : List Cond) (y : MethodName) (bytes : ByteArray) (maxL : Nat) (ret : Option FieldType) (rm : Room) (as' : Array Value) (h0 : Heap) (ss : List Addr)
    (P : Option Value → Heap → (Addr → Prop) → Prop) : Prop :=
  MetFree l y (head1 (Cond.code y bytes maxL ret :: ws) rm) (fun a U => a = as' ∧ Z.Warmed39 U.vm ∧ U.heap = h0 ∧ CHv Z EL U.vm h0 ∧ (∀ x ∈ ss, x < h0.size ∧ Safe Z EL U.vm h0 x))
    (fun _ _ bl U _ => kn = true → U.vm.MethodsKnown ∧ U.vm.FramesKnown bl)
    (fun _ U o U' => ∃ v L, o = .returned v ∧ (P v U'.heap (SF Z EL U') ∧ Fr Z.heap.size L ∧ Old Z Z.heap.size U'.heap) ∧ CHr Z EL U.vm U.heap U'.vm U'.heap ∧ ReturnedEndW U o U' L rm.cells rm.slots)
def rV (P : Value → Heap → Prop) : Option Value → Heap → (Addr → Prop) → Prop := fun v h _ => ∃ w, v = some w ∧ P w h
def rU (P : Heap → Prop) : Option Value → Heap → (Addr → Prop) → Prop := fun v h _ => v = none ∧ P h
/-- the same, with what may be written behind it -/
def rVs (P : Value → Heap → (Addr → Prop) → Prop) : Option Value → Heap → (Addr → Prop) → Prop := fun v h sf => ∃ w, v = some w ∧ P w h sf
def rUs (P : Heap → (Addr → Prop) → Prop) : Option Value → Heap → (Addr → Prop) → Prop := fun v h sf => v = none ∧ P h sf
/-- an address that may be written -/
def Sf (Z : State) (h : Heap) (ss : List Addr) (a : Addr) : Prop :=
  a ∈ ss ∨ (∃ C, Exa Z h a C ∧ C ≠ "java/lang/String" ∧ C ≠ "[B") ∨ (∃ cl ty, Arr Z h a cl ty ∧ ty ≠ .byte)
section Kit
variable {p : Program} {l : Launch} {e : Env} {R : Room} {s : State} {m : MethodId} {args : Array Value} {below : List Frame} {meth : Method} {c : Code} {Z : State} {a0 : Array Value} {EL : List (String × Nat)} {kn : Bool} {own : String}
  {T : State} {h h' h2 : Heap} {ss : List Addr} {cells slots : Nat} {nm : String} {bytes : ByteArray} {maxL : Nat} {ret : Option FieldType} {kc ks : Nat} {P : Option Value → Heap → (Addr → Prop) → Prop} {pc : Nat} {Ls : Array Slot} {st : List Value}
theorem Me.x (me : Me p meth c nm bytes maxL ret) : p.tables.exec = Jvm.exec := me.1
theorem Me.b (me : Me p meth c nm bytes maxL ret) : c.code = bytes := me.2.1
theorem Me.ml (me : Me p meth c nm bytes maxL ret) : c.maxLocals = maxL := me.2.2.1
theorem Me.r (me : Me p meth c nm bytes maxL ret) : meth.sig.returnType = ret := me.2.2.2.1
theorem Me.k (me : Me p meth c nm bytes maxL ret) : meth.locks = false := me.2.2.2.2.1
theorem Me.n (me : Me p meth c nm bytes maxL ret) : meth.name = nm := me.2.2.2.2.2
theorem Fi.step {T' : State} {g g' : JFrame} (k : ∀ t, Steps p.tables e below (T'.setTop g') t → Steps p.tables e below (T.setTop g) t) (F : Fi p e below s Z EL kc ks P T' g') : Fi p e below s Z EL kc ks P T g := by
  obtain ⟨s₂, v, L, h1, r⟩ := F
  exact ⟨s₂, v, L, k _ h1, r⟩
theorem Fi.mono {P' : Option Value → Heap → (Addr → Prop) → Prop} {g : JFrame} (F : Fi p e below s Z EL kc ks P T g) (q : ∀ v h sf, P v h sf → P' v h sf) : Fi p e below s Z EL kc ks P' T g := by
  obtain ⟨s₂, v, L, h1, h2, h3, h4, r⟩ := F
  exact ⟨s₂, v, L, h1, h2, h3, q _ _ _ h4, r⟩
theorem Wk.heap (W : Wk p l e R s m args below meth c Z EL kn own T h ss cells slots) : T.heap = h := by obtain ⟨_, _, _, -, e, -⟩ := W; exact e
theorem Wk.here (W : Wk p l e R s m args below meth c Z EL kn own T h ss cells slots) : At T m c below := by obtain ⟨_, _, _, X, -⟩ := W; exact X.here
theorem Wk.old (W : Wk p l e R s m args below meth c Z EL kn own T h ss cells slots) : Old Z Z.heap.size h := by obtain ⟨_, _, _, -, -, -, -, -, -, -, O, -⟩ := W; exact O
theorem Wk.more {cells' slots' : Nat} (W : Wk p l e R s m args below meth c Z EL kn own T h ss cells slots) (hc : cells ≤ cells') (hs : slots ≤ slots') : Wk p l e R s m args below meth c Z EL kn own T h ss cells' slots' := by
  obtain ⟨vm0, locs, k0, X, r⟩ := W; exact ⟨vm0, locs, k0, X.more hc hs, r⟩
theorem Wk.less {ss' : List Addr} (W : Wk p l e R s m args below meth c Z EL kn own T h ss cells slots) (q : ∀ x ∈ ss', x ∈ ss) : Wk p l e R s m args below meth c Z EL kn own T h ss' cells slots := by
  obtain ⟨vm0, locs, k0, h1, h2, h3, h4, h5, h6, h7, h8, h9, h10, h11⟩ := W; exact ⟨vm0, locs, k0, h1, h2, h3, h4, h5, h6, h7, h8, h9, fun x hx => h10 x (q x hx), h11⟩
theorem ReturnedEndW.mono {s t : State} {o : Outcome} {L : List Loc} {k n k' n' : Nat} (q : ReturnedEndW s o t L k n) (hk : k ≤ k') (hn : n ≤ n') : ReturnedEndW s o t L k' n' := ⟨q.1, q.2.1, q.2.2.1, q.2.2.2.mono hk hn⟩
theorem Wk.leave (W : Wk p l e R s m args below meth c Z EL kn own T h ss cells slots) (hEL : EW Z a0 EL) (me : Me p meth c nm bytes maxL ret) (hc : cells ≤ kc) (hs : slots ≤ ks) {v : Option Value} (hv : ret = none → v = none) {g : JFrame}
    (hst : ∀ {vm0 : Vm} {locs : List Loc} (X : Stand p l e R (s.setVm vm0) m args below meth c T locs cells slots) {fs : List Frame}, (∀ (f : JFrame) (acts : List Action), f.method = m → f.locked = none → f.entered = [] → (doReturn e (T.setTop f) acts v).1 = T.setFrames fs) → Steps p.tables e below (T.setTop g) (T.setFrames fs))
    (hP : ∀ sf : Addr → Prop, (∀ x ∈ ss, sf x) → P v h sf) : Fi p e below s Z EL kc ks P T g := by
  obtain ⟨vm0, locs, k0, X, eT, hZ, hS, hk, hown, N, O, C, hss, -⟩ := W
  have hk' := me.k
  obtain ⟨fs, hr, hrun, hend, hR⟩ := X.leaveW hS (by rw [eT]; exact hk) (v := v) (fun q => hv (me.r ▸ q)) hk'
  subst eT
  have C1 := CHv.at X hZ hEL C.1
  exact ⟨T.setFrames fs, v, locs, hst X hr, hrun, hend, hP _ (fun x hx => ⟨(hss x hx).1, C1.safe (hss x hx).1 (hss x hx).2⟩), N, O, C.trans C1, ReturnedEndW.mono hR hc hs⟩
theorem Wk.retU (W : Wk p l e R s m args below meth c Z EL kn own T h ss cells slots) (hEL : EW Z a0 EL) (me : Me p meth c nm bytes maxL none) (hd : decode bytes pc = .ok (.return_, 1)) {P : Heap → Prop} (hP : P h) (hc : cells ≤ kc) (hs : slots ≤ ks) :
    Fi p e below s Z EL kc ks (rU P) T (mkF m pc Ls []) :=
  W.leave hEL me hc hs (v := none) (fun _ => rfl) (fun X _ hr => X.returnOut me.x me.r (hb me.b hd) hr) (fun _ _ => ⟨rfl, hP⟩)
theorem Wk.retV {t : FieldType} {w : Value} {i : Instr} (W : Wk p l e R s m args below meth c Z EL kn own T h ss cells slots) (hEL : EW Z a0 EL) (me : Me p meth c nm bytes maxL (some t)) (hd : decode bytes pc = .ok (i, 1)) {P : Value → Heap → Prop} (hP : P w h) (hc : cells ≤ kc) (hs : slots ≤ ks) (hn : narrow t w = w)
    (hi : (i = .ireturn ∧ (t = .int ∨ t = .boolean ∨ t = .byte ∨ t = .char ∨ t = .short) ∧ ∃ z, w = .int z) ∨ (i = .lreturn ∧ t = .long ∧ ∃ z, w = .long z) ∨ (i = .dreturn ∧ t = .double ∧ ∃ z, w = .double z) ∨ (i = .freturn ∧ t = .float ∧ ∃ z, w = .float z) ∨ (i = .areturn ∧ t.isReference = true ∧ w.isRef = true)) :
    Fi p e below s Z EL kc ks (rV P) T (mkF m pc Ls (w :: st)) :=
  W.leave hEL me hc hs (v := some w) (fun q => nomatch q) (fun X _ hr => retOut X me.x me.r hn hi (hb me.b hd) hr) (fun _ _ => ⟨w, rfl, hP⟩)
theorem Wk.retI {z : Int32} (W : Wk p l e R s m args below meth c Z EL kn own T h ss cells slots) (hEL : EW Z a0 EL) (me : Me p meth c nm bytes maxL (some .int)) (hd : decode bytes pc = .ok (.ireturn, 1)) {P : Value → Heap → Prop} (hP : P (.int z) h) (hc : cells ≤ kc) (hs : slots ≤ ks) :
    Fi p e below s Z EL kc ks (rV P) T (mkF m pc Ls (.int z :: st)) := W.retV hEL me hd hP hc hs rfl (Or.inl ⟨rfl, Or.inl rfl, z, rfl⟩)
theorem Wk.retA {w : Value} {t : FieldType} (W : Wk p l e R s m args below meth c Z EL kn own T h ss cells slots) (hEL : EW Z a0 EL) (me : Me p meth c nm bytes maxL (some t)) (hd : decode bytes pc = .ok (.areturn, 1)) {P : Value → Heap → Prop} (hP : P w h) (hc : cells ≤ kc) (hs : slots ≤ ks) (hw : w.isRef = true) (ht : t.isReference = true) (hn : narrow t w = w) :
    Fi p e below s Z EL kc ks (rV P) T (mkF m pc Ls (w :: st)) := W.retV hEL me hd hP hc hs hn (Or.inr (Or.inr (Or.inr (Or.inr ⟨rfl, ht, hw⟩))))
/-- a small int returned: boolean, byte, char, short, as 'nar' keeps it -/
theorem Wk.retN {z : Int32} {t : FieldType} (W : Wk p l e R s m args below meth c Z EL kn own T h ss cells slots) (hEL : EW Z a0 EL) (me : Me p meth c nm bytes maxL (some t)) (ht : t = .boolean ∨ t = .byte ∨ t = .char ∨ t = .short) (hd : decode bytes pc = .ok (.ireturn, 1)) {P : Value → Heap → Prop} (hP : P (.int (nar t z)) h) (hc : cells ≤ kc) (hs : slots ≤ ks) :
    Fi p e below s Z EL kc ks (rV P) T (mkF m pc Ls (.int z :: st)) :=
  W.leave hEL me hc hs (v := some (.int (nar t z))) (fun q => nomatch q) (fun X _ hr => Jvm.RoadKit.retN X me.x me.r ht (hb me.b hd) hr) (fun _ _ => ⟨_, rfl, hP⟩)
theorem Wk.retUs (W : Wk p l e R s m args below meth c Z EL kn own T h ss cells slots) (hEL : EW Z a0 EL) (me : Me p meth c nm bytes maxL none) (hd : decode bytes pc = .ok (.return_, 1)) {P : Heap → (Addr → Prop) → Prop} (hP : ∀ sf : Addr → Prop, (∀ x ∈ ss, sf x) → P h sf) (hc : cells ≤ kc) (hs : slots ≤ ks) :
    Fi p e below s Z EL kc ks (rUs P) T (mkF m pc Ls []) :=
  W.leave hEL me hc hs (v := none) (fun _ => rfl) (fun X _ hr => X.returnOut me.x me.r (hb me.b hd) hr) (fun sf q => ⟨rfl, hP sf q⟩)
theorem Wk.retAs {w : Value} {t : FieldType} (W : Wk p l e R s m args below meth c Z EL kn own T h ss cells slots) (hEL : EW Z a0 EL) (me : Me p meth c nm bytes maxL (some t)) (hd : decode bytes pc = .ok (.areturn, 1)) {P : Value → Heap → (Addr → Prop) → Prop} (hP : ∀ sf : Addr → Prop, (∀ x ∈ ss, sf x) → P w h sf) (hc : cells ≤ kc) (hs : slots ≤ ks) (hw : w.isRef = true) (ht : t.isReference = true) (hn : narrow t w = w) :
    Fi p e below s Z EL kc ks (rVs P) T (mkF m pc Ls (w :: st)) :=
  W.leave hEL me hc hs (v := some w) (fun q => nomatch q) (fun X _ hr => retOut X me.x me.r hn (Or.inr (Or.inr (Or.inr (Or.inr ⟨rfl, ht, hw⟩)))) (hb me.b hd) hr) (fun sf q => ⟨w, rfl, hP sf q⟩)
/-- the contract by its body -/
theorem Con.of {ws : List Cond} {y : MethodName} {rm : Room} {as' : Array Value} (hp : plainFor y = true) (hO : Old Z Z.heap.size h)
    (body : ∀ (p : Program) (e : Env) (s : State) (m : MethodId) (below : List Frame) (meth : Method) (c : Code) (T : State), Me p meth c y.name bytes maxL ret → Wk p l e rm s m as' below meth c Z EL kn y.cls T h ss 0 0 → Fi p e below s Z EL rm.cells rm.slots P T (entryFrame m as' maxL)) :
    Con l Z EL kn ws y bytes maxL ret rm as' h ss P := by
  refine MetFree.of_bodySF hp hisR ?_
  intro p e s m args below meth c s₁ Bd hml0 hP hK
  obtain ⟨rfl, hZ, hh, hC, hS⟩ := hP
  have X0 : Stand p l e rm s m args below meth c s₁ [] 0 0 := Stand.of_body Bd
  have e0 : s₁.heap = h := by rw [← hh, Bd.state]; rfl
  have hown : s.vm.findClass y.cls = some m.cls := findClass_of_methodNamed Bd.named
  have hnm := (name_of_methodNamed Bd.named Bd.method).1
  have W : Wk p l e rm s m args below meth c Z EL kn y.cls s₁ h ss 0 0 := ⟨s.vm, [], 0, X0, e0, hZ, (State.WarmedH.refl s).since 0, Nat.zero_le _, hown, Fr.nil _, hO, by rw [hh]; exact CHr.refl hC, hS, hK⟩
  obtain ⟨s₂, v, L, q1, q2, q3, q4, q5, q6, q7, q8⟩ := body p e s m below meth c s₁ ⟨Bd.exec, Bd.bytes, hml0, Bd.returns, Bd.notSynchronized, hnm⟩ W
  exact ⟨s₂, _, q1, q2, q3, v, L, rfl, ⟨q4, q5, q6⟩, q7, q8⟩
theorem Con.back {y : MethodName} {rm : Room} {as' : Array Value} {vm0 : Vm} {len Wt : Nat} (hM : Con l Z EL kn [] y bytes maxL ret rm as' h ss P) (hZ : Z.Warmed39 vm0) (wc : (Cond.code y bytes maxL ret).before a0 Z = true) (wz : (Cond.initialized y.cls).before a0 Z = true)
    (hf : rm.frames + 1 ≤ R.frames) (hl : Wt + (maxL + 11) + rm.locals ≤ R.locals) (hEL : EW Z a0 EL) (H : CHv Z EL vm0 h) (hS : ∀ x ∈ ss, x < h.size ∧ Safe Z EL vm0 h x) (hK : kn = true → vm0.MethodsKnown ∧ vm0.FramesKnown below) :
    BackS l R p e below (s.setVm vm0) args y len Wt (fun A a => a = as' ∧ A.U.heap = h ∧ A.cells + rm.cells ≤ R.cells ∧ A.slots + rm.slots ≤ R.slots)
      (fun A _ v B => ∃ L, (P v B.U.heap (SF Z EL B.U) ∧ Fr Z.heap.size L ∧ Old Z Z.heap.size B.U.heap) ∧ B.locs = A.locs ++ L ∧ B.cells = A.cells + rm.cells ∧ B.slots = A.slots + rm.slots ∧ CHr Z EL vm0 h B.U.vm B.U.heap) := by
  refine BackS.of_freeWG (bytes := bytes) (maxL := maxL) (ret := ret) (E := fun _ first o t L k n => k = rm.cells ∧ n = rm.slots ∧ (∃ v, o = .returned v ∧ P v t.heap (SF Z EL t) ∧ Fr Z.heap.size L ∧ Old Z Z.heap.size t.heap) ∧ CHr Z EL first.vm first.heap t.vm t.heap) hM hf hl ?_ ?_ ?_ ?_ ?_
  · intro m meth c A a Y hp
    have hU : Z.Warmed39 A.U.vm := wtrans (s := s.setVm vm0) hZ Y.warmed
    exact ⟨by show (Cond.and _ .tt).before a A.U = true; rw [Cond.before_and, mv hU wc]; rfl, mv hU wc, mv hU wz, hp.2.2.1, hp.2.2.2⟩
  · intro m meth c A a g mk Y hp
    have q := CHv.at Y hZ hEL H
    exact ⟨hp.1, wtrans (s := s.setVm vm0) hZ Y.warmed, hp.2.1, q.1, fun x hx => ⟨(hS x hx).1, q.safe (hS x hx).1 (hS x hx).2⟩⟩
  · intro m meth c A a g mk Y _ hg k
    exact known_frames Y hg (hK k).1 (hK k).2
  · rintro _ _ _ _ ⟨v, L, h1, h2, h3, h4⟩
    exact ⟨L, _, _, h4, rfl, rfl, ⟨v, h1, h2⟩, h3⟩
  · rintro m meth c A a g mk v t L k n Y hp _ _ ⟨e1, e2, ⟨v', e3, e4⟩, e5⟩
    cases e3; subst e1 e2
    refine ⟨L, e4, rfl, rfl, rfl, (CHv.at Y hZ hEL H).trans ?_⟩
    rw [← hp.2.1]; exact e5
/-- the walk behind a call that may intern -/
theorem Wk.behind {B : Pt} {vm0 : Vm} {locs L : List Loc} {k0 k n : Nat} (X : Stand p l e R ((s.setVm vm0).setVm B.U.vm) m args below meth c B.U B.locs B.cells B.slots) (hZ : Z.Warmed39 vm0) (hS : s.Since vm0 k0) (hk : k0 ≤ h.size) (hown : vm0.findClass own = some m.cls) (N : Fr Z.heap.size locs) (C : CHr Z EL s.vm s.heap vm0 h)
    (hss : ∀ x ∈ ss, x < h.size ∧ Safe Z EL vm0 h x) (hK : kn = true → vm0.MethodsKnown ∧ vm0.FramesKnown below) (hS2 : (s.setVm vm0).Since B.U.vm B.U.heap.size) (hg : h.size ≤ B.U.heap.size)
    (NL : Fr Z.heap.size L) (O : Old Z Z.heap.size B.U.heap) (e1 : B.locs = locs ++ L) (e2 : B.cells = cells + k) (e3 : B.slots = slots + n) (C2 : CHr Z EL vm0 h B.U.vm B.U.heap) :
    ∀ xs : List Addr, (∀ x ∈ xs, SF Z EL B.U x) → Wk p l e R s m args below meth c Z EL kn own B.U B.U.heap (xs ++ ss) (cells + k) (slots + n) := by
  intro xs hxs
  have hZ' : Z.Warmed39 B.U.vm := State.Warmed39.trans (t := s.setVm vm0) hZ hS2.1
  have hal : vm0.Alike B.U.vm := hS2.1.alike
  refine ⟨B.U.vm, B.locs, _, e3 ▸ e2 ▸ X, rfl, hZ', hS.trans hS2 (Nat.le_trans hk hg), Nat.le_refl _, by rw [hal.findClass]; exact hown, e1 ▸ N.app NL, O, C.trans C2, fun x hx => (List.mem_append.mp hx).elim (hxs x) (fun hx => ⟨Nat.lt_of_lt_of_le (hss x hx).1 hg, C2.safe (hss x hx).1 (hss x hx).2⟩), fun k => ?_⟩
  refine ⟨Vm.MethodsKnown.alikeC hal (hK k).1, ?_⟩
  exact Vm.FramesKnown.alikeC hal (hK k).2
end Kit
end Jvm.OwnKit
namespace Jvm.OwnKit
open Jvm Jvm.ClassFile Sem Op Lib Jvm.Free Jvm.Stand Jvm.LawKit Jvm.RoadKit Bundle
section Steps2
variable {p : Program} {l : Launch} {e : Env} {R : Room} {s : State} {m : MethodId} {args : Array Value} {below : List Frame} {meth : Method} {c : Code} {Z : State} {a0 : Array Value} {EL : List (String × Nat)} {kn : Bool} {own : String}
  {T : State} {h h' h2 : Heap} {ss : List Addr} {cells slots : Nat} {nm : String} {bytes : ByteArray} {maxL : Nat} {ret : Option FieldType} {kc ks : Nat} {P : Option Value → Heap → (Addr → Prop) → Prop} {pc : Nat} {Ls : Array Slot} {st : List Value}
theorem Wk.aloadN (W : Wk p l e R s m args below meth c Z EL kn own T h ss cells slots) (me : Me p meth c nm bytes maxL ret) {k : Fin 4} {v : Value} (hd : decode bytes pc = .ok (.aload_n k, 1)) (hl : Ls[k.val]? = some (.val v)) (hv : v.isRef = true) (F : Fi p e below s Z EL kc ks P T (mkF m (pc + 1) Ls (v :: st))) : Fi p e below s Z EL kc ks P T (mkF m pc Ls st) :=
  F.step fun _ => XS.aloadN W.here me.x rfl (hb me.b hd) hl hv
theorem Wk.aload (W : Wk p l e R s m args below meth c Z EL kn own T h ss cells slots) (me : Me p meth c nm bytes maxL ret) {k : Nat} {v : Value} (hd : decode bytes pc = .ok (.aload k, 2)) (hl : Ls[k]? = some (.val v)) (hv : v.isRef = true) (F : Fi p e below s Z EL kc ks P T (mkF m (pc + 2) Ls (v :: st))) : Fi p e below s Z EL kc ks P T (mkF m pc Ls st) :=
  F.step fun _ => XS.aload W.here me.x rfl (hb me.b hd) hl hv
theorem Wk.iloadN (W : Wk p l e R s m args below meth c Z EL kn own T h ss cells slots) (me : Me p meth c nm bytes maxL ret) {k : Fin 4} {v : Int32} (hd : decode bytes pc = .ok (.iload_n k, 1)) (hl : Ls[k.val]? = some (.val (.int v))) (F : Fi p e below s Z EL kc ks P T (mkF m (pc + 1) Ls (.int v :: st))) : Fi p e below s Z EL kc ks P T (mkF m pc Ls st) :=
  F.step fun _ => XS.iloadN W.here me.x rfl (hb me.b hd) hl
theorem Wk.iload (W : Wk p l e R s m args below meth c Z EL kn own T h ss cells slots) (me : Me p meth c nm bytes maxL ret) {k : Nat} {v : Int32} (hd : decode bytes pc = .ok (.iload k, 2)) (hl : Ls[k]? = some (.val (.int v))) (F : Fi p e below s Z EL kc ks P T (mkF m (pc + 2) Ls (.int v :: st))) : Fi p e below s Z EL kc ks P T (mkF m pc Ls st) :=
  F.step fun _ => XS.iload W.here me.x rfl (hb me.b hd) hl
theorem Wk.lloadN (W : Wk p l e R s m args below meth c Z EL kn own T h ss cells slots) (me : Me p meth c nm bytes maxL ret) {k : Fin 4} {v : Int64} (hd : decode bytes pc = .ok (.lload_n k, 1)) (hl : Ls[k.val]? = some (.val (.long v))) (F : Fi p e below s Z EL kc ks P T (mkF m (pc + 1) Ls (.long v :: st))) : Fi p e below s Z EL kc ks P T (mkF m pc Ls st) :=
  F.step fun _ => XT.lloadN W.here me.x rfl (hb me.b hd) hl
theorem Wk.lload (W : Wk p l e R s m args below meth c Z EL kn own T h ss cells slots) (me : Me p meth c nm bytes maxL ret) {k : Nat} {v : Int64} (hd : decode bytes pc = .ok (.lload k, 2)) (hl : Ls[k]? = some (.val (.long v))) (F : Fi p e below s Z EL kc ks P T (mkF m (pc + 2) Ls (.long v :: st))) : Fi p e below s Z EL kc ks P T (mkF m pc Ls st) :=
  F.step fun _ => XT.lload W.here me.x rfl (hb me.b hd) hl
theorem Wk.istoreN (W : Wk p l e R s m args below meth c Z EL kn own T h ss cells slots) (me : Me p meth c nm bytes maxL ret) {k : Fin 4} {x : Int32} {l' : Array Slot} (hd : decode bytes pc = .ok (.istore_n k, 1)) (hl : storeLocals Ls k.val (.int x) = some l') (F : Fi p e below s Z EL kc ks P T (mkF m (pc + 1) l' st)) : Fi p e below s Z EL kc ks P T (mkF m pc Ls (.int x :: st)) :=
  F.step fun _ => XS.istoreN W.here me.x rfl (hb me.b hd) rfl hl
theorem Wk.istore (W : Wk p l e R s m args below meth c Z EL kn own T h ss cells slots) (me : Me p meth c nm bytes maxL ret) {k : Nat} {x : Int32} {l' : Array Slot} (hd : decode bytes pc = .ok (.istore k, 2)) (hl : storeLocals Ls k (.int x) = some l') (F : Fi p e below s Z EL kc ks P T (mkF m (pc + 2) l' st)) : Fi p e below s Z EL kc ks P T (mkF m pc Ls (.int x :: st)) :=
  F.step fun _ => XS.istore W.here me.x rfl (hb me.b hd) rfl hl
theorem Wk.astoreN (W : Wk p l e R s m args below meth c Z EL kn own T h ss cells slots) (me : Me p meth c nm bytes maxL ret) {k : Fin 4} {x : Value} {l' : Array Slot} (hd : decode bytes pc = .ok (.astore_n k, 1)) (hv : x.isRef = true) (hl : storeLocals Ls k.val x = some l') (F : Fi p e below s Z EL kc ks P T (mkF m (pc + 1) l' st)) : Fi p e below s Z EL kc ks P T (mkF m pc Ls (x :: st)) :=
  F.step fun _ => XS.astoreN W.here me.x rfl (hb me.b hd) rfl hv hl
theorem Wk.astore (W : Wk p l e R s m args below meth c Z EL kn own T h ss cells slots) (me : Me p meth c nm bytes maxL ret) {k : Nat} {x : Value} {l' : Array Slot} (hd : decode bytes pc = .ok (.astore k, 2)) (hv : x.isRef = true) (hl : storeLocals Ls k x = some l') (F : Fi p e below s Z EL kc ks P T (mkF m (pc + 2) l' st)) : Fi p e below s Z EL kc ks P T (mkF m pc Ls (x :: st)) :=
  F.step fun _ => XS.astore W.here me.x rfl (hb me.b hd) rfl hv hl
theorem Wk.lstoreN (W : Wk p l e R s m args below meth c Z EL kn own T h ss cells slots) (me : Me p meth c nm bytes maxL ret) {k : Fin 4} {x : Int64} {l' : Array Slot} (hd : decode bytes pc = .ok (.lstore_n k, 1)) (hl : storeLocals Ls k.val (.long x) = some l') (F : Fi p e below s Z EL kc ks P T (mkF m (pc + 1) l' st)) : Fi p e below s Z EL kc ks P T (mkF m pc Ls (.long x :: st)) :=
  F.step fun _ => XT.lstoreN W.here me.x rfl (hb me.b hd) rfl hl
theorem Wk.lstore (W : Wk p l e R s m args below meth c Z EL kn own T h ss cells slots) (me : Me p meth c nm bytes maxL ret) {k : Nat} {x : Int64} {l' : Array Slot} (hd : decode bytes pc = .ok (.lstore k, 2)) (hl : storeLocals Ls k (.long x) = some l') (F : Fi p e below s Z EL kc ks P T (mkF m (pc + 2) l' st)) : Fi p e below s Z EL kc ks P T (mkF m pc Ls (.long x :: st)) :=
  F.step fun _ => XT.lstore W.here me.x rfl (hb me.b hd) rfl hl
theorem Wk.iconst (W : Wk p l e R s m args below meth c Z EL kn own T h ss cells slots) (me : Me p meth c nm bytes maxL ret) {i : Int} {v : Int32} (hd : decode bytes pc = .ok (.iconst i, 1)) (hv : Int32.ofInt i = v) (F : Fi p e below s Z EL kc ks P T (mkF m (pc + 1) Ls (.int v :: st))) : Fi p e below s Z EL kc ks P T (mkF m pc Ls st) :=
  F.step fun _ => XT.iconstV W.here me.x rfl v (hb me.b hd) hv
theorem Wk.bipush (W : Wk p l e R s m args below meth c Z EL kn own T h ss cells slots) (me : Me p meth c nm bytes maxL ret) {i : Int} {v : Int32} (hd : decode bytes pc = .ok (.bipush i, 2)) (hv : (Int8.ofInt i).toInt32 = v) (F : Fi p e below s Z EL kc ks P T (mkF m (pc + 2) Ls (.int v :: st))) : Fi p e below s Z EL kc ks P T (mkF m pc Ls st) :=
  F.step fun _ => XT.bipushV W.here me.x rfl v (hb me.b hd) hv
theorem Wk.sipush (W : Wk p l e R s m args below meth c Z EL kn own T h ss cells slots) (me : Me p meth c nm bytes maxL ret) {i : Int} {v : Int32} (hd : decode bytes pc = .ok (.sipush i, 3)) (hv : (Int16.ofInt i).toInt32 = v) (F : Fi p e below s Z EL kc ks P T (mkF m (pc + 3) Ls (.int v :: st))) : Fi p e below s Z EL kc ks P T (mkF m pc Ls st) :=
  F.step fun _ => XT.sipushV W.here me.x rfl v (hb me.b hd) hv
theorem Wk.aconstNull (W : Wk p l e R s m args below meth c Z EL kn own T h ss cells slots) (me : Me p meth c nm bytes maxL ret)  (hd : decode bytes pc = .ok (.aconst_null, 1))  (F : Fi p e below s Z EL kc ks P T (mkF m (pc + 1) Ls (.null :: st))) : Fi p e below s Z EL kc ks P T (mkF m pc Ls st) :=
  F.step fun _ => XS.aconstNull W.here me.x rfl (hb me.b hd) 
theorem Wk.iadd (W : Wk p l e R s m args below meth c Z EL kn own T h ss cells slots) (me : Me p meth c nm bytes maxL ret) {x y : Int32} (hd : decode bytes pc = .ok (.iadd, 1))  (F : Fi p e below s Z EL kc ks P T (mkF m (pc + 1) Ls (.int (x + y) :: st))) : Fi p e below s Z EL kc ks P T (mkF m pc Ls (.int y :: .int x :: st)) :=
  F.step fun _ => XS.iadd W.here me.x rfl (hb me.b hd) rfl
theorem Wk.isub (W : Wk p l e R s m args below meth c Z EL kn own T h ss cells slots) (me : Me p meth c nm bytes maxL ret) {x y : Int32} (hd : decode bytes pc = .ok (.isub, 1))  (F : Fi p e below s Z EL kc ks P T (mkF m (pc + 1) Ls (.int (x - y) :: st))) : Fi p e below s Z EL kc ks P T (mkF m pc Ls (.int y :: .int x :: st)) :=
  F.step fun _ => XS.isub W.here me.x rfl (hb me.b hd) rfl
theorem Wk.imul (W : Wk p l e R s m args below meth c Z EL kn own T h ss cells slots) (me : Me p meth c nm bytes maxL ret) {x y : Int32} (hd : decode bytes pc = .ok (.imul, 1))  (F : Fi p e below s Z EL kc ks P T (mkF m (pc + 1) Ls (.int (x * y) :: st))) : Fi p e below s Z EL kc ks P T (mkF m pc Ls (.int y :: .int x :: st)) :=
  F.step fun _ => XS.imul W.here me.x rfl (hb me.b hd) rfl
theorem Wk.iand (W : Wk p l e R s m args below meth c Z EL kn own T h ss cells slots) (me : Me p meth c nm bytes maxL ret) {x y : Int32} (hd : decode bytes pc = .ok (.iand, 1))  (F : Fi p e below s Z EL kc ks P T (mkF m (pc + 1) Ls (.int (x &&& y) :: st))) : Fi p e below s Z EL kc ks P T (mkF m pc Ls (.int y :: .int x :: st)) :=
  F.step fun _ => XS.iand W.here me.x rfl (hb me.b hd) rfl
theorem Wk.ior (W : Wk p l e R s m args below meth c Z EL kn own T h ss cells slots) (me : Me p meth c nm bytes maxL ret) {x y : Int32} (hd : decode bytes pc = .ok (.ior, 1))  (F : Fi p e below s Z EL kc ks P T (mkF m (pc + 1) Ls (.int (x ||| y) :: st))) : Fi p e below s Z EL kc ks P T (mkF m pc Ls (.int y :: .int x :: st)) :=
  F.step fun _ => XT.ior W.here me.x rfl (hb me.b hd) rfl
theorem Wk.ixor (W : Wk p l e R s m args below meth c Z EL kn own T h ss cells slots) (me : Me p meth c nm bytes maxL ret) {x y : Int32} (hd : decode bytes pc = .ok (.ixor, 1))  (F : Fi p e below s Z EL kc ks P T (mkF m (pc + 1) Ls (.int (x ^^^ y) :: st))) : Fi p e below s Z EL kc ks P T (mkF m pc Ls (.int y :: .int x :: st)) :=
  F.step fun _ => XT.ixor W.here me.x rfl (hb me.b hd) rfl
theorem Wk.ishl (W : Wk p l e R s m args below meth c Z EL kn own T h ss cells slots) (me : Me p meth c nm bytes maxL ret) {x y : Int32} (hd : decode bytes pc = .ok (.ishl, 1))  (F : Fi p e below s Z EL kc ks P T (mkF m (pc + 1) Ls (.int (x <<< (y &&& 31)) :: st))) : Fi p e below s Z EL kc ks P T (mkF m pc Ls (.int y :: .int x :: st)) :=
  F.step fun _ => XT.ishl W.here me.x rfl (hb me.b hd) rfl
theorem Wk.ishr (W : Wk p l e R s m args below meth c Z EL kn own T h ss cells slots) (me : Me p meth c nm bytes maxL ret) {x y : Int32} (hd : decode bytes pc = .ok (.ishr, 1))  (F : Fi p e below s Z EL kc ks P T (mkF m (pc + 1) Ls (.int (x >>> (y &&& 31)) :: st))) : Fi p e below s Z EL kc ks P T (mkF m pc Ls (.int y :: .int x :: st)) :=
  F.step fun _ => XT.ishr W.here me.x rfl (hb me.b hd) rfl
theorem Wk.iushr (W : Wk p l e R s m args below meth c Z EL kn own T h ss cells slots) (me : Me p meth c nm bytes maxL ret) {x y : Int32} (hd : decode bytes pc = .ok (.iushr, 1))  (F : Fi p e below s Z EL kc ks P T (mkF m (pc + 1) Ls (.int (XT.ushr x y) :: st))) : Fi p e below s Z EL kc ks P T (mkF m pc Ls (.int y :: .int x :: st)) :=
  F.step fun _ => XT.iushr W.here me.x rfl (hb me.b hd) rfl
theorem Wk.irem (W : Wk p l e R s m args below meth c Z EL kn own T h ss cells slots) (me : Me p meth c nm bytes maxL ret) {x y : Int32} (hd : decode bytes pc = .ok (.irem, 1)) (hy : y ≠ 0) (F : Fi p e below s Z EL kc ks P T (mkF m (pc + 1) Ls (.int (x % y) :: st))) : Fi p e below s Z EL kc ks P T (mkF m pc Ls (.int y :: .int x :: st)) := by
  obtain ⟨vm0, locs, k0, X, -⟩ := W
  exact F.step fun _ => iremM X me.x rfl (hb me.b hd) rfl hy
theorem Wk.ladd (W : Wk p l e R s m args below meth c Z EL kn own T h ss cells slots) (me : Me p meth c nm bytes maxL ret) {x y : Int64} (hd : decode bytes pc = .ok (.ladd, 1))  (F : Fi p e below s Z EL kc ks P T (mkF m (pc + 1) Ls (.long (x + y) :: st))) : Fi p e below s Z EL kc ks P T (mkF m pc Ls (.long y :: .long x :: st)) :=
  F.step fun _ => XT.ladd W.here me.x rfl (hb me.b hd) rfl
theorem Wk.lsub (W : Wk p l e R s m args below meth c Z EL kn own T h ss cells slots) (me : Me p meth c nm bytes maxL ret) {x y : Int64} (hd : decode bytes pc = .ok (.lsub, 1))  (F : Fi p e below s Z EL kc ks P T (mkF m (pc + 1) Ls (.long (x - y) :: st))) : Fi p e below s Z EL kc ks P T (mkF m pc Ls (.long y :: .long x :: st)) :=
  F.step fun _ => XT.lsub W.here me.x rfl (hb me.b hd) rfl
theorem Wk.lmul (W : Wk p l e R s m args below meth c Z EL kn own T h ss cells slots) (me : Me p meth c nm bytes maxL ret) {x y : Int64} (hd : decode bytes pc = .ok (.lmul, 1))  (F : Fi p e below s Z EL kc ks P T (mkF m (pc + 1) Ls (.long (x * y) :: st))) : Fi p e below s Z EL kc ks P T (mkF m pc Ls (.long y :: .long x :: st)) :=
  F.step fun _ => XT.lmul W.here me.x rfl (hb me.b hd) rfl
theorem Wk.lcmp (W : Wk p l e R s m args below meth c Z EL kn own T h ss cells slots) (me : Me p meth c nm bytes maxL ret) {x y : Int64} (hd : decode bytes pc = .ok (.lcmp, 1))  (F : Fi p e below s Z EL kc ks P T (mkF m (pc + 1) Ls (.int (XT.cmpL x y) :: st))) : Fi p e below s Z EL kc ks P T (mkF m pc Ls (.long y :: .long x :: st)) :=
  F.step fun _ => XT.lcmp W.here me.x rfl (hb me.b hd) rfl
theorem Wk.i2l (W : Wk p l e R s m args below meth c Z EL kn own T h ss cells slots) (me : Me p meth c nm bytes maxL ret) {x : Int32} (hd : decode bytes pc = .ok (.i2l, 1))  (F : Fi p e below s Z EL kc ks P T (mkF m (pc + 1) Ls (.long x.toInt64 :: st))) : Fi p e below s Z EL kc ks P T (mkF m pc Ls (.int x :: st)) :=
  F.step fun _ => XT.i2l W.here me.x rfl (hb me.b hd) rfl
theorem Wk.l2i (W : Wk p l e R s m args below meth c Z EL kn own T h ss cells slots) (me : Me p meth c nm bytes maxL ret) {x : Int64} (hd : decode bytes pc = .ok (.l2i, 1))  (F : Fi p e below s Z EL kc ks P T (mkF m (pc + 1) Ls (.int x.toInt32 :: st))) : Fi p e below s Z EL kc ks P T (mkF m pc Ls (.long x :: st)) :=
  F.step fun _ => XT.l2i W.here me.x rfl (hb me.b hd) rfl
theorem Wk.i2b (W : Wk p l e R s m args below meth c Z EL kn own T h ss cells slots) (me : Me p meth c nm bytes maxL ret) {x : Int32} (hd : decode bytes pc = .ok (.i2b, 1))  (F : Fi p e below s Z EL kc ks P T (mkF m (pc + 1) Ls (.int x.toInt8.toInt32 :: st))) : Fi p e below s Z EL kc ks P T (mkF m pc Ls (.int x :: st)) :=
  F.step fun _ => XT.i2b W.here me.x rfl (hb me.b hd) rfl
theorem Wk.i2c (W : Wk p l e R s m args below meth c Z EL kn own T h ss cells slots) (me : Me p meth c nm bytes maxL ret) {x : Int32} (hd : decode bytes pc = .ok (.i2c, 1))  (F : Fi p e below s Z EL kc ks P T (mkF m (pc + 1) Ls (.int x.toUInt32.toUInt16.toUInt32.toInt32 :: st))) : Fi p e below s Z EL kc ks P T (mkF m pc Ls (.int x :: st)) :=
  F.step fun _ => XT.i2c W.here me.x rfl (hb me.b hd) rfl
theorem Wk.dup (W : Wk p l e R s m args below meth c Z EL kn own T h ss cells slots) (me : Me p meth c nm bytes maxL ret) {x : Value} (hd : decode bytes pc = .ok (.dup, 1)) (hc : x.category = 1) (F : Fi p e below s Z EL kc ks P T (mkF m (pc + 1) Ls (x :: x :: st))) : Fi p e below s Z EL kc ks P T (mkF m pc Ls (x :: st)) :=
  F.step fun _ => XS.dup W.here me.x rfl (hb me.b hd) rfl hc
theorem Wk.pop (W : Wk p l e R s m args below meth c Z EL kn own T h ss cells slots) (me : Me p meth c nm bytes maxL ret) {x : Value} (hd : decode bytes pc = .ok (.pop, 1)) (hc : x.category = 1) (F : Fi p e below s Z EL kc ks P T (mkF m (pc + 1) Ls st)) : Fi p e below s Z EL kc ks P T (mkF m pc Ls (x :: st)) :=
  F.step fun _ => XT.pop W.here me.x rfl (hb me.b hd) rfl hc
theorem Wk.dupX1 (W : Wk p l e R s m args below meth c Z EL kn own T h ss cells slots) (me : Me p meth c nm bytes maxL ret) {x y : Value} (hd : decode bytes pc = .ok (.dup_x1, 1)) (hc : x.category = 1) (hc' : y.category = 1) (F : Fi p e below s Z EL kc ks P T (mkF m (pc + 1) Ls (x :: y :: x :: st))) : Fi p e below s Z EL kc ks P T (mkF m pc Ls (x :: y :: st)) :=
  F.step fun _ => XT.dupX1 W.here me.x rfl (hb me.b hd) rfl hc hc'
theorem Wk.dup2 (W : Wk p l e R s m args below meth c Z EL kn own T h ss cells slots) (me : Me p meth c nm bytes maxL ret) {x y : Value} (hd : decode bytes pc = .ok (.dup2, 1)) (hc : x.category = 1) (hc' : y.category = 1) (F : Fi p e below s Z EL kc ks P T (mkF m (pc + 1) Ls (x :: y :: x :: y :: st))) : Fi p e below s Z EL kc ks P T (mkF m pc Ls (x :: y :: st)) :=
  F.step fun _ => XT.dup2 W.here me.x rfl (hb me.b hd) rfl hc hc'
theorem Wk.iinc (W : Wk p l e R s m args below meth c Z EL kn own T h ss cells slots) (me : Me p meth c nm bytes maxL ret) {k : Nat} {cst : Int} {x v : Int32} {l' : Array Slot} (hd : decode bytes pc = .ok (.iinc k cst, 3)) (hv : Int32.ofInt cst = v) (hl : Ls[k]? = some (.val (.int x))) (hl' : storeLocals Ls k (.int (x + v)) = some l') (F : Fi p e below s Z EL kc ks P T (mkF m (pc + 3) l' st)) : Fi p e below s Z EL kc ks P T (mkF m pc Ls st) :=
  F.step fun _ => XT.iincV W.here me.x rfl v (hb me.b hd) hv hl hl'
theorem Wk.goto (W : Wk p l e R s m args below meth c Z EL kn own T h ss cells slots) (me : Me p meth c nm bytes maxL ret) {o : Int} {pc' : Nat} (hd : decode bytes pc = .ok (.goto o, 3)) (ho : 0 ≤ (pc : Int) + o) (hp : ((pc : Int) + o).toNat = pc') (F : Fi p e below s Z EL kc ks P T (mkF m pc' Ls st)) : Fi p e below s Z EL kc ks P T (mkF m pc Ls st) :=
  F.step fun _ => XS.goto W.here me.x rfl rfl (hb me.b hd) ho hp
theorem Wk.ifY (W : Wk p l e R s m args below meth c Z EL kn own T h ss cells slots) (me : Me p meth c nm bytes maxL ret) {cd : ClassFile.Cond} {x : Int32} {o : Int} {pc' : Nat} (hd : decode bytes pc = .ok (.ifCond cd o, 3)) (hc : ifCond.holds cd x = true) (ho : 0 ≤ (pc : Int) + o) (hp : ((pc : Int) + o).toNat = pc') (F : Fi p e below s Z EL kc ks P T (mkF m pc' Ls st)) : Fi p e below s Z EL kc ks P T (mkF m pc Ls (.int x :: st)) :=
  F.step fun _ => XS.ifYes W.here me.x rfl rfl (hb me.b hd) rfl hc ho hp
theorem Wk.ifN (W : Wk p l e R s m args below meth c Z EL kn own T h ss cells slots) (me : Me p meth c nm bytes maxL ret) {cd : ClassFile.Cond} {x : Int32} {o : Int} (hd : decode bytes pc = .ok (.ifCond cd o, 3)) (hc : ifCond.holds cd x = false) (F : Fi p e below s Z EL kc ks P T (mkF m (pc + 3) Ls st)) : Fi p e below s Z EL kc ks P T (mkF m pc Ls (.int x :: st)) :=
  F.step fun _ => XS.ifNo W.here me.x rfl (hb me.b hd) rfl hc
theorem Wk.icY (W : Wk p l e R s m args below meth c Z EL kn own T h ss cells slots) (me : Me p meth c nm bytes maxL ret) {cd : ClassFile.Cond} {x y : Int32} {o : Int} {pc' : Nat} (hd : decode bytes pc = .ok (.if_icmp cd o, 3)) (hc : if_icmp.holds cd x y = true) (ho : 0 ≤ (pc : Int) + o) (hp : ((pc : Int) + o).toNat = pc') (F : Fi p e below s Z EL kc ks P T (mkF m pc' Ls st)) : Fi p e below s Z EL kc ks P T (mkF m pc Ls (.int y :: .int x :: st)) :=
  F.step fun _ => XS.icmpYes W.here me.x rfl rfl (hb me.b hd) rfl hc ho hp
theorem Wk.icN (W : Wk p l e R s m args below meth c Z EL kn own T h ss cells slots) (me : Me p meth c nm bytes maxL ret) {cd : ClassFile.Cond} {x y : Int32} {o : Int} (hd : decode bytes pc = .ok (.if_icmp cd o, 3)) (hc : if_icmp.holds cd x y = false) (F : Fi p e below s Z EL kc ks P T (mkF m (pc + 3) Ls st)) : Fi p e below s Z EL kc ks P T (mkF m pc Ls (.int y :: .int x :: st)) :=
  F.step fun _ => XS.icmpNo W.here me.x rfl (hb me.b hd) rfl hc
theorem Wk.ic_eq (W : Wk p l e R s m args below meth c Z EL kn own T h ss cells slots) (me : Me p meth c nm bytes maxL ret) {x y : Int32} {o : Int} {pc' : Nat} (hd : decode bytes pc = .ok (.if_icmp .eq o, 3)) (ho : 0 ≤ (pc : Int) + o) (hp : ((pc : Int) + o).toNat = pc') (F : x = y → Fi p e below s Z EL kc ks P T (mkF m pc' Ls st)) (G : ¬ x = y → Fi p e below s Z EL kc ks P T (mkF m (pc + 3) Ls st)) : Fi p e below s Z EL kc ks P T (mkF m pc Ls (.int y :: .int x :: st)) := by
  by_cases q : x = y
  · exact W.icY me hd (teq q).1 ho hp (F q)
  · exact W.icN me hd (feq (by first | exact q | exact Decidable.not_not.mp q)).1 (G (by first | exact q | exact Decidable.not_not.mp q))
theorem Wk.if_eq (W : Wk p l e R s m args below meth c Z EL kn own T h ss cells slots) (me : Me p meth c nm bytes maxL ret) {x : Int32} {o : Int} {pc' : Nat} (hd : decode bytes pc = .ok (.ifCond .eq o, 3)) (ho : 0 ≤ (pc : Int) + o) (hp : ((pc : Int) + o).toNat = pc') (F : x = 0 → Fi p e below s Z EL kc ks P T (mkF m pc' Ls st)) (G : ¬ x = 0 → Fi p e below s Z EL kc ks P T (mkF m (pc + 3) Ls st)) : Fi p e below s Z EL kc ks P T (mkF m pc Ls (.int x :: st)) := by
  by_cases q : x = 0
  · exact W.ifY me hd ((if0 _ _).trans (teq q).1) ho hp (F q)
  · exact W.ifN me hd ((if0 _ _).trans (feq (by first | exact q | exact Decidable.not_not.mp q)).1) (G (by first | exact q | exact Decidable.not_not.mp q))
theorem Wk.icY_eq (W : Wk p l e R s m args below meth c Z EL kn own T h ss cells slots) (me : Me p meth c nm bytes maxL ret) {x y : Int32} {o : Int} {pc' : Nat} (hd : decode bytes pc = .ok (.if_icmp .eq o, 3)) (q : x = y) (ho : 0 ≤ (pc : Int) + o) (hp : ((pc : Int) + o).toNat = pc') (F : Fi p e below s Z EL kc ks P T (mkF m pc' Ls st)) : Fi p e below s Z EL kc ks P T (mkF m pc Ls (.int y :: .int x :: st)) := W.icY me hd (teq q).1 ho hp F
theorem Wk.icN_eq (W : Wk p l e R s m args below meth c Z EL kn own T h ss cells slots) (me : Me p meth c nm bytes maxL ret) {x y : Int32} {o : Int} (hd : decode bytes pc = .ok (.if_icmp .eq o, 3)) (q : ¬ x = y) (F : Fi p e below s Z EL kc ks P T (mkF m (pc + 3) Ls st)) : Fi p e below s Z EL kc ks P T (mkF m pc Ls (.int y :: .int x :: st)) := W.icN me hd (feq q).1 F
theorem Wk.ifY_eq (W : Wk p l e R s m args below meth c Z EL kn own T h ss cells slots) (me : Me p meth c nm bytes maxL ret) {x : Int32} {o : Int} {pc' : Nat} (hd : decode bytes pc = .ok (.ifCond .eq o, 3)) (q : x = 0) (ho : 0 ≤ (pc : Int) + o) (hp : ((pc : Int) + o).toNat = pc') (F : Fi p e below s Z EL kc ks P T (mkF m pc' Ls st)) : Fi p e below s Z EL kc ks P T (mkF m pc Ls (.int x :: st)) := W.ifY me hd ((if0 _ _).trans (teq q).1) ho hp F
theorem Wk.ifN_eq (W : Wk p l e R s m args below meth c Z EL kn own T h ss cells slots) (me : Me p meth c nm bytes maxL ret) {x : Int32} {o : Int} (hd : decode bytes pc = .ok (.ifCond .eq o, 3)) (q : ¬ x = 0) (F : Fi p e below s Z EL kc ks P T (mkF m (pc + 3) Ls st)) : Fi p e below s Z EL kc ks P T (mkF m pc Ls (.int x :: st)) := W.ifN me hd ((if0 _ _).trans (feq q).1) F
theorem Wk.ic_ne (W : Wk p l e R s m args below meth c Z EL kn own T h ss cells slots) (me : Me p meth c nm bytes maxL ret) {x y : Int32} {o : Int} {pc' : Nat} (hd : decode bytes pc = .ok (.if_icmp .ne o, 3)) (ho : 0 ≤ (pc : Int) + o) (hp : ((pc : Int) + o).toNat = pc') (F : ¬ x = y → Fi p e below s Z EL kc ks P T (mkF m pc' Ls st)) (G : x = y → Fi p e below s Z EL kc ks P T (mkF m (pc + 3) Ls st)) : Fi p e below s Z EL kc ks P T (mkF m pc Ls (.int y :: .int x :: st)) := by
  by_cases q : ¬ x = y
  · exact W.icY me hd (feq q).2 ho hp (F q)
  · exact W.icN me hd (teq (by first | exact q | exact Decidable.not_not.mp q)).2 (G (by first | exact q | exact Decidable.not_not.mp q))
theorem Wk.if_ne (W : Wk p l e R s m args below meth c Z EL kn own T h ss cells slots) (me : Me p meth c nm bytes maxL ret) {x : Int32} {o : Int} {pc' : Nat} (hd : decode bytes pc = .ok (.ifCond .ne o, 3)) (ho : 0 ≤ (pc : Int) + o) (hp : ((pc : Int) + o).toNat = pc') (F : ¬ x = 0 → Fi p e below s Z EL kc ks P T (mkF m pc' Ls st)) (G : x = 0 → Fi p e below s Z EL kc ks P T (mkF m (pc + 3) Ls st)) : Fi p e below s Z EL kc ks P T (mkF m pc Ls (.int x :: st)) := by
  by_cases q : ¬ x = 0
  · exact W.ifY me hd ((if0 _ _).trans (feq q).2) ho hp (F q)
  · exact W.ifN me hd ((if0 _ _).trans (teq (by first | exact q | exact Decidable.not_not.mp q)).2) (G (by first | exact q | exact Decidable.not_not.mp q))
theorem Wk.icY_ne (W : Wk p l e R s m args below meth c Z EL kn own T h ss cells slots) (me : Me p meth c nm bytes maxL ret) {x y : Int32} {o : Int} {pc' : Nat} (hd : decode bytes pc = .ok (.if_icmp .ne o, 3)) (q : ¬ x = y) (ho : 0 ≤ (pc : Int) + o) (hp : ((pc : Int) + o).toNat = pc') (F : Fi p e below s Z EL kc ks P T (mkF m pc' Ls st)) : Fi p e below s Z EL kc ks P T (mkF m pc Ls (.int y :: .int x :: st)) := W.icY me hd (feq q).2 ho hp F
theorem Wk.icN_ne (W : Wk p l e R s m args below meth c Z EL kn own T h ss cells slots) (me : Me p meth c nm bytes maxL ret) {x y : Int32} {o : Int} (hd : decode bytes pc = .ok (.if_icmp .ne o, 3)) (q : x = y) (F : Fi p e below s Z EL kc ks P T (mkF m (pc + 3) Ls st)) : Fi p e below s Z EL kc ks P T (mkF m pc Ls (.int y :: .int x :: st)) := W.icN me hd (teq q).2 F
theorem Wk.ifY_ne (W : Wk p l e R s m args below meth c Z EL kn own T h ss cells slots) (me : Me p meth c nm bytes maxL ret) {x : Int32} {o : Int} {pc' : Nat} (hd : decode bytes pc = .ok (.ifCond .ne o, 3)) (q : ¬ x = 0) (ho : 0 ≤ (pc : Int) + o) (hp : ((pc : Int) + o).toNat = pc') (F : Fi p e below s Z EL kc ks P T (mkF m pc' Ls st)) : Fi p e below s Z EL kc ks P T (mkF m pc Ls (.int x :: st)) := W.ifY me hd ((if0 _ _).trans (feq q).2) ho hp F
theorem Wk.ifN_ne (W : Wk p l e R s m args below meth c Z EL kn own T h ss cells slots) (me : Me p meth c nm bytes maxL ret) {x : Int32} {o : Int} (hd : decode bytes pc = .ok (.ifCond .ne o, 3)) (q : x = 0) (F : Fi p e below s Z EL kc ks P T (mkF m (pc + 3) Ls st)) : Fi p e below s Z EL kc ks P T (mkF m pc Ls (.int x :: st)) := W.ifN me hd ((if0 _ _).trans (teq q).2) F
theorem Wk.ic_lt (W : Wk p l e R s m args below meth c Z EL kn own T h ss cells slots) (me : Me p meth c nm bytes maxL ret) {x y : Int32} {o : Int} {pc' : Nat} (hd : decode bytes pc = .ok (.if_icmp .lt o, 3)) (ho : 0 ≤ (pc : Int) + o) (hp : ((pc : Int) + o).toNat = pc') (F : x < y → Fi p e below s Z EL kc ks P T (mkF m pc' Ls st)) (G : ¬ x < y → Fi p e below s Z EL kc ks P T (mkF m (pc + 3) Ls st)) : Fi p e below s Z EL kc ks P T (mkF m pc Ls (.int y :: .int x :: st)) := by
  by_cases q : x < y
  · exact W.icY me hd (tlt q).1 ho hp (F q)
  · exact W.icN me hd (flt (by first | exact q | exact Decidable.not_not.mp q)).1 (G (by first | exact q | exact Decidable.not_not.mp q))
theorem Wk.if_lt (W : Wk p l e R s m args below meth c Z EL kn own T h ss cells slots) (me : Me p meth c nm bytes maxL ret) {x : Int32} {o : Int} {pc' : Nat} (hd : decode bytes pc = .ok (.ifCond .lt o, 3)) (ho : 0 ≤ (pc : Int) + o) (hp : ((pc : Int) + o).toNat = pc') (F : x < 0 → Fi p e below s Z EL kc ks P T (mkF m pc' Ls st)) (G : ¬ x < 0 → Fi p e below s Z EL kc ks P T (mkF m (pc + 3) Ls st)) : Fi p e below s Z EL kc ks P T (mkF m pc Ls (.int x :: st)) := by
  by_cases q : x < 0
  · exact W.ifY me hd ((if0 _ _).trans (tlt q).1) ho hp (F q)
  · exact W.ifN me hd ((if0 _ _).trans (flt (by first | exact q | exact Decidable.not_not.mp q)).1) (G (by first | exact q | exact Decidable.not_not.mp q))
theorem Wk.icY_lt (W : Wk p l e R s m args below meth c Z EL kn own T h ss cells slots) (me : Me p meth c nm bytes maxL ret) {x y : Int32} {o : Int} {pc' : Nat} (hd : decode bytes pc = .ok (.if_icmp .lt o, 3)) (q : x < y) (ho : 0 ≤ (pc : Int) + o) (hp : ((pc : Int) + o).toNat = pc') (F : Fi p e below s Z EL kc ks P T (mkF m pc' Ls st)) : Fi p e below s Z EL kc ks P T (mkF m pc Ls (.int y :: .int x :: st)) := W.icY me hd (tlt q).1 ho hp F
theorem Wk.icN_lt (W : Wk p l e R s m args below meth c Z EL kn own T h ss cells slots) (me : Me p meth c nm bytes maxL ret) {x y : Int32} {o : Int} (hd : decode bytes pc = .ok (.if_icmp .lt o, 3)) (q : ¬ x < y) (F : Fi p e below s Z EL kc ks P T (mkF m (pc + 3) Ls st)) : Fi p e below s Z EL kc ks P T (mkF m pc Ls (.int y :: .int x :: st)) := W.icN me hd (flt q).1 F
theorem Wk.ifY_lt (W : Wk p l e R s m args below meth c Z EL kn own T h ss cells slots) (me : Me p meth c nm bytes maxL ret) {x : Int32} {o : Int} {pc' : Nat} (hd : decode bytes pc = .ok (.ifCond .lt o, 3)) (q : x < 0) (ho : 0 ≤ (pc : Int) + o) (hp : ((pc : Int) + o).toNat = pc') (F : Fi p e below s Z EL kc ks P T (mkF m pc' Ls st)) : Fi p e below s Z EL kc ks P T (mkF m pc Ls (.int x :: st)) := W.ifY me hd ((if0 _ _).trans (tlt q).1) ho hp F
theorem Wk.ifN_lt (W : Wk p l e R s m args below meth c Z EL kn own T h ss cells slots) (me : Me p meth c nm bytes maxL ret) {x : Int32} {o : Int} (hd : decode bytes pc = .ok (.ifCond .lt o, 3)) (q : ¬ x < 0) (F : Fi p e below s Z EL kc ks P T (mkF m (pc + 3) Ls st)) : Fi p e below s Z EL kc ks P T (mkF m pc Ls (.int x :: st)) := W.ifN me hd ((if0 _ _).trans (flt q).1) F
theorem Wk.ic_ge (W : Wk p l e R s m args below meth c Z EL kn own T h ss cells slots) (me : Me p meth c nm bytes maxL ret) {x y : Int32} {o : Int} {pc' : Nat} (hd : decode bytes pc = .ok (.if_icmp .ge o, 3)) (ho : 0 ≤ (pc : Int) + o) (hp : ((pc : Int) + o).toNat = pc') (F : ¬ x < y → Fi p e below s Z EL kc ks P T (mkF m pc' Ls st)) (G : x < y → Fi p e below s Z EL kc ks P T (mkF m (pc + 3) Ls st)) : Fi p e below s Z EL kc ks P T (mkF m pc Ls (.int y :: .int x :: st)) := by
  by_cases q : ¬ x < y
  · exact W.icY me hd (flt q).2.1 ho hp (F q)
  · exact W.icN me hd (tlt (by first | exact q | exact Decidable.not_not.mp q)).2.1 (G (by first | exact q | exact Decidable.not_not.mp q))
theorem Wk.if_ge (W : Wk p l e R s m args below meth c Z EL kn own T h ss cells slots) (me : Me p meth c nm bytes maxL ret) {x : Int32} {o : Int} {pc' : Nat} (hd : decode bytes pc = .ok (.ifCond .ge o, 3)) (ho : 0 ≤ (pc : Int) + o) (hp : ((pc : Int) + o).toNat = pc') (F : ¬ x < 0 → Fi p e below s Z EL kc ks P T (mkF m pc' Ls st)) (G : x < 0 → Fi p e below s Z EL kc ks P T (mkF m (pc + 3) Ls st)) : Fi p e below s Z EL kc ks P T (mkF m pc Ls (.int x :: st)) := by
  by_cases q : ¬ x < 0
  · exact W.ifY me hd ((if0 _ _).trans (flt q).2.1) ho hp (F q)
  · exact W.ifN me hd ((if0 _ _).trans (tlt (by first | exact q | exact Decidable.not_not.mp q)).2.1) (G (by first | exact q | exact Decidable.not_not.mp q))
theorem Wk.icY_ge (W : Wk p l e R s m args below meth c Z EL kn own T h ss cells slots) (me : Me p meth c nm bytes maxL ret) {x y : Int32} {o : Int} {pc' : Nat} (hd : decode bytes pc = .ok (.if_icmp .ge o, 3)) (q : ¬ x < y) (ho : 0 ≤ (pc : Int) + o) (hp : ((pc : Int) + o).toNat = pc') (F : Fi p e below s Z EL kc ks P T (mkF m pc' Ls st)) : Fi p e below s Z EL kc ks P T (mkF m pc Ls (.int y :: .int x :: st)) := W.icY me hd (flt q).2.1 ho hp F
theorem Wk.icN_ge (W : Wk p l e R s m args below meth c Z EL kn own T h ss cells slots) (me : Me p meth c nm bytes maxL ret) {x y : Int32} {o : Int} (hd : decode bytes pc = .ok (.if_icmp .ge o, 3)) (q : x < y) (F : Fi p e below s Z EL kc ks P T (mkF m (pc + 3) Ls st)) : Fi p e below s Z EL kc ks P T (mkF m pc Ls (.int y :: .int x :: st)) := W.icN me hd (tlt q).2.1 F
theorem Wk.ifY_ge (W : Wk p l e R s m args below meth c Z EL kn own T h ss cells slots) (me : Me p meth c nm bytes maxL ret) {x : Int32} {o : Int} {pc' : Nat} (hd : decode bytes pc = .ok (.ifCond .ge o, 3)) (q : ¬ x < 0) (ho : 0 ≤ (pc : Int) + o) (hp : ((pc : Int) + o).toNat = pc') (F : Fi p e below s Z EL kc ks P T (mkF m pc' Ls st)) : Fi p e below s Z EL kc ks P T (mkF m pc Ls (.int x :: st)) := W.ifY me hd ((if0 _ _).trans (flt q).2.1) ho hp F
theorem Wk.ifN_ge (W : Wk p l e R s m args below meth c Z EL kn own T h ss cells slots) (me : Me p meth c nm bytes maxL ret) {x : Int32} {o : Int} (hd : decode bytes pc = .ok (.ifCond .ge o, 3)) (q : x < 0) (F : Fi p e below s Z EL kc ks P T (mkF m (pc + 3) Ls st)) : Fi p e below s Z EL kc ks P T (mkF m pc Ls (.int x :: st)) := W.ifN me hd ((if0 _ _).trans (tlt q).2.1) F
theorem Wk.ic_gt (W : Wk p l e R s m args below meth c Z EL kn own T h ss cells slots) (me : Me p meth c nm bytes maxL ret) {x y : Int32} {o : Int} {pc' : Nat} (hd : decode bytes pc = .ok (.if_icmp .gt o, 3)) (ho : 0 ≤ (pc : Int) + o) (hp : ((pc : Int) + o).toNat = pc') (F : y < x → Fi p e below s Z EL kc ks P T (mkF m pc' Ls st)) (G : ¬ y < x → Fi p e below s Z EL kc ks P T (mkF m (pc + 3) Ls st)) : Fi p e below s Z EL kc ks P T (mkF m pc Ls (.int y :: .int x :: st)) := by
  by_cases q : y < x
  · exact W.icY me hd (tlt q).2.2.1 ho hp (F q)
  · exact W.icN me hd (flt (by first | exact q | exact Decidable.not_not.mp q)).2.2.1 (G (by first | exact q | exact Decidable.not_not.mp q))
theorem Wk.if_gt (W : Wk p l e R s m args below meth c Z EL kn own T h ss cells slots) (me : Me p meth c nm bytes maxL ret) {x : Int32} {o : Int} {pc' : Nat} (hd : decode bytes pc = .ok (.ifCond .gt o, 3)) (ho : 0 ≤ (pc : Int) + o) (hp : ((pc : Int) + o).toNat = pc') (F : 0 < x → Fi p e below s Z EL kc ks P T (mkF m pc' Ls st)) (G : ¬ 0 < x → Fi p e below s Z EL kc ks P T (mkF m (pc + 3) Ls st)) : Fi p e below s Z EL kc ks P T (mkF m pc Ls (.int x :: st)) := by
  by_cases q : 0 < x
  · exact W.ifY me hd ((if0 _ _).trans (tlt q).2.2.1) ho hp (F q)
  · exact W.ifN me hd ((if0 _ _).trans (flt (by first | exact q | exact Decidable.not_not.mp q)).2.2.1) (G (by first | exact q | exact Decidable.not_not.mp q))
theorem Wk.icY_gt (W : Wk p l e R s m args below meth c Z EL kn own T h ss cells slots) (me : Me p meth c nm bytes maxL ret) {x y : Int32} {o : Int} {pc' : Nat} (hd : decode bytes pc = .ok (.if_icmp .gt o, 3)) (q : y < x) (ho : 0 ≤ (pc : Int) + o) (hp : ((pc : Int) + o).toNat = pc') (F : Fi p e below s Z EL kc ks P T (mkF m pc' Ls st)) : Fi p e below s Z EL kc ks P T (mkF m pc Ls (.int y :: .int x :: st)) := W.icY me hd (tlt q).2.2.1 ho hp F
theorem Wk.icN_gt (W : Wk p l e R s m args below meth c Z EL kn own T h ss cells slots) (me : Me p meth c nm bytes maxL ret) {x y : Int32} {o : Int} (hd : decode bytes pc = .ok (.if_icmp .gt o, 3)) (q : ¬ y < x) (F : Fi p e below s Z EL kc ks P T (mkF m (pc + 3) Ls st)) : Fi p e below s Z EL kc ks P T (mkF m pc Ls (.int y :: .int x :: st)) := W.icN me hd (flt q).2.2.1 F
theorem Wk.ifY_gt (W : Wk p l e R s m args below meth c Z EL kn own T h ss cells slots) (me : Me p meth c nm bytes maxL ret) {x : Int32} {o : Int} {pc' : Nat} (hd : decode bytes pc = .ok (.ifCond .gt o, 3)) (q : 0 < x) (ho : 0 ≤ (pc : Int) + o) (hp : ((pc : Int) + o).toNat = pc') (F : Fi p e below s Z EL kc ks P T (mkF m pc' Ls st)) : Fi p e below s Z EL kc ks P T (mkF m pc Ls (.int x :: st)) := W.ifY me hd ((if0 _ _).trans (tlt q).2.2.1) ho hp F
theorem Wk.ifN_gt (W : Wk p l e R s m args below meth c Z EL kn own T h ss cells slots) (me : Me p meth c nm bytes maxL ret) {x : Int32} {o : Int} (hd : decode bytes pc = .ok (.ifCond .gt o, 3)) (q : ¬ 0 < x) (F : Fi p e below s Z EL kc ks P T (mkF m (pc + 3) Ls st)) : Fi p e below s Z EL kc ks P T (mkF m pc Ls (.int x :: st)) := W.ifN me hd ((if0 _ _).trans (flt q).2.2.1) F
theorem Wk.ic_le (W : Wk p l e R s m args below meth c Z EL kn own T h ss cells slots) (me : Me p meth c nm bytes maxL ret) {x y : Int32} {o : Int} {pc' : Nat} (hd : decode bytes pc = .ok (.if_icmp .le o, 3)) (ho : 0 ≤ (pc : Int) + o) (hp : ((pc : Int) + o).toNat = pc') (F : ¬ y < x → Fi p e below s Z EL kc ks P T (mkF m pc' Ls st)) (G : y < x → Fi p e below s Z EL kc ks P T (mkF m (pc + 3) Ls st)) : Fi p e below s Z EL kc ks P T (mkF m pc Ls (.int y :: .int x :: st)) := by
  by_cases q : ¬ y < x
  · exact W.icY me hd (flt q).2.2.2 ho hp (F q)
  · exact W.icN me hd (tlt (by first | exact q | exact Decidable.not_not.mp q)).2.2.2 (G (by first | exact q | exact Decidable.not_not.mp q))
theorem Wk.if_le (W : Wk p l e R s m args below meth c Z EL kn own T h ss cells slots) (me : Me p meth c nm bytes maxL ret) {x : Int32} {o : Int} {pc' : Nat} (hd : decode bytes pc = .ok (.ifCond .le o, 3)) (ho : 0 ≤ (pc : Int) + o) (hp : ((pc : Int) + o).toNat = pc') (F : ¬ 0 < x → Fi p e below s Z EL kc ks P T (mkF m pc' Ls st)) (G : 0 < x → Fi p e below s Z EL kc ks P T (mkF m (pc + 3) Ls st)) : Fi p e below s Z EL kc ks P T (mkF m pc Ls (.int x :: st)) := by
  by_cases q : ¬ 0 < x
  · exact W.ifY me hd ((if0 _ _).trans (flt q).2.2.2) ho hp (F q)
  · exact W.ifN me hd ((if0 _ _).trans (tlt (by first | exact q | exact Decidable.not_not.mp q)).2.2.2) (G (by first | exact q | exact Decidable.not_not.mp q))
theorem Wk.icY_le (W : Wk p l e R s m args below meth c Z EL kn own T h ss cells slots) (me : Me p meth c nm bytes maxL ret) {x y : Int32} {o : Int} {pc' : Nat} (hd : decode bytes pc = .ok (.if_icmp .le o, 3)) (q : ¬ y < x) (ho : 0 ≤ (pc : Int) + o) (hp : ((pc : Int) + o).toNat = pc') (F : Fi p e below s Z EL kc ks P T (mkF m pc' Ls st)) : Fi p e below s Z EL kc ks P T (mkF m pc Ls (.int y :: .int x :: st)) := W.icY me hd (flt q).2.2.2 ho hp F
theorem Wk.icN_le (W : Wk p l e R s m args below meth c Z EL kn own T h ss cells slots) (me : Me p meth c nm bytes maxL ret) {x y : Int32} {o : Int} (hd : decode bytes pc = .ok (.if_icmp .le o, 3)) (q : y < x) (F : Fi p e below s Z EL kc ks P T (mkF m (pc + 3) Ls st)) : Fi p e below s Z EL kc ks P T (mkF m pc Ls (.int y :: .int x :: st)) := W.icN me hd (tlt q).2.2.2 F
theorem Wk.ifY_le (W : Wk p l e R s m args below meth c Z EL kn own T h ss cells slots) (me : Me p meth c nm bytes maxL ret) {x : Int32} {o : Int} {pc' : Nat} (hd : decode bytes pc = .ok (.ifCond .le o, 3)) (q : ¬ 0 < x) (ho : 0 ≤ (pc : Int) + o) (hp : ((pc : Int) + o).toNat = pc') (F : Fi p e below s Z EL kc ks P T (mkF m pc' Ls st)) : Fi p e below s Z EL kc ks P T (mkF m pc Ls (.int x :: st)) := W.ifY me hd ((if0 _ _).trans (flt q).2.2.2) ho hp F
theorem Wk.ifN_le (W : Wk p l e R s m args below meth c Z EL kn own T h ss cells slots) (me : Me p meth c nm bytes maxL ret) {x : Int32} {o : Int} (hd : decode bytes pc = .ok (.ifCond .le o, 3)) (q : 0 < x) (F : Fi p e below s Z EL kc ks P T (mkF m (pc + 3) Ls st)) : Fi p e below s Z EL kc ks P T (mkF m pc Ls (.int x :: st)) := W.ifN me hd ((if0 _ _).trans (tlt q).2.2.2) F
theorem Wk.nullY (W : Wk p l e R s m args below meth c Z EL kn own T h ss cells slots) (me : Me p meth c nm bytes maxL ret) {o : Int} {pc' : Nat} (hd : decode bytes pc = .ok (.ifnull o, 3)) (ho : 0 ≤ (pc : Int) + o) (hp : ((pc : Int) + o).toNat = pc') (F : Fi p e below s Z EL kc ks P T (mkF m pc' Ls st)) : Fi p e below s Z EL kc ks P T (mkF m pc Ls (.null :: st)) :=
  F.step fun _ => XS.ifnullYes W.here me.x rfl rfl (hb me.b hd) rfl ho hp
theorem Wk.nullN (W : Wk p l e R s m args below meth c Z EL kn own T h ss cells slots) (me : Me p meth c nm bytes maxL ret) {o : Int} {b : Addr} (hd : decode bytes pc = .ok (.ifnull o, 3)) (F : Fi p e below s Z EL kc ks P T (mkF m (pc + 3) Ls st)) : Fi p e below s Z EL kc ks P T (mkF m pc Ls (.ref b :: st)) :=
  F.step fun _ => XS.ifnullNo W.here me.x rfl (hb me.b hd) rfl
theorem Wk.nonnullY (W : Wk p l e R s m args below meth c Z EL kn own T h ss cells slots) (me : Me p meth c nm bytes maxL ret) {o : Int} {b : Addr} {pc' : Nat} (hd : decode bytes pc = .ok (.ifnonnull o, 3)) (ho : 0 ≤ (pc : Int) + o) (hp : ((pc : Int) + o).toNat = pc') (F : Fi p e below s Z EL kc ks P T (mkF m pc' Ls st)) : Fi p e below s Z EL kc ks P T (mkF m pc Ls (.ref b :: st)) :=
  F.step fun _ => XT.ifnonnullYes W.here me.x rfl rfl (hb me.b hd) rfl ho hp
theorem Wk.nonnullN (W : Wk p l e R s m args below meth c Z EL kn own T h ss cells slots) (me : Me p meth c nm bytes maxL ret) {o : Int} (hd : decode bytes pc = .ok (.ifnonnull o, 3)) (F : Fi p e below s Z EL kc ks P T (mkF m (pc + 3) Ls st)) : Fi p e below s Z EL kc ks P T (mkF m pc Ls (.null :: st)) :=
  F.step fun _ => XT.ifnonnullNo W.here me.x rfl (hb me.b hd) rfl
theorem Wk.acY (W : Wk p l e R s m args below meth c Z EL kn own T h ss cells slots) (me : Me p meth c nm bytes maxL ret) {cd : ClassFile.ACond} {x y : Value} {o : Int} {pc' : Nat} (hd : decode bytes pc = .ok (.if_acmp cd o, 3)) (hx : x.isRef = true) (hy : y.isRef = true) (hc : XT.acmp cd x y = true) (ho : 0 ≤ (pc : Int) + o) (hp : ((pc : Int) + o).toNat = pc') (F : Fi p e below s Z EL kc ks P T (mkF m pc' Ls st)) : Fi p e below s Z EL kc ks P T (mkF m pc Ls (y :: x :: st)) :=
  F.step fun _ => XT.acmpYes W.here me.x rfl rfl (hb me.b hd) rfl hx hy hc ho hp
theorem Wk.acN (W : Wk p l e R s m args below meth c Z EL kn own T h ss cells slots) (me : Me p meth c nm bytes maxL ret) {cd : ClassFile.ACond} {x y : Value} {o : Int} (hd : decode bytes pc = .ok (.if_acmp cd o, 3)) (hx : x.isRef = true) (hy : y.isRef = true) (hc : XT.acmp cd x y = false) (F : Fi p e below s Z EL kc ks P T (mkF m (pc + 3) Ls st)) : Fi p e below s Z EL kc ks P T (mkF m pc Ls (y :: x :: st)) :=
  F.step fun _ => XT.acmpNo W.here me.x rfl (hb me.b hd) rfl hx hy hc
end Steps2
end Jvm.OwnKit
namespace Jvm.OwnKit
open Jvm Jvm.ClassFile Sem Op Lib Jvm.Free Jvm.Stand Jvm.LawKit Jvm.RoadKit Bundle
section Steps3
variable {p : Program} {l : Launch} {e : Env} {R : Room} {s : State} {m : MethodId} {args : Array Value} {below : List Frame} {meth : Method} {c : Code} {Z : State} {a0 : Array Value} {EL : List (String × Nat)} {kn : Bool} {own : String}
  {T : State} {h h' h2 : Heap} {ss : List Addr} {cells slots : Nat} {nm : String} {bytes : ByteArray} {maxL : Nat} {ret : Option FieldType} {kc ks : Nat} {P : Option Value → Heap → (Addr → Prop) → Prop} {pc : Nat} {Ls : Array Slot} {st : List Value}
theorem own_xr (h : Heap) : Ext h h := ⟨Nat.le_refl _, fun _ _ q => q⟩
theorem own_xt (E : Ext h h') (F : Ext h' h2) : Ext h h2 := ⟨Nat.le_trans E.1 F.1, fun a c q => F.2 a c (E.2 a c q)⟩
theorem own_xw {a : Addr} {sl : Nat} {v : Value} (E : Ext h h') (q : h.size ≤ a) (W : Wr h' h2 a sl v) : Ext h h2 := by
  refine ⟨by rw [W.size]; exact E.1, fun b cb hb => ?_⟩
  obtain ⟨c0, -, -, -, rfl⟩ := W
  have hne : a ≠ b := by
    intro z
    subst z
    have := (Array.getElem?_eq_some_iff.mp hb).1
    omega
  rw [Array.getElem?_setIfInBounds_ne hne]; exact E.2 _ _ hb
theorem own_xk {ws : List Addr} (E : Ext h h') (K : Keep h' h2 ws) (q : ∀ x ∈ ws, h.size ≤ x) : Ext h h2 :=
  ⟨Nat.le_trans E.1 K.1, fun b cb hb => K.2.1 b cb (E.2 b cb hb) fun z => by have := (Array.getElem?_eq_some_iff.mp hb).1; have := q b z; omega⟩
theorem own_le {a b : Nat} (q : Nat.ble a b = true) : a ≤ b := Nat.le_of_ble_eq_true q
theorem own_lt {a b : Nat} (q : a < b) : a < b := q
theorem own_ge {a b : Nat} (q : a ≤ b) : a ≤ b := q
theorem own_ne {a b : Nat} (q : a < b) : a ≠ b := Nat.ne_of_lt q
theorem own_en {a b : Nat} (q : a < b) : b ≠ a := (Nat.ne_of_lt q).symm
theorem own_xK (E : Ext h h') (ws : List Addr) : Keep h h' ws := ⟨E.1, fun x c q _ => E.2 x c q, fun x c q => ⟨c, E.2 x c q, rfl, rfl, rfl⟩⟩
theorem Sf.safe {a : Addr} {vm0 : Vm} (hal : Z.vm.Alike vm0) (S : Sf Z h ss a) (hss : ∀ x ∈ ss, x < h.size ∧ Safe Z EL vm0 h x) : Safe Z EL vm0 h a := by
  rcases S with q | ⟨C, E, h1, h2⟩ | ⟨cl, ty, A, ht⟩
  · exact (hss a q).2
  · exact Safe.exa hal E h1 h2
  · exact Safe.arr hal A ht
/-- a step that moves no heap -/
theorem Wk.quiet {g g' : JFrame} (W : Wk p l e R s m args below meth c Z EL kn own T h ss cells slots)
    (law : ∀ {vm0 : Vm} {locs : List Loc}, Stand p l e R (s.setVm vm0) m args below meth c T locs cells slots → Z.Warmed39 vm0 → vm0.findClass own = some m.cls → ∃ T', Stand p l e R (s.setVm vm0) m args below meth c T' locs cells slots ∧ T'.heap = h ∧ ∀ target, Steps p.tables e below (T'.setTop g') target → Steps p.tables e below (T.setTop g) target)
    (F : ∀ T', Wk p l e R s m args below meth c Z EL kn own T' h ss cells slots → Fi p e below s Z EL kc ks P T' g') : Fi p e below s Z EL kc ks P T g := by
  obtain ⟨vm0, locs, k0, X, eT, hZ, hS, hk, hown, N, O, C, hss, hK⟩ := W
  obtain ⟨T', X', e', st⟩ := law X hZ hown
  exact (F T' ⟨vm0, locs, k0, X', e', hZ, hS, hk, hown, N, O, C, hss, hK⟩).step st
/-- a step that only makes cells -/
theorem Wk.grows {g g' : JFrame} {k n : Nat} {Q : State → Heap → Prop} (W : Wk p l e R s m args below meth c Z EL kn own T h ss cells slots)
    (law : ∀ {vm0 : Vm} {locs : List Loc}, Stand p l e R (s.setVm vm0) m args below meth c T locs cells slots → Z.Warmed39 vm0 → vm0.findClass own = some m.cls → ∃ T' h', Stand p l e R (s.setVm vm0) m args below meth c T' locs (cells + k) (slots + n) ∧ T'.heap = h' ∧ Ext h h' ∧ (h.size < h'.size) ∧ Q T' h' ∧ ∀ target, Steps p.tables e below (T'.setTop g') target → Steps p.tables e below (T.setTop g) target)
    (F : ∀ T' h', Wk p l e R s m args below meth c Z EL kn own T' h' (h.size :: ss) (cells + k) (slots + n) → Ext h h' → Q T' h' → Fi p e below s Z EL kc ks P T' g') : Fi p e below s Z EL kc ks P T g := by
  obtain ⟨vm0, locs, k0, X, eT, hZ, hS, hk, hown, N, O, C, hss, hK⟩ := W
  obtain ⟨T', h', X', e', E, hlt, q, st⟩ := law X hZ hown
  have C2 := CHr.ext E C.1
  refine (F T' h' ⟨vm0, locs, k0, X', e', hZ, hS, Nat.le_trans hk E.1, hown, N, O.ext E, C.trans C2, fun x hx => ?_, hK⟩ E q).step st
  rcases List.mem_cons.mp hx with rfl | hx
  · exact ⟨hlt, Safe.ext E C.1 (Safe.new (Nat.le_refl _))⟩
  · exact ⟨Nat.lt_of_lt_of_le (hss x hx).1 E.1, Safe.ext E C.1 (hss x hx).2⟩
/-- a step that writes one place -/
theorem Wk.writes {g g' : JFrame} {a : Addr} {sl : Nat} {v : Value} (W : Wk p l e R s m args below meth c Z EL kn own T h ss cells slots) (hS : Sf Z h ss a) (hn : Z.heap.size ≤ a)
    (law : ∀ {vm0 : Vm} {locs : List Loc}, Stand p l e R (s.setVm vm0) m args below meth c T locs cells slots → Z.Warmed39 vm0 → vm0.findClass own = some m.cls → ∃ T' h', Stand p l e R (s.setVm vm0) m args below meth c T' (locs ++ [⟨a, sl⟩]) cells slots ∧ T'.heap = h' ∧ Wr h h' a sl v ∧ ∀ target, Steps p.tables e below (T'.setTop g') target → Steps p.tables e below (T.setTop g) target)
    (F : ∀ T' h', Wk p l e R s m args below meth c Z EL kn own T' h' ss cells slots → Wr h h' a sl v → Fi p e below s Z EL kc ks P T' g') : Fi p e below s Z EL kc ks P T g := by
  obtain ⟨vm0, locs, k0, X, eT, hZ, hSi, hk, hown, N, O, C, hss, hK⟩ := W
  obtain ⟨T', h', X', e', q, st⟩ := law X hZ hown
  have S0 := hS.safe hZ.alike hss
  have C2 := CHr.wr q S0 C.1
  exact (F T' h' ⟨vm0, _, k0, X', e', hZ, hSi, by rw [q.size]; exact hk, hown, Fr.snoc X' N hn, O.wr q hn, C.trans C2, fun x hx => ⟨by rw [q.size]; exact (hss x hx).1, Safe.wr q S0 C.1 (hss x hx).2⟩, hK⟩ q).step st
section Fields
variable {R0 O n d C : String} {index kk : Nat} {a : Addr} {v old : Value} {ty : FieldType}
theorem Wk.getF (W : Wk p l e R s m args below meth c Z EL kn own T h ss cells slots) (me : Me p meth c nm bytes maxL ret) (w : (Cond.fieldLink own index R0 n d).before a0 Z = true) (F : Fld Z h a O n d v) (via : Via Z R0 O n d) (hd : decode bytes pc = .ok (.getfield index, 3))
    (k : ∀ T', Wk p l e R s m args below meth c Z EL kn own T' h ss cells slots → Fi p e below s Z EL kc ks P T' (mkF m (pc + 3) Ls (v :: st))) : Fi p e below s Z EL kc ks P T (mkF m pc Ls (.ref a :: st)) :=
  W.quiet (fun X hZ hown => Jvm.RoadKit.getF X me.x hZ hown (host := "") (Or.inl w) via W.heap F rfl rfl (hb me.b hd)) k
theorem Wk.getS (W : Wk p l e R s m args below meth c Z EL kn own T h ss cells slots) (me : Me p meth c nm bytes maxL ret) (w : (Cond.fieldLink own index R0 n d).before a0 Z = true) (F : Sta Z Z.heap O n d v) (via : Via Z R0 O n d) (hd : decode bytes pc = .ok (.getstatic index, 3))
    (k : ∀ T', Wk p l e R s m args below meth c Z EL kn own T' h ss cells slots → Fi p e below s Z EL kc ks P T' (mkF m (pc + 3) Ls (v :: st))) : Fi p e below s Z EL kc ks P T (mkF m pc Ls st) :=
  W.quiet (fun X hZ hown => Jvm.RoadKit.getS X me.x hZ hown (host := "") w via W.heap (F.ext W.old.2) rfl (hb me.b hd)) k
theorem Wk.putF (W : Wk p l e R s m args below meth c Z EL kn own T h ss cells slots) (me : Me p meth c nm bytes maxL ret) (w : (Cond.fieldLink own index R0 n d).before a0 Z = true) (F : Fld Z h a O n d old) (via : Via Z R0 O n d) (E : Exa Z h a C)
    (L : (Cond.lays C O n d).before a0 Z = true ∨ ((Cond.laysFinal C O n d).before a0 Z = true ∧ own = O ∧ nm = "<init>")) (wi : (Cond.instantiable C kk).before a0 Z = true) (hty : parseFieldDescriptor d = some ty) (hn : narrow ty v = v) (hf : fits ty v = true) (hS : Sf Z h ss a) (hz : Z.heap.size ≤ a)
    (hd : decode bytes pc = .ok (.putfield index, 3))
    (k : ∀ T' h', Wk p l e R s m args below meth c Z EL kn own T' h' ss cells slots → Wr h h' a (Jvm.RoadKit.slotOf Z O n d) v → Fi p e below s Z EL kc ks P T' (mkF m (pc + 3) Ls st)) : Fi p e below s Z EL kc ks P T (mkF m pc Ls (v :: .ref a :: st)) :=
  W.writes hS hz (fun X hZ hown => Jvm.RoadKit.putF X me.x hZ hown (host := "") (Or.inl w) via W.heap F E (L.imp id fun q => ⟨q.1, q.2.1, me.n.trans q.2.2⟩) wi hty hn hf rfl rfl (hb me.b hd)) k
theorem Wk.newO (W : Wk p l e R s m args below meth c Z EL kn own T h ss cells slots) (me : Me p meth c nm bytes maxL ret) (w : (Cond.classLink own index C).before a0 Z = true) (wi : (Cond.instantiable C kk).before a0 Z = true) (wz : (Cond.initialized C).before a0 Z = true) (hd : decode bytes pc = .ok (.new index, 3)) (hc : cells + 1 ≤ R.cells) (hl : slots + kk ≤ R.slots)
    (k : ∀ T' h' a, @Eq Nat h.size a → Wk p l e R s m args below meth c Z EL kn own T' h' (a :: ss) (cells + 1) (slots + kk) → Ext h h' → Exa Z h' a C → (∀ {O nm d : String} {ty : FieldType}, Laid Z a0 C O nm d → parseFieldDescriptor d = some ty → Fld Z h' a O nm d (defaultValue ty)) → (∃ cell : Cell, h'[a]? = some cell ∧ cell.vm = .none ∧ cell.monitor = {}) →
      Fi p e below s Z EL kc ks P T' (mkF m (pc + 3) Ls (.ref a :: st))) : Fi p e below s Z EL kc ks P T (mkF m pc Ls st) :=
  W.grows (k := 1) (n := kk) (Q := fun _ h' => Exa Z h' h.size C ∧ (∀ {O nm d : String} {ty : FieldType}, Laid Z a0 C O nm d → parseFieldDescriptor d = some ty → Fld Z h' h.size O nm d (defaultValue ty)) ∧ (∃ cell : Cell, h'[h.size]? = some cell ∧ cell.vm = .none ∧ cell.monitor = {}))
    (fun X hZ hown => by
      obtain ⟨T', h', X', e', E, A, D, U, st⟩ := Jvm.RoadKit.newO X me.x hZ hown w wi wz W.heap (g := mkF m pc Ls st) rfl (hb me.b hd) hc hl
      exact ⟨T', h', X', e', E, A.lt, ⟨A, D, U⟩, st⟩)
    (fun T' h' W' E q => k T' h' h.size rfl W' E q.1 q.2.1 q.2.2)
end Fields
section Arrays
variable {a : Addr} {n j x : Int32} {ka : ClassId} {vs : List Value} {dv : Value}
theorem Wk.newA {aty : ArrayType} {cap : Nat} (W : Wk p l e R s m args below meth c Z EL kn own T h ss cells slots) (me : Me p meth c nm bytes maxL ret) (w : (Cond.arrayClass (newarray.typeOf aty)).before a0 Z = true) (hd : decode bytes pc = .ok (.newarray aty, 2)) (hn : ¬ n < 0) (hcap : n.toNatClampNeg ≤ cap) (hbig : cap * 8 ≤ 536870912) (hc : cells + 1 ≤ R.cells) (hl : slots + cap ≤ R.slots)
    (k : ∀ T' h' a ka, @Eq Nat h.size a → Wk p l e R s m args below meth c Z EL kn own T' h' (a :: ss) (cells + 1) (slots + cap) → Ext h h' → Arv Z h' a ka (newarray.typeOf aty) n [] (defaultValue (newarray.typeOf aty)) → Fi p e below s Z EL kc ks P T' (mkF m (pc + 2) Ls (.ref a :: st))) : Fi p e below s Z EL kc ks P T (mkF m pc Ls (.int n :: st)) :=
  W.grows (k := 1) (n := cap) (Q := fun _ h' => ∃ ka, Arv Z h' h.size ka (newarray.typeOf aty) n [] (defaultValue (newarray.typeOf aty)))
    (fun X hZ hown => by
      obtain ⟨T', h', cA, X', e', E, A, st⟩ := Jvm.RoadKit.newP X me.x hZ w W.heap (g := mkF m pc Ls (.int n :: st)) rfl (hb me.b hd) rfl hn hcap hbig hc hl
      exact ⟨T', h', X', e', E, A.lt, ⟨cA, Arv.new A hn⟩, st⟩)
    (fun T' h' W' E q => by obtain ⟨ka, A⟩ := q; exact k T' h' h.size ka rfl W' E A)
/-- castore at place i of an array whose places are told -/
theorem Wk.castore {i : Nat} (W : Wk p l e R s m args below meth c Z EL kn own T h ss cells slots) (me : Me p meth c nm bytes maxL ret) (A : Arv Z h a ka .char n vs dv) (hd : decode bytes pc = .ok (.castore, 1)) (hj : ¬ j < 0 ∧ j < n) (hi : j.toNatClampNeg = i) (hv : i < vs.length) (hz : Z.heap.size ≤ a)
    (k : ∀ T' h', Wk p l e R s m args below meth c Z EL kn own T' h' ss cells slots → Wr h h' a i (.int (nar .char x)) → Arv Z h' a ka .char n (vs.set i (.int (nar .char x))) dv → Fi p e below s Z EL kc ks P T' (mkF m (pc + 1) Ls st)) : Fi p e below s Z EL kc ks P T (mkF m pc Ls (.int x :: .int j :: .ref a :: st)) := by
  obtain ⟨cl, A1, q, S, M, H, U⟩ := A
  subst hi
  exact W.writes (Or.inr (Or.inr ⟨cl, .char, A1, by decide⟩)) hz (fun X hZ _ => Jvm.RoadKit.stC X me.x hZ W.heap A1 (inb_of S hj) rfl rfl (hb me.b hd))
    (fun T' h' W' q' => k T' h' W' q' (Arv.set A1 q S M H U (fits_nar_char _) q' _ rfl hv))
theorem Wk.bastore {i : Nat} (W : Wk p l e R s m args below meth c Z EL kn own T h ss cells slots) (me : Me p meth c nm bytes maxL ret) (A : Arv Z h a ka .byte n vs dv) (hd : decode bytes pc = .ok (.bastore, 1)) (hj : ¬ j < 0 ∧ j < n) (hi : j.toNatClampNeg = i) (hv : i < vs.length) (hS : a ∈ ss) (hz : Z.heap.size ≤ a)
    (k : ∀ T' h', Wk p l e R s m args below meth c Z EL kn own T' h' ss cells slots → Wr h h' a i (.int (nar .byte x)) → Arv Z h' a ka .byte n (vs.set i (.int (nar .byte x))) dv → Fi p e below s Z EL kc ks P T' (mkF m (pc + 1) Ls st)) : Fi p e below s Z EL kc ks P T (mkF m pc Ls (.int x :: .int j :: .ref a :: st)) := by
  obtain ⟨cl, A1, q, S, M, H, U⟩ := A
  subst hi
  exact W.writes (Or.inl hS) hz (fun X hZ _ => Jvm.RoadKit.stB X me.x hZ W.heap A1 (inb_of S hj) rfl rfl (hb me.b hd))
    (fun T' h' W' q' => k T' h' W' q' (Arv.set A1 q S M H U (fits_nar_byte _) q' _ rfl hv))
theorem Wk.caload {v : Value} (W : Wk p l e R s m args below meth c Z EL kn own T h ss cells slots) (me : Me p meth c nm bytes maxL ret) (A : Arv Z h a ka .char n vs dv) (hd : decode bytes pc = .ok (.caload, 1)) (hj : ¬ j < 0 ∧ j < n) (hv : vs.getD j.toNatClampNeg dv = v)
    (F : Fi p e below s Z EL kc ks P T (mkF m (pc + 1) Ls (v :: st))) : Fi p e below s Z EL kc ks P T (mkF m pc Ls (.int j :: .ref a :: st)) := by
  obtain ⟨cl, A1, q, S, M, H, U⟩ := A
  obtain ⟨vm0, locs, k0, X, eT, hZ, -⟩ := W
  exact F.step fun t F' => X.caload me.x (by rw [eT]; exact A1.1) (State.isArrayOf_alike (s := Z) (T := s.setVm vm0) hZ.alike A1.2.1) A1.2.2 (inb_of S hj) (H.at (inb_of S hj) hv) (g := mkF m pc Ls (.int j :: .ref a :: st)) rfl rfl (hb me.b hd) t F'
theorem Wk.baload {v : Value} (W : Wk p l e R s m args below meth c Z EL kn own T h ss cells slots) (me : Me p meth c nm bytes maxL ret) (A : Arv Z h a ka .byte n vs dv) (hd : decode bytes pc = .ok (.baload, 1)) (hj : ¬ j < 0 ∧ j < n) (hv : vs.getD j.toNatClampNeg dv = v)
    (F : Fi p e below s Z EL kc ks P T (mkF m (pc + 1) Ls (v :: st))) : Fi p e below s Z EL kc ks P T (mkF m pc Ls (.int j :: .ref a :: st)) := by
  obtain ⟨cl, A1, q, S, M, H, U⟩ := A
  obtain ⟨vm0, locs, k0, X, eT, hZ, -⟩ := W
  exact F.step fun t F' => X.baloadBytes me.x (by rw [eT]; exact A1.1) (State.isArrayOf_alike (s := Z) (T := s.setVm vm0) hZ.alike A1.2.1) A1.2.2 (inb_of S hj) (H.at (inb_of S hj) hv) (g := mkF m pc Ls (.int j :: .ref a :: st)) rfl rfl (hb me.b hd) t F'
theorem Wk.alen {ty : FieldType} (W : Wk p l e R s m args below meth c Z EL kn own T h ss cells slots) (me : Me p meth c nm bytes maxL ret) (A : Arv Z h a ka ty n vs dv) (hd : decode bytes pc = .ok (.arraylength, 1))
    (F : Fi p e below s Z EL kc ks P T (mkF m (pc + 1) Ls (.int n :: st))) : Fi p e below s Z EL kc ks P T (mkF m pc Ls (.ref a :: st)) := by
  obtain ⟨cl, A1, q, S, M, H, U⟩ := A
  obtain ⟨vm0, locs, k0, X, eT, hZ, -⟩ := W
  exact F.step fun t F' => X.arraylength me.x (by rw [eT]; exact A1.1) (State.isArrayOf_alike (s := Z) (T := s.setVm vm0) hZ.alike A1.2.1) (g := mkF m pc Ls (.ref a :: st)) rfl rfl (hb me.b hd) t (by rw [len_of S M]; exact F')
end Arrays
section Consts
variable {index : Nat}
theorem Wk.ldc2J {v : Int64} (W : Wk p l e R s m args below meth c Z EL kn own T h ss cells slots) (me : Me p meth c nm bytes maxL ret) (w : (Cond.constantLong own index v).before a0 Z = true) (hd : decode bytes pc = .ok (.ldc2_w index, 3))
    (F : Fi p e below s Z EL kc ks P T (mkF m (pc + 3) Ls (.long v :: st))) : Fi p e below s Z EL kc ks P T (mkF m pc Ls st) := by
  obtain ⟨vm0, locs, k0, X, eT, hZ, -, -, hown, -⟩ := W
  exact F.step fun t F' => X.ldc2Long me.x hown (mvT (s := s.setVm vm0) hZ w) (g := mkF m pc Ls st) rfl (hb me.b hd) t F'
theorem Wk.ldcI {v : Int32} (W : Wk p l e R s m args below meth c Z EL kn own T h ss cells slots) (me : Me p meth c nm bytes maxL ret) (w : (Cond.constant own index v).before a0 Z = true) (hd : decode bytes pc = .ok (.ldc index, 2))
    (F : Fi p e below s Z EL kc ks P T (mkF m (pc + 2) Ls (.int v :: st))) : Fi p e below s Z EL kc ks P T (mkF m pc Ls st) := by
  obtain ⟨vm0, locs, k0, X, eT, hZ, -, -, hown, -⟩ := W
  exact F.step fun t F' => X.ldcInt me.x hown (mvT (s := s.setVm vm0) hZ w) (g := mkF m pc Ls st) rfl (hb me.b hd) t F'
theorem Wk.cast {K : String} {a : Addr} (W : Wk p l e R s m args below meth c Z EL kn own T h ss cells slots) (me : Me p meth c nm bytes maxL ret) (w : (Cond.classLink own index K).before a0 Z = true) (I : Ins Z h a K true) (hd : decode bytes pc = .ok (.checkcast index, 3))
    (k : ∀ T', Wk p l e R s m args below meth c Z EL kn own T' h ss cells slots → Fi p e below s Z EL kc ks P T' (mkF m (pc + 3) Ls (.ref a :: st))) : Fi p e below s Z EL kc ks P T (mkF m pc Ls (.ref a :: st)) :=
  W.quiet (fun X hZ hown => Jvm.RoadKit.castY X me.x hZ hown w W.heap I rfl rfl (hb me.b hd)) k
theorem Wk.instY {K : String} {a : Addr} (W : Wk p l e R s m args below meth c Z EL kn own T h ss cells slots) (me : Me p meth c nm bytes maxL ret) (w : (Cond.classLink own index K).before a0 Z = true) (I : Ins Z h a K true) (hd : decode bytes pc = .ok (.instanceof index, 3))
    (k : ∀ T', Wk p l e R s m args below meth c Z EL kn own T' h ss cells slots → Fi p e below s Z EL kc ks P T' (mkF m (pc + 3) Ls (.int 1 :: st))) : Fi p e below s Z EL kc ks P T (mkF m pc Ls (.ref a :: st)) :=
  W.quiet (fun X hZ hown => Jvm.RoadKit.instY X me.x hZ hown w W.heap I rfl rfl (hb me.b hd)) k
theorem Wk.initO {a : Addr} (W : Wk p l e R s m args below meth c Z EL kn own T h ss cells slots) (me : Me p meth c nm bytes maxL ret) (w1 : (Cond.methodLink own index Lib.objectInit).before a0 Z = true) (w2 : (Cond.instanceMethod Lib.objectInit).before a0 Z = true) (w3 : (Cond.code Lib.objectInit ⟨#[0xb1]⟩ 1 none).before a0 Z = true)
    (hd : decode bytes pc = .ok (.invokespecial index, 3)) (hsz : Ls.size = maxL) (hf : 1 ≤ R.frames) (hl : (st.map fun v => v.category).sum + 12 ≤ R.locals)
    (k : ∀ T', Wk p l e R s m args below meth c Z EL kn own T' h ss cells slots → Fi p e below s Z EL kc ks P T' (mkF m (pc + 3) Ls st)) : Fi p e below s Z EL kc ks P T (mkF m pc Ls (.ref a :: st)) :=
  W.quiet (fun X hZ hown => Jvm.RoadKit.initO X me.x hZ hown w1 w2 w3 W.heap (g := mkF m pc Ls (.ref a :: st)) rfl (hsz.trans me.ml.symm) rfl (hb me.b hd) hf (W := (st.map fun v => v.category).sum) (by show 2 * 0 + _ ≤ _; omega) hl) k
/-- ldc of a String constant that is told, read -/
theorem Wk.ldcS {text : String} {vs : List Value} {z : Int32} {n : Nat} (W : Wk p l e R s m args below meth c Z EL kn own T h ss cells slots) (me : Me p meth c nm bytes maxL ret) (hEL : EW Z a0 EL) (hmem : (own, index) ∈ EL) (w : (Cond.stringLink own index text).before a0 Z = true) (wS : ∀ a ∈ Bundle.stringAtoms, a.before a0 Z = true)
    (ht : (∀ c ∈ text.toList, c.toNat < 256) ∧ text.toList.map (fun c => Value.int (Jvm.Lit.byteI c.toNat.toUInt16)) = vs) (hz : ¬ z < 0) (hl : z.toNatClampNeg = vs.length) (hd : decode bytes pc = .ok (.ldc index, 2)) (hn : 4 * text.toList.length ≤ n) (hbig : n ≤ 536870912) (hc : cells + 2 ≤ R.cells) (hl' : slots + (n + 4) ≤ R.slots)
    (k : ∀ T' h' a b ka, Wk p l e R s m args below meth c Z EL kn own T' h' ss (cells + 2) (slots + (n + 4)) → Ext h h' → Exa Z h' a "java/lang/String" → Fld Z h' a "java/lang/String" "coder" "B" (.int 0) → Fld Z h' a "java/lang/String" "value" "[B" (.ref b) → Arv Z h' b ka .byte z vs (.int 0) → (∀ x ∈ ss, x ≠ a ∧ x ≠ b) →
      Fi p e below s Z EL kc ks P T' (mkF m (pc + 2) Ls (.ref a :: st))) : Fi p e below s Z EL kc ks P T (mkF m pc Ls st) := by
  obtain ⟨vm0, locs, k0, X, eT, hZ, hS, hk, hown, N, O, C, hss, hK⟩ := W
  obtain ⟨a, T', h', k1, b, ka, X', e', E, hS2, hk2, hW, hf, EA, FC, FV, A, -, -, C2, -, hne, stp⟩ := ldcCH X me.x hZ hown w wS eT hS hk hEL hmem C.1 ht hz hl (g := mkF m pc Ls st) rfl (hb me.b hd) hn hbig hc hl'
  have hal : vm0.Alike T'.vm := by
    have q := State.Warmed39.alike hW
    exact (State.Warmed39.alike hZ).symm.trans q
  have ss2 : ∀ x ∈ ss, x < h'.size ∧ Safe Z EL T'.vm h' x := fun x hx => ⟨Nat.lt_of_lt_of_le (hss x hx).1 E.1, C2.safe (hss x hx).1 (hss x hx).2⟩
  refine (k T' h' a b ka ⟨T'.vm, locs, k1, X', e', hW, hS2, hk2, hf, N, O.ext E, C.trans C2, ss2, fun q => ⟨Vm.MethodsKnown.alikeC hal (hK q).1, Vm.FramesKnown.alikeC hal (hK q).2⟩⟩ E EA FC FV A (fun x hx => hne x (ss2 x hx).2)).step stp
end Consts
section Calls
variable {index : Nat} {y y' z : MethodName} {ybytes : ByteArray} {ymaxL : Nat} {yret : Option FieldType} {rm : Room} {ss' : List Addr} {rest : List Value}
theorem Wk.callS {argsL : List Value} {Q : Option Value → Heap → (Addr → Prop) → Prop} (W : Wk p l e R s m args below meth c Z EL kn own T h ss cells slots) (me : Me p meth c nm bytes maxL ret) (hEL : EW Z a0 EL) (w1 : (Cond.methodLink own index y).before a0 Z = true) (w2 : (Cond.static y).before a0 Z = true) (w3 : (Cond.initialized y.cls).before a0 Z = true) (w4 : (Cond.code y ybytes ymaxL yret).before a0 Z = true)
    (hM : Con l Z EL kn [] y ybytes ymaxL yret rm argsL.toArray h ss' Q) (hd : decode bytes pc = .ok (.invokestatic index, 3)) (hy : y.cls ≠ "java/lang/invoke/MethodHandle" ∧ y.cls ≠ "java/lang/invoke/VarHandle") (hss : ∀ x ∈ ss', x ∈ ss) (hsz : Ls.size = maxL) (hlen : ∀ sig, parseMethodDescriptor y.desc = some sig → argsL.length = sig.parameters.length)
    (hf : rm.frames + 1 ≤ R.frames) (hl : (rest.map fun v => v.category).sum + (ymaxL + 11) + rm.locals ≤ R.locals) (hc : cells + rm.cells ≤ R.cells) (hs : slots + rm.slots ≤ R.slots) {stk : List Value} (hstk : stk = argsL.reverse ++ rest)
    (k : ∀ T' h' v, Wk p l e R s m args below meth c Z EL kn own T' h' ss (cells + rm.cells) (slots + rm.slots) → h.size ≤ h'.size → (∃ sf : Addr → Prop, (∀ xs : List Addr, (∀ x ∈ xs, sf x) → Wk p l e R s m args below meth c Z EL kn own T' h' (xs ++ ss) (cells + rm.cells) (slots + rm.slots)) ∧ Q v h' sf) → Fi p e below s Z EL kc ks P T' (mkF m (pc + 3) Ls (v.toList ++ rest))) : Fi p e below s Z EL kc ks P T (mkF m pc Ls stk) := by
  obtain ⟨vm0, locs, k0, X, eT, hZ, hS, hk, hown, N, O, C, hsf, hK⟩ := W
  subst hstk
  obtain ⟨v, vm1, B, hW1, X', hS2, hg, ⟨L, ⟨hq, NL, OB⟩, e1, e2, e3, C2⟩, stp⟩ := callSS X me.x hown (mvT (s := s.setVm vm0) hZ w1) (mvT (s := s.setVm vm0) hZ w2) (mvT (s := s.setVm vm0) hZ w3) (mvT (s := s.setVm vm0) hZ w4) hy
    (Con.back (Wt := (rest.map fun v => v.category).sum) hM hZ w4 w3 hf hl hEL C.1 (fun x hx => hsf x (hss x hx)) hK) (g := mkF m pc Ls (argsL.reverse ++ rest)) rfl (hsz.trans me.ml.symm) hlen rfl (by show 2 * 0 + _ ≤ _; omega) (hb me.b hd) (fun _ _ => ⟨rfl, eT, hc, hs⟩)
  have hg' : h.size ≤ B.U.heap.size := by rw [← eT]; exact hg
  have WB := Wk.behind X' hZ hS hk hown N C hsf hK hS2 hg' NL OB e1 e2 e3 C2
  exact (k B.U B.U.heap v (WB [] (fun _ q => nomatch q)) hg' ⟨_, WB, hq⟩).step fun t F => stp.trans F
theorem Wk.callI {argsL : List Value} {a : Addr} {Q : Option Value → Heap → (Addr → Prop) → Prop} (W : Wk p l e R s m args below meth c Z EL kn own T h ss cells slots) (me : Me p meth c nm bytes maxL ret) (hEL : EW Z a0 EL) (w1 : (Cond.methodLink own index y).before a0 Z = true) (w2 : (Cond.instanceMethod y).before a0 Z = true) (w3 : (Cond.initialized y.cls).before a0 Z = true) (w4 : (Cond.code y ybytes ymaxL none).before a0 Z = true) (hy1 : y.name = "<init>")
    (hM : Con l Z EL kn [] y ybytes ymaxL none rm (.ref a :: argsL).toArray h ss' Q) (hd : decode bytes pc = .ok (.invokespecial index, 3)) (hy : y.cls ≠ "java/lang/invoke/MethodHandle" ∧ y.cls ≠ "java/lang/invoke/VarHandle") (hss : ∀ x ∈ ss', x ∈ ss) (hsz : Ls.size = maxL) (hlen : ∀ sig, parseMethodDescriptor y.desc = some sig → argsL.length = sig.parameters.length)
    (hf : rm.frames + 1 ≤ R.frames) (hl : (rest.map fun v => v.category).sum + (ymaxL + 11) + rm.locals ≤ R.locals) (hc : cells + rm.cells ≤ R.cells) (hs : slots + rm.slots ≤ R.slots) {stk : List Value} (hstk : stk = argsL.reverse ++ .ref a :: rest)
    (k : ∀ T' h' v, Wk p l e R s m args below meth c Z EL kn own T' h' ss (cells + rm.cells) (slots + rm.slots) → h.size ≤ h'.size → (∃ sf : Addr → Prop, (∀ xs : List Addr, (∀ x ∈ xs, sf x) → Wk p l e R s m args below meth c Z EL kn own T' h' (xs ++ ss) (cells + rm.cells) (slots + rm.slots)) ∧ Q v h' sf) → Fi p e below s Z EL kc ks P T' (mkF m (pc + 3) Ls (v.toList ++ rest))) : Fi p e below s Z EL kc ks P T (mkF m pc Ls stk) := by
  obtain ⟨vm0, locs, k0, X, eT, hZ, hS, hk, hown, N, O, C, hsf, hK⟩ := W
  subst hstk
  obtain ⟨v, vm1, B, hW1, X', hS2, hg, ⟨L, ⟨hq, NL, OB⟩, e1, e2, e3, C2⟩, stp⟩ := X.specialBackS me.x hy1 hown (mvT (s := s.setVm vm0) hZ w1) (mvT (s := s.setVm vm0) hZ w2) (mvT (s := s.setVm vm0) hZ w4) hy
    (Con.back (Wt := (rest.map fun v => v.category).sum) hM hZ w4 w3 hf hl hEL C.1 (fun x hx => hsf x (hss x hx)) hK) (g := mkF m pc Ls (argsL.reverse ++ .ref a :: rest)) rfl (hsz.trans me.ml.symm) (Steps.refl _) hlen rfl (by show 2 * 0 + _ ≤ _; omega) (hb me.b hd) (fun _ _ => ⟨rfl, eT, hc, hs⟩)
  have hg' : h.size ≤ B.U.heap.size := by rw [← eT]; exact hg
  have WB := Wk.behind X' hZ hS hk hown N C hsf hK hS2 hg' NL OB e1 e2 e3 C2
  exact (k B.U B.U.heap v (WB [] (fun _ q => nomatch q)) hg' ⟨_, WB, hq⟩).step fun t F => stp.trans F
theorem Wk.callV {argsL : List Value} {a : Addr} {CC : String} {Q : Option Value → Heap → (Addr → Prop) → Prop} (W : Wk p l e R s m args below meth c Z EL kn own T h ss cells slots) (me : Me p meth c nm bytes maxL ret) (hEL : EW Z a0 EL) (w1 : (Cond.methodLink own index y).before a0 Z = true) (w2 : (Cond.declares y).before a0 Z = true) (hnf : ∀ {vm0 : Vm}, Z.Warmed39 vm0 → NotFace (s.setVm vm0) y) (w3 : (Cond.selects CC y z).before a0 Z = true) (w4 : (Cond.instanceMethod z).before a0 Z = true) (w5 : (Cond.initialized z.cls).before a0 Z = true) (w6 : (Cond.code z ybytes ymaxL yret).before a0 Z = true)
    (E : Exa Z h a CC) (hM : Con l Z EL kn [] z ybytes ymaxL yret rm (.ref a :: argsL).toArray h ss' Q) (hd : decode bytes pc = .ok (.invokevirtual index, 3)) (hy : y.cls ≠ "java/lang/invoke/MethodHandle" ∧ y.cls ≠ "java/lang/invoke/VarHandle") (hss : ∀ x ∈ ss', x ∈ ss) (hsz : Ls.size = maxL) (hlen : ∀ sig, parseMethodDescriptor y.desc = some sig → argsL.length = sig.parameters.length)
    (hf : rm.frames + 1 ≤ R.frames) (hl : (rest.map fun v => v.category).sum + (ymaxL + 11) + rm.locals ≤ R.locals) (hc : cells + rm.cells ≤ R.cells) (hs : slots + rm.slots ≤ R.slots) {stk : List Value} (hstk : stk = argsL.reverse ++ .ref a :: rest)
    (k : ∀ T' h' v, Wk p l e R s m args below meth c Z EL kn own T' h' ss (cells + rm.cells) (slots + rm.slots) → h.size ≤ h'.size → (∃ sf : Addr → Prop, (∀ xs : List Addr, (∀ x ∈ xs, sf x) → Wk p l e R s m args below meth c Z EL kn own T' h' (xs ++ ss) (cells + rm.cells) (slots + rm.slots)) ∧ Q v h' sf) → Fi p e below s Z EL kc ks P T' (mkF m (pc + 3) Ls (v.toList ++ rest))) : Fi p e below s Z EL kc ks P T (mkF m pc Ls stk) := by
  obtain ⟨vm0, locs, k0, X, eT, hZ, hS, hk, hown, N, O, C, hsf, hK⟩ := W
  subst hstk
  obtain ⟨cB, kB, qa, qb, qc⟩ := isOf (s := s.setVm vm0) (T := T) hZ eT E
  obtain ⟨v, vm1, B, hW1, X', hS2, hg, ⟨L, ⟨hq, NL, OB⟩, e1, e2, e3, C2⟩, stp⟩ := X.virtualBackS me.x hown (mvT (s := s.setVm vm0) hZ w1) (mvT (s := s.setVm vm0) hZ w2) (hnf hZ) (mvT (s := s.setVm vm0) hZ w3) (mvT (s := s.setVm vm0) hZ w4) hy
    (Con.back (Wt := (rest.map fun v => v.category).sum) hM hZ w6 w5 hf hl hEL C.1 (fun x hx => hsf x (hss x hx)) hK) qa qc (g := mkF m pc Ls (argsL.reverse ++ .ref a :: rest)) rfl (hsz.trans me.ml.symm) (Steps.refl _) hlen rfl (by show 2 * 0 + _ ≤ _; omega) (hb me.b hd) (fun _ _ => ⟨rfl, eT, hc, hs⟩)
  have hg' : h.size ≤ B.U.heap.size := by rw [← eT]; exact hg
  have WB := Wk.behind X' hZ hS hk hown N C hsf hK hS2 hg' NL OB e1 e2 e3 C2
  exact (k B.U B.U.heap v (WB [] (fun _ q => nomatch q)) hg' ⟨_, WB, hq⟩).step fun t F => stp.trans F
theorem Wk.callF {argsL : List Value} {a : Addr} {CC : String} {count : Nat} {Q : Option Value → Heap → (Addr → Prop) → Prop} (W : Wk p l e R s m args below meth c Z EL kn own T h ss cells slots) (me : Me p meth c nm bytes maxL ret) (hEL : EW Z a0 EL) (w1 : (Cond.methodLink own index y).before a0 Z = true) (w2 : (Cond.declares y).before a0 Z = true) (w2' : (Cond.interfaceMethod y.cls y.cls y.name y.desc).before a0 Z = true) (hi' : ((Cond.interfaceMethod y.cls y.cls y.name y.desc).onTables && (Cond.interfaceMethod y.cls y.cls y.name y.desc).keepsFace) = true) (w3 : (Cond.selects CC y z).before a0 Z = true) (w4 : (Cond.instanceMethod z).before a0 Z = true) (w4' : (Cond.publicMethod z).before a0 Z = true) (w4u : (Cond.unhidden CC y.name y.desc).before a0 Z = true) (w4c : (Cond.castable CC y.cls).before a0 Z = true) (w5 : (Cond.initialized z.cls).before a0 Z = true) (w6 : (Cond.code z ybytes ymaxL yret).before a0 Z = true)
    (E : Exa Z h a CC) (hM : Con l Z EL kn [] z ybytes ymaxL yret rm (.ref a :: argsL).toArray h ss' Q) (hd : decode bytes pc = .ok (.invokeinterface index count, 5)) (hy : y.cls ≠ "java/lang/invoke/MethodHandle" ∧ y.cls ≠ "java/lang/invoke/VarHandle") (hss : ∀ x ∈ ss', x ∈ ss) (hsz : Ls.size = maxL) (hlen : ∀ sig, parseMethodDescriptor y.desc = some sig → argsL.length = sig.parameters.length)
    (hf : rm.frames + 1 ≤ R.frames) (hl : (rest.map fun v => v.category).sum + (ymaxL + 11) + rm.locals ≤ R.locals) (hc : cells + rm.cells ≤ R.cells) (hs : slots + rm.slots ≤ R.slots) {stk : List Value} (hstk : stk = argsL.reverse ++ .ref a :: rest)
    (k : ∀ T' h' v, Wk p l e R s m args below meth c Z EL kn own T' h' ss (cells + rm.cells) (slots + rm.slots) → h.size ≤ h'.size → (∃ sf : Addr → Prop, (∀ xs : List Addr, (∀ x ∈ xs, sf x) → Wk p l e R s m args below meth c Z EL kn own T' h' (xs ++ ss) (cells + rm.cells) (slots + rm.slots)) ∧ Q v h' sf) → Fi p e below s Z EL kc ks P T' (mkF m (pc + 5) Ls (v.toList ++ rest))) : Fi p e below s Z EL kc ks P T (mkF m pc Ls stk) := by
  obtain ⟨vm0, locs, k0, X, eT, hZ, hS, hk, hown, N, O, C, hsf, hK⟩ := W
  subst hstk
  obtain ⟨cB, kB, qa, qb, qc⟩ := isOf (s := s.setVm vm0) (T := T) hZ eT E
  obtain ⟨v, vm1, B, hW1, X', hS2, hg, ⟨L, ⟨hq, NL, OB⟩, e1, e2, e3, C2⟩, stp⟩ := X.interfaceBackS me.x hown (mvT (s := s.setVm vm0) hZ w1) (mvT (s := s.setVm vm0) hZ w2) (mvT (s := s.setVm vm0) hZ w2' hi') (mvT (s := s.setVm vm0) hZ w3) (mvT (s := s.setVm vm0) hZ w4) (mvT (s := s.setVm vm0) hZ w4') (mvT (s := s.setVm vm0) hZ w4u) (mvT (s := s.setVm vm0) hZ w4c) hy
    (Con.back (Wt := (rest.map fun v => v.category).sum) hM hZ w6 w5 hf hl hEL C.1 (fun x hx => hsf x (hss x hx)) hK) qa qb qc (g := mkF m pc Ls (argsL.reverse ++ .ref a :: rest)) rfl (hsz.trans me.ml.symm) (Steps.refl _) hlen rfl (by show 2 * 0 + _ ≤ _; omega) (hb me.b hd) (fun _ _ => ⟨rfl, eT, hc, hs⟩)
  have hg' : h.size ≤ B.U.heap.size := by rw [← eT]; exact hg
  have WB := Wk.behind X' hZ hS hk hown N C hsf hK hS2 hg' NL OB e1 e2 e3 C2
  exact (k B.U B.U.heap v (WB [] (fun _ q => nomatch q)) hg' ⟨_, WB, hq⟩).step fun t F => stp.trans F
end Calls
end Steps3
end Jvm.OwnKit
namespace Jvm.OwnKit
open Jvm Jvm.ClassFile Sem Op Lib Jvm.Free Jvm.Stand Jvm.LawKit Jvm.RoadKit Bundle
section Nums
theorem on_int {i : Nat} (h : i < 2 ^ 31) : (Int32.ofNat i).toInt = (i : Int) := Int32.toInt_ofNat_small h
theorem on_clamp {i : Nat} (h : i < 2 ^ 31) : (Int32.ofNat i).toNatClampNeg = i := Int32.toNatClampNeg_ofNat_of_lt h
theorem on_lt {i n : Nat} (h : i < n) (hn : n < 2 ^ 31) : Int32.ofNat i < Int32.ofNat n := by
  rw [Int32.lt_iff_toInt_lt, on_int (by omega), on_int hn]; omega
theorem on_nlt {i n : Nat} (h : n ≤ i) (hi : i < 2 ^ 31) : ¬ Int32.ofNat i < Int32.ofNat n := by
  rw [Int32.lt_iff_toInt_lt, on_int hi, on_int (by omega)]; omega
theorem on_nneg {i : Nat} (hi : i < 2 ^ 31) : ¬ Int32.ofNat i < 0 := by
  rw [Int32.lt_iff_toInt_lt, on_int hi, Int32.toInt_zero]; omega
theorem on_in {i n : Nat} (h : i < n) (hn : n < 2 ^ 31) : ¬ Int32.ofNat i < 0 ∧ Int32.ofNat i < Int32.ofNat n := ⟨on_nneg (by omega), on_lt h hn⟩
theorem on_inj {i n : Nat} (hi : i < 2 ^ 31) (hn : n < 2 ^ 31) : Int32.ofNat i = Int32.ofNat n ↔ i = n := by
  rw [← Int32.toInt_inj, on_int hi, on_int hn]; omega
theorem on_add (i j : Nat) : Int32.ofNat i + Int32.ofNat j = Int32.ofNat (i + j) := (Int32.ofNat_add i j).symm
theorem on_succ (i : Nat) : Int32.ofNat i + 1 = Int32.ofNat (i + 1) := (inc_ofNat i).symm
theorem on_sub {i j : Nat} (h : j ≤ i) : Int32.ofNat i - Int32.ofNat j = Int32.ofNat (i - j) := by
  have e := on_add (i - j) j
  rw [Nat.sub_add_cancel h] at e
  rw [← e, Int32.add_sub_cancel]
theorem nar_char_of {x : Int32} (h : ¬ x < 0 ∧ ¬ (65535 : Int32) < x) : nar .char x = x := by
  have q := c_i2c x
  have h1 := h.1; have h2 := h.2
  rw [Int32.lt_iff_toInt_lt] at h1 h2
  have e : (65535 : Int32).toInt = 65535 := rfl
  rw [Int32.toInt_zero] at h1
  rw [e] at h2
  show x.toUInt32.toUInt16.toUInt32.toInt32 = x
  rw [← Int32.toInt_inj]
  have := q.1; have := q.2.1; have := q.2.2
  omega
theorem nar_byte_idem (x : Int32) : nar .byte x.toInt8.toInt32 = x.toInt8.toInt32 := by
  show x.toInt8.toInt32.toInt8.toInt32 = _
  simp
/-- a char below 256: its byte read back -/
theorem byte_back {x : Int32} (h : ¬ x < 0 ∧ ¬ (255 : Int32) < x) : x.toInt8.toInt32 &&& 255 = x := by
  have h1 := h.1; have h2 := h.2
  rw [Int32.lt_iff_toInt_lt] at h1 h2
  have e : (255 : Int32).toInt = 255 := rfl
  rw [Int32.toInt_zero] at h1
  rw [e] at h2
  rw [← Int32.toInt_inj, c_mask _ _ 8 (by omega) (by decide)]
  have := c_i2b x
  omega
theorem up16 {x : Int32} (h : ¬ x < 0 ∧ ¬ (255 : Int32) < x) : ¬ x < 0 ∧ ¬ (65535 : Int32) < x := ⟨h.1, fun q => h.2 (by
  rw [Int32.lt_iff_toInt_lt] at q ⊢
  have e1 : (65535 : Int32).toInt = 65535 := rfl
  have e2 : (255 : Int32).toInt = 255 := rfl
  omega)⟩
/-- (char) (x & 255) -/
theorem c255 (x : Int32) : ¬ (x &&& (255 : Int32)).toUInt32.toUInt16.toUInt32.toInt32 < 0 ∧ ¬ (255 : Int32) < (x &&& (255 : Int32)).toUInt32.toUInt16.toUInt32.toInt32 := by
  rw [i2c_mask]
  have q := c_mask x 255 8 (by omega) (by decide)
  have e : (255 : Int32).toInt = 255 := rfl
  rw [Int32.lt_iff_toInt_lt, Int32.lt_iff_toInt_lt, Int32.toInt_zero, e, q]
  omega
end Nums
section Kit4
variable {p : Program} {l : Launch} {e : Env} {R : Room} {s : State} {m : MethodId} {args : Array Value} {below : List Frame} {meth : Method} {c : Code} {Z : State} {a0 : Array Value} {EL : List (String × Nat)} {kn : Bool} {own : String}
  {T : State} {h h' h2 : Heap} {ss : List Addr} {cells slots : Nat} {nm : String} {bytes : ByteArray} {maxL : Nat} {ret : Option FieldType} {kc ks : Nat} {P : Option Value → Heap → (Addr → Prop) → Prop} {pc : Nat} {Ls : Array Slot} {st : List Value}
  {a : Addr} {n j x : Int32} {ka : ClassId} {vs : List Value} {dv : Value}
theorem Fi.entry {L : Array Slot} {as' : Array Value} (q : entryFrame m as' maxL = mkF m 0 L []) (F : Fi p e below s Z EL kc ks P T (mkF m 0 L [])) : Fi p e below s Z EL kc ks P T (entryFrame m as' maxL) := q ▸ F
theorem set_push (vs : List Value) (dv v : Value) {i : Nat} (hi : vs.length = i) : (vs ++ List.replicate 1 dv).set i v = vs ++ [v] := by subst hi; simp
/-- castore behind the last place told -/
theorem Wk.castoreP {i : Nat} (W : Wk p l e R s m args below meth c Z EL kn own T h ss cells slots) (me : Me p meth c nm bytes maxL ret) (A : Arv Z h a ka .char n vs dv) (hx : ¬ x < 0 ∧ ¬ (65535 : Int32) < x) (hd : decode bytes pc = .ok (.castore, 1)) (hv : vs.length = i) (hi : j.toNatClampNeg = i) (hj : ¬ j < 0 ∧ j < n) (hz : Z.heap.size ≤ a)
    (k : ∀ T' h', Wk p l e R s m args below meth c Z EL kn own T' h' ss cells slots → Wr h h' a i (.int x) → Arv Z h' a ka .char n (vs ++ [.int x]) dv → Fi p e below s Z EL kc ks P T' (mkF m (pc + 1) Ls st)) : Fi p e below s Z EL kc ks P T (mkF m pc Ls (.int x :: .int j :: .ref a :: st)) :=
  W.castore me (A.pad (pad_rep vs dv 1)) hd hj hi (by simp [← hv]) hz (fun T' h' W' q A' => by
    rw [nar_char_of hx] at q A'
    rw [set_push _ _ _ hv] at A'
    exact k T' h' W' q A')
theorem Wk.bastoreP {i : Nat} (W : Wk p l e R s m args below meth c Z EL kn own T h ss cells slots) (me : Me p meth c nm bytes maxL ret) (A : Arv Z h a ka .byte n vs dv) (hx : nar .byte x = x) (hd : decode bytes pc = .ok (.bastore, 1)) (hv : vs.length = i) (hi : j.toNatClampNeg = i) (hj : ¬ j < 0 ∧ j < n) (hS : a ∈ ss) (hz : Z.heap.size ≤ a)
    (k : ∀ T' h', Wk p l e R s m args below meth c Z EL kn own T' h' ss cells slots → Wr h h' a i (.int x) → Arv Z h' a ka .byte n (vs ++ [.int x]) dv → Fi p e below s Z EL kc ks P T' (mkF m (pc + 1) Ls st)) : Fi p e below s Z EL kc ks P T (mkF m pc Ls (.int x :: .int j :: .ref a :: st)) :=
  W.bastore me (A.pad (pad_rep vs dv 1)) hd hj hi (by simp [← hv]) hS hz (fun T' h' W' q A' => by
    rw [hx] at q A'
    rw [set_push _ _ _ hv] at A'
    exact k T' h' W' q A')
/-- what a Latin-1 String's byte[] holds -/
def lb (cs : List Int32) : List Value := cs.map fun c => Value.int c.toInt8.toInt32
/-- every sign below 256 -/
def C8 (cs : List Int32) : Prop := ∀ c ∈ cs, ¬ c < 0 ∧ ¬ (255 : Int32) < c
/-- a String of signs below 256 -/
def Lat (Z : State) (h : Heap) (a : Addr) (cs : List Int32) : Prop :=
  ∃ (b : Addr) (k : ClassId), Exa Z h a "java/lang/String" ∧ Fld Z h a "java/lang/String" "coder" "B" (.int 0) ∧ Fld Z h a "java/lang/String" "value" "[B" (.ref b) ∧ Arv Z h b k .byte (Int32.ofNat cs.length) (lb cs) (.int 0) ∧ cs.length < 2 ^ 20 ∧ C8 cs
theorem Lat.ext {cs : List Int32} (E : Ext h h') (S : Lat Z h a cs) : Lat Z h' a cs := by
  obtain ⟨b, k, h1, h2, h3, h4, h5⟩ := S; exact ⟨b, k, h1.ext E, h2.ext E, h3.ext E, h4.ext E, h5⟩
theorem lb_len (cs : List Int32) : (lb cs).length = cs.length := by simp [lb]
theorem lb_get {cs : List Int32} {i : Nat} (hi : i < cs.length) : (lb cs).getD i (.int 0) = .int (cs.getD i 0).toInt8.toInt32 := by
  simp [lb, List.getD_eq_getElem?_getD, hi]
theorem ci_get {cs : List Int32} {i : Nat} {dv : Value} (hi : i < cs.length) : (cs.map Value.int).getD i dv = .int (cs.getD i 0) := by
  simp [List.getD_eq_getElem?_getD, hi]
theorem C8.at {cs : List Int32} (q : C8 cs) {i : Nat} (hi : i < cs.length) : ¬ cs.getD i 0 < 0 ∧ ¬ (255 : Int32) < cs.getD i 0 := by
  have : cs.getD i 0 = cs[i] := by simp [List.getD_eq_getElem?_getD, hi]
  rw [this]; exact q _ (List.getElem_mem hi)
theorem lb_take_succ {cs : List Int32} {i : Nat} (hi : i < cs.length) : lb (cs.take i) ++ [.int (cs.getD i 0).toInt8.toInt32] = lb (cs.take (i + 1)) := by
  have e : cs.take (i + 1) = cs.take i ++ [cs.getD i 0] := by rw [List.take_add_one]; simp [List.getD_eq_getElem?_getD, hi]
  rw [e]
  show _ = List.map _ (_ ++ [_])
  rw [List.map_append]
  rfl
theorem C8.nil : C8 [] := fun _ q => nomatch q
theorem C8.cons {c : Int32} {cs : List Int32} (q : ¬ c < 0 ∧ ¬ (255 : Int32) < c) (r : C8 cs) : C8 (c :: cs) := fun x hx => by
  rcases List.mem_cons.mp hx with rfl | hx
  · exact q
  · exact r x hx
end Kit4
end Jvm.OwnKit
namespace Jvm.OwnKit
open Jvm Jvm.ClassFile Sem Op Lib Jvm.Free Jvm.Stand Jvm.LawKit Jvm.RoadKit Bundle
section Kit5
variable {p : Program} {l : Launch} {e : Env} {R : Room} {s : State} {m : MethodId} {args : Array Value} {below : List Frame} {meth : Method} {c : Code} {Z : State} {a0 : Array Value} {EL : List (String × Nat)} {kn : Bool} {own : String}
  {T : State} {h h' h2 : Heap} {ss : List Addr} {cells slots : Nat} {nm : String} {bytes : ByteArray} {maxL : Nat} {ret : Option FieldType} {kc ks : Nat} {P : Option Value → Heap → (Addr → Prop) → Prop} {pc : Nat} {Ls : Array Slot} {st : List Value}
theorem own_nfw : nativeFrameWords "java/lang/System" "arraycopy" 5 = 7 := by decide
theorem Wk.keeps {g g' : JFrame} {ws : List Addr} {Q : Heap → Prop} (W : Wk p l e R s m args below meth c Z EL kn own T h ss cells slots) (hS : ∀ x ∈ ws, Sf Z h ss x) (hn : ∀ x ∈ ws, Z.heap.size ≤ x)
    (law : ∀ {vm0 : Vm} {locs : List Loc}, Stand p l e R (s.setVm vm0) m args below meth c T locs cells slots → Z.Warmed39 vm0 → vm0.findClass own = some m.cls → Fr Z.heap.size locs → ∃ T' h' L, Stand p l e R (s.setVm vm0) m args below meth c T' L cells slots ∧ T'.heap = h' ∧ Fr Z.heap.size L ∧ Keep h h' ws ∧ Q h' ∧ ∀ target, Steps p.tables e below (T'.setTop g') target → Steps p.tables e below (T.setTop g) target)
    (F : ∀ T' h', Wk p l e R s m args below meth c Z EL kn own T' h' ss cells slots → Keep h h' ws → Q h' → Fi p e below s Z EL kc ks P T' g') : Fi p e below s Z EL kc ks P T g := by
  obtain ⟨vm0, locs, k0, X, eT, hZ, hSi, hk, hown, N, O, C, hss, hK⟩ := W
  obtain ⟨T', h', L, X', e', N', K, q, st⟩ := law X hZ hown N
  have S0 : ∀ x ∈ ws, Safe Z EL vm0 h x := fun x hx => (hS x hx).safe hZ.alike hss
  have C2 := CHr.keep K S0 C.1
  exact (F T' h' ⟨vm0, L, k0, X', e', hZ, hSi, Nat.le_trans hk K.1, hown, N', O.keep K hn, C.trans C2, fun x hx => ⟨Nat.lt_of_lt_of_le (hss x hx).1 K.1, Safe.keep K S0 C.1 (hss x hx).2⟩, hK⟩ K q).step st
/-- System.arraycopy between two byte[]s, the places told -/
theorem Wk.acopy {index : Nat} {a b : Addr} {k k' : ClassId} {z z' sp dp nn : Int32} {vs vd us : List Value} {dv dd : Value} {ty : FieldType} (W : Wk p l e R s m args below meth c Z EL kn own T h ss cells slots) (me : Me p meth c nm bytes maxL ret)
    (w1 : (Cond.methodLink own index Jvm.Stand.acN).before a0 Z = true) (w2 : (Cond.native Jvm.Stand.acN).before a0 Z = true) (w3 : (Cond.static Jvm.Stand.acN).before a0 Z = true) (w4 : (Cond.initialized "java/lang/System").before a0 Z = true)
    (A : Arv Z h a k ty z vs dv) (B : Arv Z h b k' ty z' vd dd) (hty : refKind ty = false) (hS : Sf Z h ss b) (hz : Z.heap.size ≤ b)
    (h1 : ¬ sp < 0) (h2 : ¬ dp < 0) (h3 : ¬ nn < 0) (h4 : sp.toNatClampNeg + nn.toNatClampNeg ≤ z.toNatClampNeg) (h5 : dp.toNatClampNeg + nn.toNatClampNeg ≤ z'.toNatClampNeg)
    (hus : us = (List.range nn.toNatClampNeg).map fun i => vs.getD (sp.toNatClampNeg + i) dv) (hl : dp.toNatClampNeg + nn.toNatClampNeg ≤ vd.length) (hd : decode bytes pc = .ok (.invokestatic index, 3)) (hsz : Ls.size = maxL) (hf : 1 ≤ R.frames) (hlo : (st.map fun v => v.category).sum + 18 ≤ R.locals)
    (F : ∀ T' h', Wk p l e R s m args below meth c Z EL kn own T' h' ss cells slots → Keep h h' [b] → Arv Z h' b k' ty z' (vd.take dp.toNatClampNeg ++ us ++ vd.drop (dp.toNatClampNeg + nn.toNatClampNeg)) dd → Fi p e below s Z EL kc ks P T' (mkF m (pc + 3) Ls st)) :
    Fi p e below s Z EL kc ks P T (mkF m pc Ls (.int nn :: .int dp :: .ref b :: .int sp :: .ref a :: st)) :=
  W.keeps (ws := [b]) (Q := fun h' => Arv Z h' b k' ty z' (vd.take dp.toNatClampNeg ++ us ++ vd.drop (dp.toNatClampNeg + nn.toNatClampNeg)) dd) (allS hS all0) (allS hz all0)
    (fun X hZ hown N => by
      obtain ⟨T', h', L, X', e', N', K, q, st'⟩ := cpA X me.x hZ hown w1 w2 w3 w4 W.heap A B (Or.inl ⟨rfl, hty⟩) h1 h2 h3 h4 h5 hus hl N hz (g := mkF m pc Ls (.int nn :: .int dp :: .ref b :: .int sp :: .ref a :: st)) rfl (hsz.trans me.ml.symm) rfl (hb me.b hd) hf (W := (st.map fun v => v.category).sum) (by show 2 * 0 + _ ≤ _; omega) (by rw [own_nfw]; exact hlo)
      exact ⟨T', h', L, X', e', N', K, q, st'⟩)
    F
theorem own_fill {a : Addr} {k : ClassId} {ty : FieldType} {z : Int32} {dv : Value} (A : Arv Z h a k ty z [] dv) (n : Nat) : Arv Z h a k ty z (List.replicate n dv) dv := A.pad (pad_rep [] dv n)
/-- the signs from f on, n of them -/
def sub (cs : List Int32) (f n : Nat) : List Int32 := (cs.drop f).take n
theorem sub_len {cs : List Int32} {f n : Nat} (q : f + n ≤ cs.length) : (sub cs f n).length = n := by simp [sub]; omega
theorem sub_all (cs : List Int32) : sub cs 0 cs.length = cs := by simp [sub]
theorem sub_nil (cs : List Int32) (f : Nat) : sub cs f 0 = [] := by simp [sub]
theorem sub_get {cs : List Int32} {f n i : Nat} (hi : i < n) : (sub cs f n).getD i 0 = cs.getD (f + i) 0 := by
  simp [sub, List.getD_eq_getElem?_getD, List.getElem?_take, hi]
theorem C8.sub {cs : List Int32} (q : C8 cs) (f n : Nat) : C8 (Jvm.OwnKit.sub cs f n) := fun c hc => q c (List.mem_of_mem_drop (List.mem_of_mem_take hc))
theorem own_us {cs : List Int32} {f n : Nat} (q : f + n ≤ cs.length) : (List.range n).map (fun i => (lb cs).getD (f + i) (.int 0)) = lb (sub cs f n) := by
  apply List.ext_getElem
  · simp [lb_len, sub_len q]
  · intro i h1 h2
    have hi : i < n := by simpa using h1
    have e : (lb (sub cs f n))[i] = (lb (sub cs f n)).getD i (.int 0) := by simp [List.getD_eq_getElem?_getD, h2]
    rw [e, lb_get (by rw [sub_len q]; exact hi), sub_get hi]
    simp only [List.getElem_map, List.getElem_range]
    rw [lb_get (by omega)]
theorem byte_inj {x y : Int32} (hx : ¬ x < 0 ∧ ¬ (255 : Int32) < x) (hy : ¬ y < 0 ∧ ¬ (255 : Int32) < y) (q : x.toInt8.toInt32 = y.toInt8.toInt32) : x = y := by rw [← byte_back hx, q, byte_back hy]
/-- the first place of x, or -1 -/
def ixF (x : Int32) (cs : List Int32) : Int32 := if cs.findIdx (· == x) < cs.length then Int32.ofNat (cs.findIdx (· == x)) else -1
theorem gd {cs : List Int32} {i : Nat} (h : i < cs.length) : cs.getD i 0 = cs[i] := by simp [List.getD_eq_getElem?_getD, h]
theorem ixF_found {cs : List Int32} {x : Int32} {i : Nat} (h : i < cs.length) (e : cs.getD i 0 = x) (q : ∀ j, j < i → cs.getD j 0 ≠ x) : ixF x cs = Int32.ofNat i ∧ cs.findIdx (· == x) = i := by
  have e1 : cs.findIdx (· == x) = i := by
    rw [List.findIdx_eq h]
    refine ⟨by rw [← gd h, e]; simp, fun j hj => ?_⟩
    have := q j hj
    rw [gd (by omega)] at this
    simp [this]
  exact ⟨by rw [ixF, e1, if_pos h], e1⟩
theorem ixF_none {cs : List Int32} {x : Int32} (q : ∀ j, j < cs.length → cs.getD j 0 ≠ x) : ixF x cs = -1 := by
  rw [ixF, if_neg]
  intro h
  have e := List.findIdx_getElem (p := (· == x)) (w := h)
  have := q _ h
  rw [gd h] at this
  simp at e
  exact this e
theorem Lat.exa {a : Addr} {cs : List Int32} (L : Lat Z h a cs) : Exa Z h a "java/lang/String" := by obtain ⟨_, _, q, _⟩ := L; exact q
theorem al0 {P : Nat → Prop} : ∀ j, j < 0 → P j := fun j q => absurd q (Nat.not_lt_zero _)
theorem alS {P : Nat → Prop} {n : Nat} (q : ∀ j, j < n → P j) (r : P n) : ∀ j, j < n + 1 → P j := fun j z => (Nat.lt_succ_iff_lt_or_eq.mp z).elim (q j) (fun u => u ▸ r)
end Kit5
end Jvm.OwnKit
namespace Jvm.OwnKit
open Jvm Jvm.ClassFile Sem Op Lib Jvm.Free Jvm.Stand Jvm.LawKit Jvm.RoadKit Bundle
section Kit6
variable {p : Program} {l : Launch} {e : Env} {R : Room} {s : State} {m : MethodId} {args : Array Value} {below : List Frame} {meth : Method} {c : Code} {Z : State} {a0 : Array Value} {EL : List (String × Nat)} {kn : Bool} {own : String}
  {T : State} {h h' h2 : Heap} {ss : List Addr} {cells slots : Nat} {nm : String} {bytes : ByteArray} {maxL : Nat} {ret : Option FieldType} {kc ks : Nat} {P : Option Value → Heap → (Addr → Prop) → Prop} {pc : Nat} {Ls : Array Slot} {st : List Value}
/-- a class that bears a selected method is no interface -/
theorem nf_of_sel {C : String} {x y y' : MethodName} (w : (Cond.selects C x y).before a0 Z = true) (hc : y'.cls = y.cls) {vm0 : Vm} (hZ : Z.Warmed39 vm0) : NotFace (s.setVm vm0) y' := fun r0 h0 => by
  obtain ⟨-, -, m2, -, -, q3, -, mk, q5, q6⟩ := Cond.selects_spec (mvT (s := s.setVm vm0) (args := #[]) hZ w)
  have e1 := findClass_of_methodNamed q3
  have e2 := findClass_of_methodNamed h0
  rw [hc] at e2
  have e3 : r0.cls = m2.cls := Option.some.inj (e2.symm.trans e1)
  exact ⟨mk, by rw [e3]; exact q5, q6⟩
theorem own_same {C : String} {x y y' : MethodName} (w : (Cond.instanceMethod y).before a0 Z = true) (ws : (Cond.selects C x y').before a0 Z = true) (hc : y'.cls = y.cls) (hy : y.cls ≠ "java/lang/invoke/MethodHandle" ∧ y.cls ≠ "java/lang/invoke/VarHandle") : (Cond.sameMethod y.cls y.cls y.name y.desc).before a0 Z = true := by
  obtain ⟨mk, methM, hn, hm, -, -⟩ := Cond.instanceMethod_spec w
  obtain ⟨-, -, m2, -, -, q3, -, kk, q5, q6⟩ := Cond.selects_spec ws
  have e1 := findClass_of_methodNamed q3
  have e2 := findClass_of_methodNamed hn
  have e3 : mk.cls = m2.cls := by
    rw [hc] at e1
    exact Option.some.inj (e2.symm.trans e1)
  have hf := State.methodFound?_of_named hn hy
  have hn' : Z.methodNamed? ⟨y.cls, y.name, y.desc⟩ = some mk := hn
  show (Cond.sameMethod y.cls y.cls y.name y.desc).holds a0 Z none Z [] = true
  simp only [Cond.holds, Cond.value, e2, hf, hn', e3, q5, Option.any_some, q6, decide_true, Bool.not_false, Bool.and_self]
  rfl
theorem own_selp {C : String} {x y : MethodName} (w : (Cond.instanceMethod y).before a0 Z = true) (wp : (Cond.privateMethod y).before a0 Z = true) (ws : (Cond.selects C x y).before a0 Z = true) (hy : y.cls ≠ "java/lang/invoke/MethodHandle" ∧ y.cls ≠ "java/lang/invoke/VarHandle") : (Cond.selects y.cls y y).before a0 Z = true := by
  obtain ⟨mk, methM, hn, hm, -, -⟩ := Cond.instanceMethod_spec w
  obtain ⟨-, -, m2, -, -, q3, -, kk, q5, q6⟩ := Cond.selects_spec ws
  cases hn.symm.trans q3
  have e2 := findClass_of_methodNamed hn
  have hf := State.methodFound?_of_named hn hy
  have hpr : methM.isPrivate = true := Cond.privateMethod_at wp mk methM hn hm
  have hsel : selectMethod {} Z.vm mk.cls mk = .method mk := selectMethod_private hm hpr
  show (Cond.selects y.cls y y).holds a0 Z none Z [] = true
  simp only [Cond.holds, Cond.value, e2, hf, hn, hsel, q5, Option.any_some, q6, decide_true, Bool.not_false, Bool.and_self]
  rfl
section Calls6
variable {index : Nat} {y : MethodName} {ybytes : ByteArray} {ymaxL : Nat} {yret : Option FieldType} {rm : Room} {ss' : List Addr} {rest : List Value} {Q : Option Value → Heap → (Addr → Prop) → Prop} {argsL : List Value} {a : Addr} {CC : String}
/-- a private method, by invokevirtual -/
theorem Wk.callP {C : String} {x : MethodName} (W : Wk p l e R s m args below meth c Z EL kn own T h ss cells slots) (me : Me p meth c nm bytes maxL ret) (hEL : EW Z a0 EL) (w1 : (Cond.methodLink own index y).before a0 Z = true) (w2 : (Cond.instanceMethod y).before a0 Z = true) (wp : (Cond.privateMethod y).before a0 Z = true) (ws : (Cond.selects C x y).before a0 Z = true) (w5 : (Cond.initialized y.cls).before a0 Z = true) (w6 : (Cond.code y ybytes ymaxL yret).before a0 Z = true)
    (E : Exa Z h a CC) (hM : Con l Z EL kn [] y ybytes ymaxL yret rm (.ref a :: argsL).toArray h ss' Q) (hd : decode bytes pc = .ok (.invokevirtual index, 3)) (hy : y.cls ≠ "java/lang/invoke/MethodHandle" ∧ y.cls ≠ "java/lang/invoke/VarHandle") (hss : ∀ x ∈ ss', x ∈ ss) (hsz : Ls.size = maxL) (hlen : ∀ sig, parseMethodDescriptor y.desc = some sig → argsL.length = sig.parameters.length)
    (hf : rm.frames + 1 ≤ R.frames) (hl : (rest.map fun v => v.category).sum + (ymaxL + 11) + rm.locals ≤ R.locals) (hc : cells + rm.cells ≤ R.cells) (hs : slots + rm.slots ≤ R.slots) {stk : List Value} (hstk : stk = argsL.reverse ++ .ref a :: rest)
    (k : ∀ T' h' v, Wk p l e R s m args below meth c Z EL kn own T' h' ss (cells + rm.cells) (slots + rm.slots) → h.size ≤ h'.size → (∃ sf : Addr → Prop, (∀ xs : List Addr, (∀ x ∈ xs, sf x) → Wk p l e R s m args below meth c Z EL kn own T' h' (xs ++ ss) (cells + rm.cells) (slots + rm.slots)) ∧ Q v h' sf) → Fi p e below s Z EL kc ks P T' (mkF m (pc + 3) Ls (v.toList ++ rest))) : Fi p e below s Z EL kc ks P T (mkF m pc Ls stk) := by
  obtain ⟨vm0, locs, k0, X, eT, hZ, hS, hk, hown, N, O, C, hsf, hK⟩ := W
  subst hstk
  obtain ⟨cell, q1, q2⟩ := E.cell
  obtain ⟨v, vm1, B, hW1, X', hS2, hg, ⟨L, ⟨hq, NL, OB⟩, e1, e2, e3, C2⟩, stp⟩ := X.privateBackS me.x hown (mvT (s := s.setVm vm0) hZ w1) (mvT (s := s.setVm vm0) hZ w2) (mvT (s := s.setVm vm0) hZ (own_selp w2 wp ws hy)) (Cond.privateMethod_at (mvP (s := s.setVm vm0) (args := #[]) hZ wp)) (mvT (s := s.setVm vm0) hZ w6) hy
    (Con.back (Wt := (rest.map fun v => v.category).sum) hM hZ w6 w5 hf hl hEL C.1 (fun x hx => hsf x (hss x hx)) hK) (g := mkF m pc Ls (argsL.reverse ++ .ref a :: rest)) rfl (hsz.trans me.ml.symm) (Steps.refl _) (by rw [eT]; exact q1) q2 hlen rfl (by show 2 * 0 + _ ≤ _; omega) (hb me.b hd) (fun _ _ => ⟨rfl, eT, hc, hs⟩)
  have hg' : h.size ≤ B.U.heap.size := by rw [← eT]; exact hg
  have WB := Wk.behind X' hZ hS hk hown N C hsf hK hS2 hg' NL OB e1 e2 e3 C2
  exact (k B.U B.U.heap v (WB [] (fun _ q => nomatch q)) hg' ⟨_, WB, hq⟩).step fun t F => stp.trans F
/-- a superclass's method, by invokespecial -/
theorem Wk.callU {C : String} {x y' : MethodName} (W : Wk p l e R s m args below meth c Z EL kn own T h ss cells slots) (me : Me p meth c nm bytes maxL ret) (hEL : EW Z a0 EL) (w1 : (Cond.methodLink own index y).before a0 Z = true) (w2 : (Cond.instanceMethod y).before a0 Z = true) (wu : (Cond.superclass own y.cls).before a0 Z = true) (ws : (Cond.selects C x y').before a0 Z = true) (hcy : y'.cls = y.cls) (w5 : (Cond.initialized y.cls).before a0 Z = true) (w6 : (Cond.code y ybytes ymaxL yret).before a0 Z = true) (hyn : y.name ≠ "<init>")
    (E : Exa Z h a CC) (hM : Con l Z EL kn [] y ybytes ymaxL yret rm (.ref a :: argsL).toArray h ss' Q) (hd : decode bytes pc = .ok (.invokespecial index, 3)) (hy : y.cls ≠ "java/lang/invoke/MethodHandle" ∧ y.cls ≠ "java/lang/invoke/VarHandle") (hss : ∀ x ∈ ss', x ∈ ss) (hsz : Ls.size = maxL) (hlen : ∀ sig, parseMethodDescriptor y.desc = some sig → argsL.length = sig.parameters.length)
    (hf : rm.frames + 1 ≤ R.frames) (hl : (rest.map fun v => v.category).sum + (ymaxL + 11) + rm.locals ≤ R.locals) (hc : cells + rm.cells ≤ R.cells) (hs : slots + rm.slots ≤ R.slots) {stk : List Value} (hstk : stk = argsL.reverse ++ .ref a :: rest)
    (k : ∀ T' h' v, Wk p l e R s m args below meth c Z EL kn own T' h' ss (cells + rm.cells) (slots + rm.slots) → h.size ≤ h'.size → (∃ sf : Addr → Prop, (∀ xs : List Addr, (∀ x ∈ xs, sf x) → Wk p l e R s m args below meth c Z EL kn own T' h' (xs ++ ss) (cells + rm.cells) (slots + rm.slots)) ∧ Q v h' sf) → Fi p e below s Z EL kc ks P T' (mkF m (pc + 3) Ls (v.toList ++ rest))) : Fi p e below s Z EL kc ks P T (mkF m pc Ls stk) := by
  obtain ⟨vm0, locs, k0, X, eT, hZ, hS, hk, hown, N, O, C, hsf, hK⟩ := W
  subst hstk
  obtain ⟨v, vm1, B, hW1, X', hS2, hg, ⟨L, ⟨hq, NL, OB⟩, e1, e2, e3, C2⟩, stp⟩ := superBackS X me.x (Z := Z) hZ hown w1 (own_same w2 ws hcy hy) w2 wu hyn
    (Con.back (Wt := (rest.map fun v => v.category).sum) hM hZ w6 w5 hf hl hEL C.1 (fun x hx => hsf x (hss x hx)) hK) eT (Ins.self E) (g := mkF m pc Ls (argsL.reverse ++ .ref a :: rest)) rfl (hsz.trans me.ml.symm) w6 hlen rfl (by show 2 * 0 + _ ≤ _; omega) (hb me.b hd) (fun _ _ => ⟨rfl, eT, hc, hs⟩)
  have hg' : h.size ≤ B.U.heap.size := by rw [← eT]; exact hg
  have WB := Wk.behind X' hZ hS hk hown N C hsf hK hS2 hg' NL OB e1 e2 e3 C2
  exact (k B.U B.U.heap v (WB [] (fun _ q => nomatch q)) hg' ⟨_, WB, hq⟩).step fun t F => stp.trans F
end Calls6
/-- newarray, its class told -/
theorem Wk.newAE {aty : ArrayType} {cap : Nat} {n : Int32} {ad : String} (W : Wk p l e R s m args below meth c Z EL kn own T h ss cells slots) (me : Me p meth c nm bytes maxL ret) (w : (Cond.arrayClass (newarray.typeOf aty)).before a0 Z = true) (hd : decode bytes pc = .ok (.newarray aty, 2)) (hn : ¬ n < 0) (hcap : n.toNatClampNeg ≤ cap) (hbig : cap * 8 ≤ 536870912) (hc : cells + 1 ≤ R.cells) (hl : slots + cap ≤ R.slots) (had : "[" ++ (newarray.typeOf aty).toString = ad)
    (k : ∀ T' h' a ka, @Eq Nat h.size a → Wk p l e R s m args below meth c Z EL kn own T' h' (a :: ss) (cells + 1) (slots + cap) → Ext h h' → Arv Z h' a ka (newarray.typeOf aty) n [] (defaultValue (newarray.typeOf aty)) → Exa Z h' a ad → Fi p e below s Z EL kc ks P T' (mkF m (pc + 2) Ls (.ref a :: st))) : Fi p e below s Z EL kc ks P T (mkF m pc Ls (.int n :: st)) :=
  W.grows (k := 1) (n := cap) (Q := fun _ h' => (∃ ka, Arv Z h' h.size ka (newarray.typeOf aty) n [] (defaultValue (newarray.typeOf aty))) ∧ Exa Z h' h.size ad)
    (fun X hZ hown => by
      obtain ⟨T', h', cA, X', e', E, A, EX, st⟩ := Jvm.RoadKit.newPE X me.x hZ w W.heap (g := mkF m pc Ls (.int n :: st)) rfl (hb me.b hd) rfl hn hcap hbig hc hl had
      exact ⟨T', h', X', e', E, A.lt, ⟨⟨cA, Arv.new A hn⟩, EX⟩, st⟩)
    (fun T' h' W' E q => by obtain ⟨⟨ka, A⟩, EX⟩ := q; exact k T' h' h.size ka rfl W' E A EX)
/-- an array's clone() -/
theorem Wk.clone {index cap : Nat} {a : Addr} {ad : String} {k : ClassId} {ty : FieldType} {z : Int32} {vs : List Value} {dv : Value} (W : Wk p l e R s m args below meth c Z EL kn own T h ss cells slots) (me : Me p meth c nm bytes maxL ret)
    (w1 : (Cond.methodLink own index ⟨ad, "clone", "()Ljava/lang/Object;"⟩).before a0 Z = true) (w2 : (Cond.sameMethod ad "java/lang/Object" "clone" "()Ljava/lang/Object;").before a0 Z = true) (w3 : (Cond.native ⟨"java/lang/Object", "clone", "()Ljava/lang/Object;"⟩).before a0 Z = true)
    (w4 : (Cond.instanceMethod ⟨"java/lang/Object", "clone", "()Ljava/lang/Object;"⟩).before a0 Z = true) (w5 : (Cond.selects ad ⟨ad, "clone", "()Ljava/lang/Object;"⟩ ⟨"java/lang/Object", "clone", "()Ljava/lang/Object;"⟩).before a0 Z = true) (w6 : (Cond.castable ad "java/lang/Cloneable").before a0 Z = true)
    (A : Arv Z h a k ty z vs dv) (E : Exa Z h a ad) (hd : decode bytes pc = .ok (.invokevirtual index, 3)) (hsz : Ls.size = maxL) (hf : 1 ≤ R.frames) (hl : (st.map fun v => v.category).sum + 14 ≤ R.locals) (hcap : z.toNatClampNeg ≤ cap) (hc : cells + 1 ≤ R.cells) (hsl : slots + cap ≤ R.slots)
    (F : ∀ T' h' d, @Eq Nat h.size d → Wk p l e R s m args below meth c Z EL kn own T' h' (d :: ss) (cells + 1) (slots + cap) → Ext h h' → Arv Z h' d k ty z vs dv → Exa Z h' d ad → Fi p e below s Z EL kc ks P T' (mkF m (pc + 3) Ls (.ref d :: st))) :
    Fi p e below s Z EL kc ks P T (mkF m pc Ls (.ref a :: st)) :=
  W.grows (k := 1) (n := cap) (Q := fun _ h' => Arv Z h' h.size k ty z vs dv ∧ Exa Z h' h.size ad)
    (fun X hZ hown => by
      obtain ⟨T', h', X', e', E', A', EX, st'⟩ := cloneH X me.x hZ hown w1 w2 w3 w4 w5 w6 W.heap A.arh E (g := mkF m pc Ls (.ref a :: st)) rfl (hsz.trans me.ml.symm) rfl (hb me.b hd) hf (W := (st.map fun v => v.category).sum) (by show 2 * 0 + _ ≤ _; omega) hl hcap hc hsl
      exact ⟨T', h', X', e', E', EX.lt, ⟨A', EX⟩, st'⟩)
    (fun T' h' W' E' q => F T' h' h.size rfl W' E' q.1 q.2)
/-- a Latin-1 String and its array -/
def LatB (Z : State) (h : Heap) (a b : Addr) (cs : List Int32) : Prop :=
  ∃ k : ClassId, Exa Z h a "java/lang/String" ∧ Fld Z h a "java/lang/String" "coder" "B" (.int 0) ∧ Fld Z h a "java/lang/String" "value" "[B" (.ref b) ∧ Arv Z h b k .byte (Int32.ofNat cs.length) (lb cs) (.int 0) ∧ cs.length < 2 ^ 20 ∧ C8 cs
theorem Lat.opn {a : Addr} {cs : List Int32} (L : Lat Z h a cs) : ∃ b, LatB Z h a b cs := by obtain ⟨b, k, q⟩ := L; exact ⟨b, k, q⟩
theorem LatB.lat {a b : Addr} {cs : List Int32} (L : LatB Z h a b cs) : Lat Z h a cs := by obtain ⟨k, q⟩ := L; exact ⟨b, k, q⟩
theorem LatB.ext {a b : Addr} {cs : List Int32} (E : Ext h h') (L : LatB Z h a b cs) : LatB Z h' a b cs := by obtain ⟨k, h1, h2, h3, h4, h5⟩ := L; exact ⟨k, h1.ext E, h2.ext E, h3.ext E, h4.ext E, h5⟩
theorem LatB.exa {a b : Addr} {cs : List Int32} (L : LatB Z h a b cs) : Exa Z h a "java/lang/String" := L.lat.exa
theorem LatB.lt {a b : Addr} {cs : List Int32} (L : LatB Z h a b cs) : b < h.size := by obtain ⟨k, -, -, -, q, -⟩ := L; exact q.lt
/-- a StringBuilder that holds Latin-1 signs: its array b of cap places -/
def Sbd (Z : State) (h : Heap) (a b : Addr) (cs : List Int32) (cap : Nat) : Prop :=
  ∃ k : ClassId, Exa Z h a "java/lang/StringBuilder" ∧ Fld Z h a "java/lang/AbstractStringBuilder" "value" "[B" (.ref b) ∧ Fld Z h a "java/lang/AbstractStringBuilder" "coder" "B" (.int 0) ∧ Fld Z h a "java/lang/AbstractStringBuilder" "count" "I" (.int (Int32.ofNat cs.length)) ∧
    Arv Z h b k .byte (Int32.ofNat cap) (lb cs) (.int 0) ∧ Exa Z h b "[B" ∧ cs.length ≤ cap ∧ cap < 2 ^ 20 ∧ C8 cs
theorem Sbd.exa {a b : Addr} {cs : List Int32} {cap : Nat} (L : Sbd Z h a b cs cap) : Exa Z h a "java/lang/StringBuilder" := by obtain ⟨k, q, -⟩ := L; exact q
theorem Sbd.ext {a b : Addr} {cs : List Int32} {cap : Nat} (E : Ext h h') (L : Sbd Z h a b cs cap) : Sbd Z h' a b cs cap := by obtain ⟨k, h1, h2, h3, h4, h5, h6, h7⟩ := L; exact ⟨k, h1.ext E, h2.ext E, h3.ext E, h4.ext E, h5.ext E, h6.ext E, h7⟩
theorem C8.app {cs ds : List Int32} (q : C8 cs) (r : C8 ds) : C8 (cs ++ ds) := fun x hx => (List.mem_append.mp hx).elim (q x) (r x)
theorem lb_app (cs ds : List Int32) : lb (cs ++ ds) = lb cs ++ lb ds := by simp [lb]
end Kit6
end Jvm.OwnKit
namespace Jvm.OwnKit
open Jvm Jvm.ClassFile Sem Op Lib Jvm.Free Jvm.Stand Jvm.LawKit Jvm.RoadKit Bundle
section Kit7
variable {Z : State} {h h' h2 : Heap}
theorem own_shl0 (x : Int32) : x <<< ((0 : Int32) &&& 31) = x := by simp
theorem own_shr0 (x : Int32) : x >>> ((0 : Int32) &&& 31) = x := by simp
theorem own_plus2 (n : Nat) : Int32.ofNat n + 2 = Int32.ofNat (n + 2) := on_add n 2
theorem own_nmax {n : Nat} (h : n < 2 ^ 30) : ¬ Int32.ofNat n = (2147483647 : Int32) := by
  rw [← Int32.toInt_inj, on_int (by omega)]
  have : (2147483647 : Int32).toInt = 2147483647 := rfl
  omega
theorem own_cap {n : Nat} (h : n < 2 ^ 30) : ¬ (2147483639 : Int32) < Int32.ofNat n := by
  rw [Int32.lt_iff_toInt_lt, on_int (by omega)]
  have : (2147483639 : Int32).toInt = 2147483639 := rfl
  omega
theorem own_subint {i j : Nat} (hi : i < 2 ^ 30) (hj : j < 2 ^ 30) : (Int32.ofNat i - Int32.ofNat j).toInt = (i : Int) - j := by
  have q := c_isub (Int32.ofNat i) (Int32.ofNat j)
  rw [on_int (by omega), on_int (by omega)] at q
  have r := rng32 (Int32.ofNat i - Int32.ofNat j)
  omega
theorem own_suble {i j : Nat} (h : i ≤ j) (hj : j < 2 ^ 30) : ¬ 0 < Int32.ofNat i - Int32.ofNat j := by
  rw [Int32.lt_iff_toInt_lt, own_subint (by omega) hj, Int32.toInt_zero]; omega
theorem own_subgt {i j : Nat} (h : j < i) (hi : i < 2 ^ 30) : 0 < Int32.ofNat i - Int32.ofNat j := by
  rw [Int32.lt_iff_toInt_lt, own_subint hi (by omega), Int32.toInt_zero]; omega
theorem own_pad {a : Addr} {k : ClassId} {ty : FieldType} {z : Int32} {vs : List Value} {dv : Value} {N : Nat} (A : Arv Z h a k ty z vs dv) : Arv Z h a k ty z (vs ++ List.replicate (N - vs.length) dv) dv := A.pad (pad_rep vs dv _)
theorem own_padlen {vs : List Value} {dv : Value} {N : Nat} (q : vs.length ≤ N) : (vs ++ List.replicate (N - vs.length) dv).length = N := by simp; omega
theorem own_all (ds : List Int32) : lb ds = (List.range ds.length).map fun i => (lb ds).getD ((0 : Int32).toNatClampNeg + i) (.int 0) := by
  have q := own_us (cs := ds) (f := 0) (n := ds.length) (by omega)
  rw [sub_all] at q
  exact q.symm
theorem own_copied {a : Addr} {k : ClassId} {cs : List Int32} {N n : Nat} (A : Arv Z h a k .byte (Int32.ofNat n) (List.take (0 : Int32).toNatClampNeg (List.replicate N (Value.int 0)) ++ ((List.range N).map fun i => (lb cs).getD (0 + i) (.int 0)) ++ List.drop ((0 : Int32).toNatClampNeg + (Int32.ofNat N).toNatClampNeg) (List.replicate N (Value.int 0))) (.int 0)) (hN : N < 2 ^ 31) (hc : cs.length ≤ N) :
    Arv Z h a k .byte (Int32.ofNat n) (lb cs) (.int 0) := by
  refine A.pad fun i => ?_
  rw [on_clamp hN]
  have e : (List.take (0 : Int32).toNatClampNeg (List.replicate N (Value.int 0)) ++ ((List.range N).map fun i => (lb cs).getD (0 + i) (.int 0)) ++ List.drop ((0 : Int32).toNatClampNeg + N) (List.replicate N (Value.int 0))) = (List.range N).map fun i => (lb cs).getD i (.int 0) := by
    show List.take 0 _ ++ _ ++ List.drop (0 + N) _ = _
    simp
  rw [e]
  by_cases hi : i < N
  · simp [List.getD_eq_getElem?_getD, hi]
  · have h1 : (lb cs).length ≤ i := by rw [lb_len]; omega
    simp [List.getD_eq_getElem?_getD, hi, h1]
theorem own_laid {a : Addr} {k : ClassId} {cs ds : List Int32} {N : Nat} (A : Arv Z h a k .byte (Int32.ofNat N) (List.take (Int32.ofNat cs.length).toNatClampNeg (lb cs ++ List.replicate (N - (lb cs).length) (Value.int 0)) ++ lb ds ++ List.drop ((Int32.ofNat cs.length).toNatClampNeg + (Int32.ofNat ds.length).toNatClampNeg) (lb cs ++ List.replicate (N - (lb cs).length) (Value.int 0))) (.int 0)) (hN : N < 2 ^ 31) (hf : cs.length + ds.length ≤ N) :
    Arv Z h a k .byte (Int32.ofNat N) (lb (cs ++ ds)) (.int 0) := by
  refine A.pad fun i => ?_
  rw [on_clamp (by omega), on_clamp (by omega)]
  have e1 : List.take cs.length (lb cs ++ List.replicate (N - (lb cs).length) (Value.int 0)) = lb cs := by
    rw [List.take_append_of_le_length (by rw [lb_len]; exact Nat.le_refl _), List.take_of_length_le (by rw [lb_len]; exact Nat.le_refl _)]
  have e2 : List.drop (cs.length + ds.length) (lb cs ++ List.replicate (N - (lb cs).length) (Value.int 0)) = List.replicate (N - (cs.length + ds.length)) (Value.int 0) := by
    rw [List.drop_append, List.drop_eq_nil_of_le (by rw [lb_len]; omega), List.nil_append, List.drop_replicate, lb_len]
    congr 1
    omega
  rw [e1, e2, lb_app]
  exact (pad_rep (lb cs ++ lb ds) (.int 0) _ i).symm
theorem own_keep1 {a b : Addr} (K : Keep h h' [b]) : Keep h h' [a, b] := ⟨K.1, fun x c q r => K.2.1 x c q (fun z => r (List.mem_cons_of_mem _ z)), K.2.2⟩
theorem own_keep2 {h3 h4 : Heap} {a b d : Addr} {sl : Nat} {v : Value} (K : Keep h h' [a]) (K2 : Keep h' h3 [d]) (W : Wr h3 h4 a sl v) (y : h.size ≤ d) : Keep h h4 [a, b] := by
  have K' : Keep h h' [a, b] := ⟨K.1, fun x c q r => K.2.1 x c q (fun z => r (by rw [List.mem_singleton.mp z]; exact List.mem_cons_self ..)), K.2.2⟩
  have K3 : Keep h h3 [a, b] := K'.trans K2 (fun x hx => by rw [List.mem_singleton.mp hx]; exact Or.inr y)
  exact K3.wr W (Or.inl (List.mem_cons_self ..))
theorem LatB.keep {a b : Addr} {cs : List Int32} {ws : List Addr} (L : LatB Z h a b cs) (K : Keep h h' ws) (ha : a ∉ ws) (hb : b ∉ ws) : LatB Z h' a b cs := by
  obtain ⟨k, h1, h2, h3, h4, h5⟩ := L
  exact ⟨k, h1.keep K, h2.keep K ha, h3.keep K ha, h4.keep K hb, h5⟩
end Kit7
end Jvm.OwnKit
namespace Jvm.OwnKit
open Jvm Jvm.ClassFile Sem Op Lib Jvm.Free Jvm.Stand Jvm.LawKit Jvm.RoadKit Bundle
section Kit8
theorem own_gl {xs ys : List Int32} {i : Nat} (h : i < xs.length) : (xs ++ ys).getD i 0 = xs.getD i 0 := by
  simp [List.getD_eq_getElem?_getD, List.getElem?_append_left h]
theorem own_gr {xs ys : List Int32} {n k : Nat} (h : xs.length = n) : (xs ++ ys).getD (n + k) 0 = ys.getD k 0 := by
  subst h
  simp [List.getD_eq_getElem?_getD, List.getElem?_append_right]
theorem own_gr0 {xs ys : List Int32} {n : Nat} (h : xs.length = n) : (xs ++ ys).getD n 0 = ys.getD 0 0 := own_gr (k := 0) h
theorem own_sub0 {c0 c1 : Int32} {n : Nat} (h : 1 ≤ n) : (sub [c0, c1] 0 n).getD 0 0 = c0 := by
  rw [sub_get (by omega)]; rfl
theorem own_sub1 {c0 c1 : Int32} {n : Nat} (h : 2 ≤ n) : (sub [c0, c1] 0 n).getD 1 0 = c1 := by
  rw [sub_get (by omega)]; rfl
theorem own_012 {n : Nat} (h : n ≤ 2) : n = 0 ∨ n = 1 ∨ n = 2 := by omega
theorem own_0123 {n : Nat} (h : n ≤ 3) : n = 0 ∨ n = 1 ∨ n = 2 ∨ n = 3 := by omega
theorem own_on {x : Int32} {k : Nat} (h : x.toInt = k) (hk : k < 2 ^ 31) : x = Int32.ofNat k := by
  rw [← Int32.toInt_inj, on_int hk]; exact h
theorem on_lit {n k : Nat} (x : Int32) (h : Int32.ofNat k = x) (hn : n < 2 ^ 31) (hk : k < 2 ^ 31) : Int32.ofNat n < x ↔ n < k := by
  subst h
  constructor
  · intro q
    rw [Int32.lt_iff_toInt_lt, on_int hn, on_int hk] at q; omega
  · intro q; exact on_lt q hk
theorem own_latk {Z : State} {a0 : Array Value} {h h' : Heap} {a x : Addr} {cs : List Int32} {C : String} {n : Nat} (L : Lat Z h a cs) (K : Keep h h' [x]) (EX : Exa Z h x C) (hC : "java/lang/String" ≠ C) (w : (Cond.instantiable C n).before a0 Z = true) : Lat Z h' a cs := by
  obtain ⟨b, k, h1, h2, h3, h4, h5⟩ := L
  have ha : a ∉ [x] := ninS (Exa.ne h1 EX hC) nin0
  exact ⟨b, k, h1.keep K, h2.keep K ha, h3.keep K ha, h4.keep K (ninS (EX.neArv h4 w).symm nin0), h5⟩
theorem own_mod3 (x : Int32) : ∃ k : Nat, k ≤ 2 ∧ (x &&& (3 : Int32)) % (3 : Int32) = Int32.ofNat k := by
  have q := c_mask x 3 2 (by omega) (by decide)
  have r := c_irem (x &&& 3) 3 3 rfl
  have := r.1 (by omega)
  refine ⟨((x &&& (3 : Int32)) % (3 : Int32)).toInt.toNat, by omega, own_on (by omega) (by omega)⟩
theorem own_ge1 {n : Nat} (hn : n < 2 ^ 31) (q : ¬ Int32.ofNat n < 1) : 1 ≤ n := by
  exact Nat.le_of_not_lt fun z => q ((on_lit (n := n) (k := 1) 1 rfl hn (by decide)).mpr z)
theorem own_ge2 {n : Nat} (hn : n < 2 ^ 31) (q : ¬ Int32.ofNat n < 2) : 2 ≤ n := by
  exact Nat.le_of_not_lt fun z => q ((on_lit (n := n) (k := 2) 2 rfl hn (by decide)).mpr z)
theorem own_ge3 {n : Nat} (hn : n < 2 ^ 31) (q : ¬ Int32.ofNat n < 3) : 3 ≤ n := by
  exact Nat.le_of_not_lt fun z => q ((on_lit (n := n) (k := 3) 3 rfl hn (by decide)).mpr z)
end Kit8
end Jvm.OwnKit
namespace Jvm.Pilot.@@N@@
open Jvm Jvm.ClassFile Sem Op Lib Jvm.Free Jvm.Stand Jvm.LawKit Jvm.RoadKit Bundle Jvm.OwnKit Jvm.Pilot.@@N@@.Jvm.D
theorem d_jdk_52_method_15_0 : decode jdk_52_method_15_code 0 = .ok (.iload_n 1, 1) := by decide +kernel
theorem d_jdk_52_method_15_1 : decode jdk_52_method_15_code 1 = .ok (.aload_n 0, 1) := by decide +kernel
theorem d_jdk_52_method_15_2 : decode jdk_52_method_15_code 2 = .ok (.arraylength, 1) := by decide +kernel
theorem d_jdk_52_method_15_3 : decode jdk_52_method_15_code 3 = .ok (.isub, 1) := by decide +kernel
theorem d_jdk_52_method_15_4 : decode jdk_52_method_15_code 4 = .ok (.bipush 31, 2) := by decide +kernel
theorem d_jdk_52_method_15_6 : decode jdk_52_method_15_code 6 = .ok (.iushr, 1) := by decide +kernel
theorem d_jdk_52_method_15_7 : decode jdk_52_method_15_code 7 = .ok (.i2b, 1) := by decide +kernel
theorem d_jdk_52_method_15_8 : decode jdk_52_method_15_code 8 = .ok (.ireturn, 1) := by decide +kernel
theorem d_jdk_52_method_21_3 : decode jdk_52_method_21_code 3 = .ok (.iload 5, 2) := by decide +kernel
theorem d_jdk_52_method_21_5 : decode jdk_52_method_21_code 5 = .ok (.iload 4, 2) := by decide +kernel
theorem d_jdk_52_method_21_7 : decode jdk_52_method_21_code 7 = .ok (.if_icmp .ge 37, 3) := by decide +kernel
theorem d_jdk_52_method_21_44 : decode jdk_52_method_21_code 44 = .ok (.iload 4, 2) := by decide +kernel
theorem d_jdk_52_method_21_46 : decode jdk_52_method_21_code 46 = .ok (.ireturn, 1) := by decide +kernel
theorem d_jdk_52_method_21_10 : decode jdk_52_method_21_code 10 = .ok (.aload_n 0, 1) := by decide +kernel
theorem d_jdk_52_method_21_11 : decode jdk_52_method_21_code 11 = .ok (.iload_n 1, 1) := by decide +kernel
theorem d_jdk_52_method_21_12 : decode jdk_52_method_21_code 12 = .ok (.caload, 1) := by decide +kernel
theorem d_jdk_52_method_21_13 : decode jdk_52_method_21_code 13 = .ok (.istore 6, 2) := by decide +kernel
theorem d_jdk_52_method_21_15 : decode jdk_52_method_21_code 15 = .ok (.iload 6, 2) := by decide +kernel
theorem d_jdk_52_method_21_17 : decode jdk_52_method_21_code 17 = .ok (.sipush 255, 3) := by decide +kernel
theorem d_jdk_52_method_21_20 : decode jdk_52_method_21_code 20 = .ok (.if_icmp .le 6, 3) := by decide +kernel
theorem d_jdk_52_method_21_26 : decode jdk_52_method_21_code 26 = .ok (.aload_n 2, 1) := by decide +kernel
theorem d_jdk_52_method_21_27 : decode jdk_52_method_21_code 27 = .ok (.iload_n 3, 1) := by decide +kernel
theorem d_jdk_52_method_21_28 : decode jdk_52_method_21_code 28 = .ok (.iload 6, 2) := by decide +kernel
theorem d_jdk_52_method_21_30 : decode jdk_52_method_21_code 30 = .ok (.i2b, 1) := by decide +kernel
theorem d_jdk_52_method_21_31 : decode jdk_52_method_21_code 31 = .ok (.bastore, 1) := by decide +kernel
theorem d_jdk_52_method_21_32 : decode jdk_52_method_21_code 32 = .ok (.iinc 1 1, 3) := by decide +kernel
theorem d_jdk_52_method_21_35 : decode jdk_52_method_21_code 35 = .ok (.iinc 3 1, 3) := by decide +kernel
theorem d_jdk_52_method_21_38 : decode jdk_52_method_21_code 38 = .ok (.iinc 5 1, 3) := by decide +kernel
theorem d_jdk_52_method_21_41 : decode jdk_52_method_21_code 41 = .ok (.goto (-38), 3) := by decide +kernel
theorem d_jdk_52_method_21_0 : decode jdk_52_method_21_code 0 = .ok (.iconst 0, 1) := by decide +kernel
theorem d_jdk_52_method_21_1 : decode jdk_52_method_21_code 1 = .ok (.istore 5, 2) := by decide +kernel
theorem d_jdk_52_method_16_0 : decode jdk_52_method_16_code 0 = .ok (.iload_n 2, 1) := by decide +kernel
theorem d_jdk_52_method_16_1 : decode jdk_52_method_16_code 1 = .ok (.newarray .byte, 2) := by decide +kernel
theorem d_jdk_52_method_16_3 : decode jdk_52_method_16_code 3 = .ok (.astore_n 3, 1) := by decide +kernel
theorem d_jdk_52_method_16_4 : decode jdk_52_method_16_code 4 = .ok (.aload_n 0, 1) := by decide +kernel
theorem d_jdk_52_method_16_5 : decode jdk_52_method_16_code 5 = .ok (.iload_n 1, 1) := by decide +kernel
theorem d_jdk_52_method_16_6 : decode jdk_52_method_16_code 6 = .ok (.aload_n 3, 1) := by decide +kernel
theorem d_jdk_52_method_16_7 : decode jdk_52_method_16_code 7 = .ok (.iconst 0, 1) := by decide +kernel
theorem d_jdk_52_method_16_8 : decode jdk_52_method_16_code 8 = .ok (.iload_n 2, 1) := by decide +kernel
theorem d_jdk_52_method_16_9 : decode jdk_52_method_16_code 9 = .ok (.invokestatic 115, 3) := by decide +kernel
theorem d_jdk_52_method_16_12 : decode jdk_52_method_16_code 12 = .ok (.istore 4, 2) := by decide +kernel
theorem d_jdk_52_method_16_14 : decode jdk_52_method_16_code 14 = .ok (.iload 4, 2) := by decide +kernel
theorem d_jdk_52_method_16_16 : decode jdk_52_method_16_code 16 = .ok (.iload_n 2, 1) := by decide +kernel
theorem d_jdk_52_method_16_17 : decode jdk_52_method_16_code 17 = .ok (.if_icmp .eq 40, 3) := by decide +kernel
theorem d_jdk_52_method_16_57 : decode jdk_52_method_16_code 57 = .ok (.aload_n 3, 1) := by decide +kernel
theorem d_jdk_52_method_16_58 : decode jdk_52_method_16_code 58 = .ok (.areturn, 1) := by decide +kernel
theorem d_jdk_42_method_149_0 : decode jdk_42_method_149_code 0 = .ok (.aload_n 0, 1) := by decide +kernel
theorem d_jdk_42_method_149_1 : decode jdk_42_method_149_code 1 = .ok (.invokespecial 1, 3) := by decide +kernel
theorem d_jdk_42_method_149_4 : decode jdk_42_method_149_code 4 = .ok (.iload_n 3, 1) := by decide +kernel
theorem d_jdk_42_method_149_5 : decode jdk_42_method_149_code 5 = .ok (.ifCond .ne 22, 3) := by decide +kernel
theorem d_jdk_42_method_149_8 : decode jdk_42_method_149_code 8 = .ok (.aload_n 0, 1) := by decide +kernel
theorem d_jdk_42_method_149_9 : decode jdk_42_method_149_code 9 = .ok (.ldc 7, 2) := by decide +kernel
theorem d_jdk_42_method_149_11 : decode jdk_42_method_149_code 11 = .ok (.getfield 9, 3) := by decide +kernel
theorem d_jdk_42_method_149_14 : decode jdk_42_method_149_code 14 = .ok (.putfield 9, 3) := by decide +kernel
theorem d_jdk_42_method_149_17 : decode jdk_42_method_149_code 17 = .ok (.aload_n 0, 1) := by decide +kernel
theorem d_jdk_42_method_149_18 : decode jdk_42_method_149_code 18 = .ok (.ldc 7, 2) := by decide +kernel
theorem d_jdk_42_method_149_20 : decode jdk_42_method_149_code 20 = .ok (.getfield 15, 3) := by decide +kernel
theorem d_jdk_42_method_149_23 : decode jdk_42_method_149_code 23 = .ok (.putfield 15, 3) := by decide +kernel
theorem d_jdk_42_method_149_26 : decode jdk_42_method_149_code 26 = .ok (.return_, 1) := by decide +kernel
theorem d_jdk_42_method_149_27 : decode jdk_42_method_149_code 27 = .ok (.getstatic 38, 3) := by decide +kernel
theorem d_jdk_42_method_149_30 : decode jdk_42_method_149_code 30 = .ok (.ifCond .eq 28, 3) := by decide +kernel
theorem d_jdk_42_method_149_33 : decode jdk_42_method_149_code 33 = .ok (.aload_n 1, 1) := by decide +kernel
theorem d_jdk_42_method_149_34 : decode jdk_42_method_149_code 34 = .ok (.iload_n 2, 1) := by decide +kernel
theorem d_jdk_42_method_149_35 : decode jdk_42_method_149_code 35 = .ok (.iload_n 3, 1) := by decide +kernel
theorem d_jdk_42_method_149_36 : decode jdk_42_method_149_code 36 = .ok (.invokestatic 177, 3) := by decide +kernel
theorem d_jdk_42_method_149_39 : decode jdk_42_method_149_code 39 = .ok (.astore 5, 2) := by decide +kernel
theorem d_jdk_42_method_149_41 : decode jdk_42_method_149_code 41 = .ok (.aload_n 0, 1) := by decide +kernel
theorem d_jdk_42_method_149_42 : decode jdk_42_method_149_code 42 = .ok (.aload 5, 2) := by decide +kernel
theorem d_jdk_42_method_149_44 : decode jdk_42_method_149_code 44 = .ok (.iload_n 3, 1) := by decide +kernel
theorem d_jdk_42_method_149_45 : decode jdk_42_method_149_code 45 = .ok (.invokestatic 47, 3) := by decide +kernel
theorem d_jdk_42_method_149_48 : decode jdk_42_method_149_code 48 = .ok (.putfield 15, 3) := by decide +kernel
theorem d_jdk_42_method_149_51 : decode jdk_42_method_149_code 51 = .ok (.aload_n 0, 1) := by decide +kernel
theorem d_jdk_42_method_149_52 : decode jdk_42_method_149_code 52 = .ok (.aload 5, 2) := by decide +kernel
theorem d_jdk_42_method_149_54 : decode jdk_42_method_149_code 54 = .ok (.putfield 9, 3) := by decide +kernel
theorem d_jdk_42_method_149_57 : decode jdk_42_method_149_code 57 = .ok (.return_, 1) := by decide +kernel
theorem d_jdk_42_method_3_0 : decode jdk_42_method_3_code 0 = .ok (.aload_n 0, 1) := by decide +kernel
theorem d_jdk_42_method_3_1 : decode jdk_42_method_3_code 1 = .ok (.aload_n 1, 1) := by decide +kernel
theorem d_jdk_42_method_3_2 : decode jdk_42_method_3_code 2 = .ok (.iconst 0, 1) := by decide +kernel
theorem d_jdk_42_method_3_3 : decode jdk_42_method_3_code 3 = .ok (.aload_n 1, 1) := by decide +kernel
theorem d_jdk_42_method_3_4 : decode jdk_42_method_3_code 4 = .ok (.arraylength, 1) := by decide +kernel
theorem d_jdk_42_method_3_5 : decode jdk_42_method_3_code 5 = .ok (.aconst_null, 1) := by decide +kernel
theorem d_jdk_42_method_3_6 : decode jdk_42_method_3_code 6 = .ok (.invokespecial 27, 3) := by decide +kernel
theorem d_jdk_42_method_3_9 : decode jdk_42_method_3_code 9 = .ok (.return_, 1) := by decide +kernel
theorem d_jdk_42_method_152_0 : decode jdk_42_method_152_code 0 = .ok (.getstatic 38, 3) := by decide +kernel
theorem d_jdk_42_method_152_3 : decode jdk_42_method_152_code 3 = .ok (.ifCond .eq 10, 3) := by decide +kernel
theorem d_jdk_42_method_152_6 : decode jdk_42_method_152_code 6 = .ok (.aload_n 0, 1) := by decide +kernel
theorem d_jdk_42_method_152_7 : decode jdk_42_method_152_code 7 = .ok (.getfield 15, 3) := by decide +kernel
theorem d_jdk_42_method_152_10 : decode jdk_42_method_152_code 10 = .ok (.goto 4, 3) := by decide +kernel
theorem d_jdk_42_method_152_14 : decode jdk_42_method_152_code 14 = .ok (.ireturn, 1) := by decide +kernel
theorem d_jdk_42_method_54_0 : decode jdk_42_method_54_code 0 = .ok (.aload_n 0, 1) := by decide +kernel
theorem d_jdk_42_method_54_1 : decode jdk_42_method_54_code 1 = .ok (.getfield 9, 3) := by decide +kernel
theorem d_jdk_42_method_54_4 : decode jdk_42_method_54_code 4 = .ok (.arraylength, 1) := by decide +kernel
theorem d_jdk_42_method_54_5 : decode jdk_42_method_54_code 5 = .ok (.aload_n 0, 1) := by decide +kernel
theorem d_jdk_42_method_54_6 : decode jdk_42_method_54_code 6 = .ok (.invokevirtual 335, 3) := by decide +kernel
theorem d_jdk_42_method_54_9 : decode jdk_42_method_54_code 9 = .ok (.ishr, 1) := by decide +kernel
theorem d_jdk_42_method_54_10 : decode jdk_42_method_54_code 10 = .ok (.ireturn, 1) := by decide +kernel
theorem d_jdk_42_method_154_0 : decode jdk_42_method_154_code 0 = .ok (.getstatic 38, 3) := by decide +kernel
theorem d_jdk_42_method_154_3 : decode jdk_42_method_154_code 3 = .ok (.ifCond .eq 14, 3) := by decide +kernel
theorem d_jdk_42_method_154_6 : decode jdk_42_method_154_code 6 = .ok (.aload_n 0, 1) := by decide +kernel
theorem d_jdk_42_method_154_7 : decode jdk_42_method_154_code 7 = .ok (.getfield 15, 3) := by decide +kernel
theorem d_jdk_42_method_154_10 : decode jdk_42_method_154_code 10 = .ok (.ifCond .ne 7, 3) := by decide +kernel
theorem d_jdk_42_method_154_13 : decode jdk_42_method_154_code 13 = .ok (.iconst 1, 1) := by decide +kernel
theorem d_jdk_42_method_154_14 : decode jdk_42_method_154_code 14 = .ok (.goto 4, 3) := by decide +kernel
theorem d_jdk_42_method_154_18 : decode jdk_42_method_154_code 18 = .ok (.ireturn, 1) := by decide +kernel
theorem d_jdk_41_method_11_0 : decode jdk_41_method_11_code 0 = .ok (.iload_n 0, 1) := by decide +kernel
theorem d_jdk_41_method_11_1 : decode jdk_41_method_11_code 1 = .ok (.ifCond .lt 8, 3) := by decide +kernel
theorem d_jdk_41_method_11_4 : decode jdk_41_method_11_code 4 = .ok (.iload_n 0, 1) := by decide +kernel
theorem d_jdk_41_method_11_5 : decode jdk_41_method_11_code 5 = .ok (.iload_n 1, 1) := by decide +kernel
theorem d_jdk_41_method_11_6 : decode jdk_41_method_11_code 6 = .ok (.if_icmp .lt 10, 3) := by decide +kernel
theorem d_jdk_41_method_11_16 : decode jdk_41_method_11_code 16 = .ok (.iload_n 0, 1) := by decide +kernel
theorem d_jdk_41_method_11_17 : decode jdk_41_method_11_code 17 = .ok (.ireturn, 1) := by decide +kernel
theorem d_jdk_42_method_155_0 : decode jdk_42_method_155_code 0 = .ok (.iload_n 0, 1) := by decide +kernel
theorem d_jdk_42_method_155_1 : decode jdk_42_method_155_code 1 = .ok (.iload_n 1, 1) := by decide +kernel
theorem d_jdk_42_method_155_2 : decode jdk_42_method_155_code 2 = .ok (.getstatic 1053, 3) := by decide +kernel
theorem d_jdk_42_method_155_5 : decode jdk_42_method_155_code 5 = .ok (.invokestatic 1059, 3) := by decide +kernel
theorem d_jdk_42_method_155_8 : decode jdk_42_method_155_code 8 = .ok (.pop, 1) := by decide +kernel
theorem d_jdk_42_method_155_9 : decode jdk_42_method_155_code 9 = .ok (.return_, 1) := by decide +kernel
theorem d_jdk_43_method_2_0 : decode jdk_43_method_2_code 0 = .ok (.iload_n 1, 1) := by decide +kernel
theorem d_jdk_43_method_2_1 : decode jdk_43_method_2_code 1 = .ok (.aload_n 0, 1) := by decide +kernel
theorem d_jdk_43_method_2_2 : decode jdk_43_method_2_code 2 = .ok (.arraylength, 1) := by decide +kernel
theorem d_jdk_43_method_2_3 : decode jdk_43_method_2_code 3 = .ok (.invokestatic 9, 3) := by decide +kernel
theorem d_jdk_43_method_2_6 : decode jdk_43_method_2_code 6 = .ok (.aload_n 0, 1) := by decide +kernel
theorem d_jdk_43_method_2_7 : decode jdk_43_method_2_code 7 = .ok (.iload_n 1, 1) := by decide +kernel
theorem d_jdk_43_method_2_8 : decode jdk_43_method_2_code 8 = .ok (.baload, 1) := by decide +kernel
theorem d_jdk_43_method_2_9 : decode jdk_43_method_2_code 9 = .ok (.sipush 255, 3) := by decide +kernel
theorem d_jdk_43_method_2_12 : decode jdk_43_method_2_code 12 = .ok (.iand, 1) := by decide +kernel
theorem d_jdk_43_method_2_13 : decode jdk_43_method_2_code 13 = .ok (.i2c, 1) := by decide +kernel
theorem d_jdk_43_method_2_14 : decode jdk_43_method_2_code 14 = .ok (.ireturn, 1) := by decide +kernel
theorem d_jdk_42_method_56_0 : decode jdk_42_method_56_code 0 = .ok (.aload_n 0, 1) := by decide +kernel
theorem d_jdk_42_method_56_1 : decode jdk_42_method_56_code 1 = .ok (.invokevirtual 492, 3) := by decide +kernel
theorem d_jdk_42_method_56_4 : decode jdk_42_method_56_code 4 = .ok (.ifCond .eq 12, 3) := by decide +kernel
theorem d_jdk_42_method_56_7 : decode jdk_42_method_56_code 7 = .ok (.aload_n 0, 1) := by decide +kernel
theorem d_jdk_42_method_56_8 : decode jdk_42_method_56_code 8 = .ok (.getfield 9, 3) := by decide +kernel
theorem d_jdk_42_method_56_11 : decode jdk_42_method_56_code 11 = .ok (.iload_n 1, 1) := by decide +kernel
theorem d_jdk_42_method_56_12 : decode jdk_42_method_56_code 12 = .ok (.invokestatic 495, 3) := by decide +kernel
theorem d_jdk_42_method_56_15 : decode jdk_42_method_56_code 15 = .ok (.ireturn, 1) := by decide +kernel
theorem d_jdk_29_method_69_0 : decode jdk_29_method_69_code 0 = .ok (.iload_n 0, 1) := by decide +kernel
theorem d_jdk_29_method_69_1 : decode jdk_29_method_69_code 1 = .ok (.iload_n 1, 1) := by decide +kernel
theorem d_jdk_29_method_69_2 : decode jdk_29_method_69_code 2 = .ok (.if_icmp .gt 7, 3) := by decide +kernel
theorem d_jdk_29_method_69_9 : decode jdk_29_method_69_code 9 = .ok (.iload_n 1, 1) := by decide +kernel
theorem d_jdk_29_method_69_10 : decode jdk_29_method_69_code 10 = .ok (.ireturn, 1) := by decide +kernel
theorem d_jdk_29_method_69_5 : decode jdk_29_method_69_code 5 = .ok (.iload_n 0, 1) := by decide +kernel
theorem d_jdk_29_method_69_6 : decode jdk_29_method_69_code 6 = .ok (.goto 4, 3) := by decide +kernel
theorem d_jdk_65_method_131_0 : decode jdk_65_method_131_code 0 = .ok (.iload_n 1, 1) := by decide +kernel
theorem d_jdk_65_method_131_1 : decode jdk_65_method_131_code 1 = .ok (.iload_n 0, 1) := by decide +kernel
theorem d_jdk_65_method_131_2 : decode jdk_65_method_131_code 2 = .ok (.if_icmp .ge 35, 3) := by decide +kernel
theorem d_jdk_65_method_131_37 : decode jdk_65_method_131_code 37 = .ok (.return_, 1) := by decide +kernel
theorem d_jdk_65_method_133_0 : decode jdk_65_method_133_code 0 = .ok (.iload_n 1, 1) := by decide +kernel
theorem d_jdk_65_method_133_1 : decode jdk_65_method_133_code 1 = .ok (.iload_n 2, 1) := by decide +kernel
theorem d_jdk_65_method_133_2 : decode jdk_65_method_133_code 2 = .ok (.invokestatic 343, 3) := by decide +kernel
theorem d_jdk_65_method_133_5 : decode jdk_65_method_133_code 5 = .ok (.iload_n 2, 1) := by decide +kernel
theorem d_jdk_65_method_133_6 : decode jdk_65_method_133_code 6 = .ok (.iload_n 1, 1) := by decide +kernel
theorem d_jdk_65_method_133_7 : decode jdk_65_method_133_code 7 = .ok (.isub, 1) := by decide +kernel
theorem d_jdk_65_method_133_8 : decode jdk_65_method_133_code 8 = .ok (.istore_n 3, 1) := by decide +kernel
theorem d_jdk_65_method_133_9 : decode jdk_65_method_133_code 9 = .ok (.iload_n 3, 1) := by decide +kernel
theorem d_jdk_65_method_133_10 : decode jdk_65_method_133_code 10 = .ok (.newarray .byte, 2) := by decide +kernel
theorem d_jdk_65_method_133_12 : decode jdk_65_method_133_code 12 = .ok (.astore 4, 2) := by decide +kernel
theorem d_jdk_65_method_133_14 : decode jdk_65_method_133_code 14 = .ok (.aload_n 0, 1) := by decide +kernel
theorem d_jdk_65_method_133_15 : decode jdk_65_method_133_code 15 = .ok (.iload_n 1, 1) := by decide +kernel
theorem d_jdk_65_method_133_16 : decode jdk_65_method_133_code 16 = .ok (.aload 4, 2) := by decide +kernel
theorem d_jdk_65_method_133_18 : decode jdk_65_method_133_code 18 = .ok (.iconst 0, 1) := by decide +kernel
theorem d_jdk_65_method_133_19 : decode jdk_65_method_133_code 19 = .ok (.aload_n 0, 1) := by decide +kernel
theorem d_jdk_65_method_133_20 : decode jdk_65_method_133_code 20 = .ok (.arraylength, 1) := by decide +kernel
theorem d_jdk_65_method_133_21 : decode jdk_65_method_133_code 21 = .ok (.iload_n 1, 1) := by decide +kernel
theorem d_jdk_65_method_133_22 : decode jdk_65_method_133_code 22 = .ok (.isub, 1) := by decide +kernel
theorem d_jdk_65_method_133_23 : decode jdk_65_method_133_code 23 = .ok (.iload_n 3, 1) := by decide +kernel
theorem d_jdk_65_method_133_24 : decode jdk_65_method_133_code 24 = .ok (.invokestatic 304, 3) := by decide +kernel
theorem d_jdk_65_method_133_27 : decode jdk_65_method_133_code 27 = .ok (.invokestatic 150, 3) := by decide +kernel
theorem d_jdk_65_method_133_30 : decode jdk_65_method_133_code 30 = .ok (.aload 4, 2) := by decide +kernel
theorem d_jdk_65_method_133_32 : decode jdk_65_method_133_code 32 = .ok (.areturn, 1) := by decide +kernel
theorem d_jdk_65_method_132_0 : decode jdk_65_method_132_code 0 = .ok (.iload_n 1, 1) := by decide +kernel
theorem d_jdk_65_method_132_1 : decode jdk_65_method_132_code 1 = .ok (.ifCond .ne 9, 3) := by decide +kernel
theorem d_jdk_65_method_132_10 : decode jdk_65_method_132_code 10 = .ok (.aload_n 0, 1) := by decide +kernel
theorem d_jdk_65_method_132_11 : decode jdk_65_method_132_code 11 = .ok (.iload_n 1, 1) := by decide +kernel
theorem d_jdk_65_method_132_12 : decode jdk_65_method_132_code 12 = .ok (.iload_n 2, 1) := by decide +kernel
theorem d_jdk_65_method_132_13 : decode jdk_65_method_132_code 13 = .ok (.invokestatic 339, 3) := by decide +kernel
theorem d_jdk_65_method_132_16 : decode jdk_65_method_132_code 16 = .ok (.areturn, 1) := by decide +kernel
theorem d_jdk_65_method_132_4 : decode jdk_65_method_132_code 4 = .ok (.iload_n 2, 1) := by decide +kernel
theorem d_jdk_65_method_132_5 : decode jdk_65_method_132_code 5 = .ok (.aload_n 0, 1) := by decide +kernel
theorem d_jdk_65_method_132_6 : decode jdk_65_method_132_code 6 = .ok (.arraylength, 1) := by decide +kernel
theorem d_jdk_65_method_132_7 : decode jdk_65_method_132_code 7 = .ok (.if_icmp .eq 10, 3) := by decide +kernel
theorem d_jdk_68_method_2_0 : decode jdk_68_method_2_code 0 = .ok (.aload_n 0, 1) := by decide +kernel
theorem d_jdk_68_method_2_1 : decode jdk_68_method_2_code 1 = .ok (.invokespecial 3, 3) := by decide +kernel
theorem d_jdk_68_method_2_4 : decode jdk_68_method_2_code 4 = .ok (.getstatic 18, 3) := by decide +kernel
theorem d_jdk_68_method_2_7 : decode jdk_68_method_2_code 7 = .ok (.ifCond .eq 18, 3) := by decide +kernel
theorem d_jdk_68_method_2_10 : decode jdk_68_method_2_code 10 = .ok (.aload_n 0, 1) := by decide +kernel
theorem d_jdk_68_method_2_11 : decode jdk_68_method_2_code 11 = .ok (.iload_n 1, 1) := by decide +kernel
theorem d_jdk_68_method_2_12 : decode jdk_68_method_2_code 12 = .ok (.newarray .byte, 2) := by decide +kernel
theorem d_jdk_68_method_2_14 : decode jdk_68_method_2_code 14 = .ok (.putfield 15, 3) := by decide +kernel
theorem d_jdk_68_method_2_17 : decode jdk_68_method_2_code 17 = .ok (.aload_n 0, 1) := by decide +kernel
theorem d_jdk_68_method_2_18 : decode jdk_68_method_2_code 18 = .ok (.iconst 0, 1) := by decide +kernel
theorem d_jdk_68_method_2_19 : decode jdk_68_method_2_code 19 = .ok (.putfield 22, 3) := by decide +kernel
theorem d_jdk_68_method_2_22 : decode jdk_68_method_2_code 22 = .ok (.goto 16, 3) := by decide +kernel
theorem d_jdk_68_method_2_38 : decode jdk_68_method_2_code 38 = .ok (.return_, 1) := by decide +kernel
theorem d_jdk_67_method_1_0 : decode jdk_67_method_1_code 0 = .ok (.aload_n 0, 1) := by decide +kernel
theorem d_jdk_67_method_1_1 : decode jdk_67_method_1_code 1 = .ok (.bipush 16, 2) := by decide +kernel
theorem d_jdk_67_method_1_3 : decode jdk_67_method_1_code 3 = .ok (.invokespecial 1, 3) := by decide +kernel
theorem d_jdk_67_method_1_6 : decode jdk_67_method_1_code 6 = .ok (.return_, 1) := by decide +kernel
theorem d_jdk_29_method_65_0 : decode jdk_29_method_65_code 0 = .ok (.iload_n 0, 1) := by decide +kernel
theorem d_jdk_29_method_65_1 : decode jdk_29_method_65_code 1 = .ok (.iload_n 1, 1) := by decide +kernel
theorem d_jdk_29_method_65_2 : decode jdk_29_method_65_code 2 = .ok (.if_icmp .lt 7, 3) := by decide +kernel
theorem d_jdk_29_method_65_9 : decode jdk_29_method_65_code 9 = .ok (.iload_n 1, 1) := by decide +kernel
theorem d_jdk_29_method_65_10 : decode jdk_29_method_65_code 10 = .ok (.ireturn, 1) := by decide +kernel
theorem d_jdk_29_method_65_5 : decode jdk_29_method_65_code 5 = .ok (.iload_n 0, 1) := by decide +kernel
theorem d_jdk_29_method_65_6 : decode jdk_29_method_65_code 6 = .ok (.goto 4, 3) := by decide +kernel
theorem d_jdk_48_method_27_0 : decode jdk_48_method_27_code 0 = .ok (.iload_n 0, 1) := by decide +kernel
theorem d_jdk_48_method_27_1 : decode jdk_48_method_27_code 1 = .ok (.iload_n 1, 1) := by decide +kernel
theorem d_jdk_48_method_27_2 : decode jdk_48_method_27_code 2 = .ok (.iload_n 2, 1) := by decide +kernel
theorem d_jdk_48_method_27_3 : decode jdk_48_method_27_code 3 = .ok (.invokestatic 194, 3) := by decide +kernel
theorem d_jdk_48_method_27_6 : decode jdk_48_method_27_code 6 = .ok (.iadd, 1) := by decide +kernel
theorem d_jdk_48_method_27_7 : decode jdk_48_method_27_code 7 = .ok (.istore_n 3, 1) := by decide +kernel
theorem d_jdk_48_method_27_8 : decode jdk_48_method_27_code 8 = .ok (.iconst 0, 1) := by decide +kernel
theorem d_jdk_48_method_27_9 : decode jdk_48_method_27_code 9 = .ok (.iload_n 3, 1) := by decide +kernel
theorem d_jdk_48_method_27_10 : decode jdk_48_method_27_code 10 = .ok (.if_icmp .ge 11, 3) := by decide +kernel
theorem d_jdk_48_method_27_13 : decode jdk_48_method_27_code 13 = .ok (.iload_n 3, 1) := by decide +kernel
theorem d_jdk_48_method_27_14 : decode jdk_48_method_27_code 14 = .ok (.ldc 200, 2) := by decide +kernel
theorem d_jdk_48_method_27_16 : decode jdk_48_method_27_code 16 = .ok (.if_icmp .gt 5, 3) := by decide +kernel
theorem d_jdk_48_method_27_19 : decode jdk_48_method_27_code 19 = .ok (.iload_n 3, 1) := by decide +kernel
theorem d_jdk_48_method_27_20 : decode jdk_48_method_27_code 20 = .ok (.ireturn, 1) := by decide +kernel
theorem d_jdk_68_method_10_0 : decode jdk_68_method_10_code 0 = .ok (.aload_n 0, 1) := by decide +kernel
theorem d_jdk_68_method_10_1 : decode jdk_68_method_10_code 1 = .ok (.getfield 15, 3) := by decide +kernel
theorem d_jdk_68_method_10_4 : decode jdk_68_method_10_code 4 = .ok (.arraylength, 1) := by decide +kernel
theorem d_jdk_68_method_10_5 : decode jdk_68_method_10_code 5 = .ok (.istore_n 2, 1) := by decide +kernel
theorem d_jdk_68_method_10_6 : decode jdk_68_method_10_code 6 = .ok (.iload_n 1, 1) := by decide +kernel
theorem d_jdk_68_method_10_7 : decode jdk_68_method_10_code 7 = .ok (.aload_n 0, 1) := by decide +kernel
theorem d_jdk_68_method_10_8 : decode jdk_68_method_10_code 8 = .ok (.getfield 22, 3) := by decide +kernel
theorem d_jdk_68_method_10_11 : decode jdk_68_method_10_code 11 = .ok (.ishl, 1) := by decide +kernel
theorem d_jdk_68_method_10_12 : decode jdk_68_method_10_code 12 = .ok (.istore_n 3, 1) := by decide +kernel
theorem d_jdk_68_method_10_13 : decode jdk_68_method_10_code 13 = .ok (.iload_n 3, 1) := by decide +kernel
theorem d_jdk_68_method_10_14 : decode jdk_68_method_10_code 14 = .ok (.iload_n 2, 1) := by decide +kernel
theorem d_jdk_68_method_10_15 : decode jdk_68_method_10_code 15 = .ok (.isub, 1) := by decide +kernel
theorem d_jdk_68_method_10_16 : decode jdk_68_method_10_code 16 = .ok (.istore 4, 2) := by decide +kernel
theorem d_jdk_68_method_10_18 : decode jdk_68_method_10_code 18 = .ok (.iload_n 2, 1) := by decide +kernel
theorem d_jdk_68_method_10_19 : decode jdk_68_method_10_code 19 = .ok (.iload 4, 2) := by decide +kernel
theorem d_jdk_68_method_10_21 : decode jdk_68_method_10_code 21 = .ok (.iload_n 2, 1) := by decide +kernel
theorem d_jdk_68_method_10_22 : decode jdk_68_method_10_code 22 = .ok (.iconst 2, 1) := by decide +kernel
theorem d_jdk_68_method_10_23 : decode jdk_68_method_10_code 23 = .ok (.aload_n 0, 1) := by decide +kernel
theorem d_jdk_68_method_10_24 : decode jdk_68_method_10_code 24 = .ok (.getfield 22, 3) := by decide +kernel
theorem d_jdk_68_method_10_27 : decode jdk_68_method_10_code 27 = .ok (.ishl, 1) := by decide +kernel
theorem d_jdk_68_method_10_28 : decode jdk_68_method_10_code 28 = .ok (.iadd, 1) := by decide +kernel
theorem d_jdk_68_method_10_29 : decode jdk_68_method_10_code 29 = .ok (.invokestatic 114, 3) := by decide +kernel
theorem d_jdk_68_method_10_32 : decode jdk_68_method_10_code 32 = .ok (.istore 5, 2) := by decide +kernel
theorem d_jdk_68_method_10_34 : decode jdk_68_method_10_code 34 = .ok (.iload 5, 2) := by decide +kernel
theorem d_jdk_68_method_10_36 : decode jdk_68_method_10_code 36 = .ok (.ldc 39, 2) := by decide +kernel
theorem d_jdk_68_method_10_38 : decode jdk_68_method_10_code 38 = .ok (.if_icmp .ne 13, 3) := by decide +kernel
theorem d_jdk_68_method_10_51 : decode jdk_68_method_10_code 51 = .ok (.iload 5, 2) := by decide +kernel
theorem d_jdk_68_method_10_53 : decode jdk_68_method_10_code 53 = .ok (.aload_n 0, 1) := by decide +kernel
theorem d_jdk_68_method_10_54 : decode jdk_68_method_10_code 54 = .ok (.getfield 22, 3) := by decide +kernel
theorem d_jdk_68_method_10_57 : decode jdk_68_method_10_code 57 = .ok (.ishr, 1) := by decide +kernel
theorem d_jdk_68_method_10_58 : decode jdk_68_method_10_code 58 = .ok (.ireturn, 1) := by decide +kernel
theorem d_jdk_65_method_121_0 : decode jdk_65_method_121_code 0 = .ok (.iload_n 1, 1) := by decide +kernel
theorem d_jdk_65_method_121_1 : decode jdk_65_method_121_code 1 = .ok (.aload_n 0, 1) := by decide +kernel
theorem d_jdk_65_method_121_2 : decode jdk_65_method_121_code 2 = .ok (.arraylength, 1) := by decide +kernel
theorem d_jdk_65_method_121_3 : decode jdk_65_method_121_code 3 = .ok (.if_icmp .ne 11, 3) := by decide +kernel
theorem d_jdk_65_method_121_14 : decode jdk_65_method_121_code 14 = .ok (.iload_n 1, 1) := by decide +kernel
theorem d_jdk_65_method_121_15 : decode jdk_65_method_121_code 15 = .ok (.newarray .byte, 2) := by decide +kernel
theorem d_jdk_65_method_121_17 : decode jdk_65_method_121_code 17 = .ok (.astore_n 2, 1) := by decide +kernel
theorem d_jdk_65_method_121_18 : decode jdk_65_method_121_code 18 = .ok (.aload_n 0, 1) := by decide +kernel
theorem d_jdk_65_method_121_19 : decode jdk_65_method_121_code 19 = .ok (.iconst 0, 1) := by decide +kernel
theorem d_jdk_65_method_121_20 : decode jdk_65_method_121_code 20 = .ok (.aload_n 2, 1) := by decide +kernel
theorem d_jdk_65_method_121_21 : decode jdk_65_method_121_code 21 = .ok (.iconst 0, 1) := by decide +kernel
theorem d_jdk_65_method_121_22 : decode jdk_65_method_121_code 22 = .ok (.aload_n 0, 1) := by decide +kernel
theorem d_jdk_65_method_121_23 : decode jdk_65_method_121_code 23 = .ok (.arraylength, 1) := by decide +kernel
theorem d_jdk_65_method_121_24 : decode jdk_65_method_121_code 24 = .ok (.iload_n 1, 1) := by decide +kernel
theorem d_jdk_65_method_121_25 : decode jdk_65_method_121_code 25 = .ok (.invokestatic 304, 3) := by decide +kernel
theorem d_jdk_65_method_121_28 : decode jdk_65_method_121_code 28 = .ok (.invokestatic 150, 3) := by decide +kernel
theorem d_jdk_65_method_121_31 : decode jdk_65_method_121_code 31 = .ok (.aload_n 2, 1) := by decide +kernel
theorem d_jdk_65_method_121_32 : decode jdk_65_method_121_code 32 = .ok (.areturn, 1) := by decide +kernel
theorem d_jdk_68_method_9_0 : decode jdk_68_method_9_code 0 = .ok (.aload_n 0, 1) := by decide +kernel
theorem d_jdk_68_method_9_1 : decode jdk_68_method_9_code 1 = .ok (.getfield 15, 3) := by decide +kernel
theorem d_jdk_68_method_9_4 : decode jdk_68_method_9_code 4 = .ok (.arraylength, 1) := by decide +kernel
theorem d_jdk_68_method_9_5 : decode jdk_68_method_9_code 5 = .ok (.aload_n 0, 1) := by decide +kernel
theorem d_jdk_68_method_9_6 : decode jdk_68_method_9_code 6 = .ok (.getfield 22, 3) := by decide +kernel
theorem d_jdk_68_method_9_9 : decode jdk_68_method_9_code 9 = .ok (.ishr, 1) := by decide +kernel
theorem d_jdk_68_method_9_10 : decode jdk_68_method_9_code 10 = .ok (.istore_n 2, 1) := by decide +kernel
theorem d_jdk_68_method_9_11 : decode jdk_68_method_9_code 11 = .ok (.iload_n 1, 1) := by decide +kernel
theorem d_jdk_68_method_9_12 : decode jdk_68_method_9_code 12 = .ok (.iload_n 2, 1) := by decide +kernel
theorem d_jdk_68_method_9_13 : decode jdk_68_method_9_code 13 = .ok (.isub, 1) := by decide +kernel
theorem d_jdk_68_method_9_14 : decode jdk_68_method_9_code 14 = .ok (.ifCond .le 24, 3) := by decide +kernel
theorem d_jdk_68_method_9_17 : decode jdk_68_method_9_code 17 = .ok (.aload_n 0, 1) := by decide +kernel
theorem d_jdk_68_method_9_18 : decode jdk_68_method_9_code 18 = .ok (.aload_n 0, 1) := by decide +kernel
theorem d_jdk_68_method_9_19 : decode jdk_68_method_9_code 19 = .ok (.getfield 15, 3) := by decide +kernel
theorem d_jdk_68_method_9_22 : decode jdk_68_method_9_code 22 = .ok (.aload_n 0, 1) := by decide +kernel
theorem d_jdk_68_method_9_23 : decode jdk_68_method_9_code 23 = .ok (.iload_n 1, 1) := by decide +kernel
theorem d_jdk_68_method_9_24 : decode jdk_68_method_9_code 24 = .ok (.invokevirtual 104, 3) := by decide +kernel
theorem d_jdk_68_method_9_27 : decode jdk_68_method_9_code 27 = .ok (.aload_n 0, 1) := by decide +kernel
theorem d_jdk_68_method_9_28 : decode jdk_68_method_9_code 28 = .ok (.getfield 22, 3) := by decide +kernel
theorem d_jdk_68_method_9_31 : decode jdk_68_method_9_code 31 = .ok (.ishl, 1) := by decide +kernel
theorem d_jdk_68_method_9_32 : decode jdk_68_method_9_code 32 = .ok (.invokestatic 108, 3) := by decide +kernel
theorem d_jdk_68_method_9_35 : decode jdk_68_method_9_code 35 = .ok (.putfield 15, 3) := by decide +kernel
theorem d_jdk_68_method_9_38 : decode jdk_68_method_9_code 38 = .ok (.return_, 1) := by decide +kernel
theorem d_jdk_68_method_71_0 : decode jdk_68_method_71_code 0 = .ok (.getstatic 18, 3) := by decide +kernel
theorem d_jdk_68_method_71_3 : decode jdk_68_method_71_code 3 = .ok (.ifCond .eq 18, 3) := by decide +kernel
theorem d_jdk_68_method_71_6 : decode jdk_68_method_71_code 6 = .ok (.aload_n 0, 1) := by decide +kernel
theorem d_jdk_68_method_71_7 : decode jdk_68_method_71_code 7 = .ok (.getfield 22, 3) := by decide +kernel
theorem d_jdk_68_method_71_10 : decode jdk_68_method_71_code 10 = .ok (.aload_n 1, 1) := by decide +kernel
theorem d_jdk_68_method_71_11 : decode jdk_68_method_71_code 11 = .ok (.invokevirtual 40, 3) := by decide +kernel
theorem d_jdk_68_method_71_14 : decode jdk_68_method_71_code 14 = .ok (.if_icmp .eq 7, 3) := by decide +kernel
theorem d_jdk_68_method_71_21 : decode jdk_68_method_71_code 21 = .ok (.return_, 1) := by decide +kernel
theorem d_jdk_42_method_147_0 : decode jdk_42_method_147_code 0 = .ok (.aload_n 0, 1) := by decide +kernel
theorem d_jdk_42_method_147_1 : decode jdk_42_method_147_code 1 = .ok (.invokevirtual 335, 3) := by decide +kernel
theorem d_jdk_42_method_147_4 : decode jdk_42_method_147_code 4 = .ok (.iload_n 3, 1) := by decide +kernel
theorem d_jdk_42_method_147_5 : decode jdk_42_method_147_code 5 = .ok (.if_icmp .ne 23, 3) := by decide +kernel
theorem d_jdk_42_method_147_8 : decode jdk_42_method_147_code 8 = .ok (.aload_n 0, 1) := by decide +kernel
theorem d_jdk_42_method_147_9 : decode jdk_42_method_147_code 9 = .ok (.getfield 9, 3) := by decide +kernel
theorem d_jdk_42_method_147_12 : decode jdk_42_method_147_code 12 = .ok (.iconst 0, 1) := by decide +kernel
theorem d_jdk_42_method_147_13 : decode jdk_42_method_147_code 13 = .ok (.aload_n 1, 1) := by decide +kernel
theorem d_jdk_42_method_147_14 : decode jdk_42_method_147_code 14 = .ok (.iload_n 2, 1) := by decide +kernel
theorem d_jdk_42_method_147_15 : decode jdk_42_method_147_code 15 = .ok (.iload_n 3, 1) := by decide +kernel
theorem d_jdk_42_method_147_16 : decode jdk_42_method_147_code 16 = .ok (.ishl, 1) := by decide +kernel
theorem d_jdk_42_method_147_17 : decode jdk_42_method_147_code 17 = .ok (.aload_n 0, 1) := by decide +kernel
theorem d_jdk_42_method_147_18 : decode jdk_42_method_147_code 18 = .ok (.getfield 9, 3) := by decide +kernel
theorem d_jdk_42_method_147_21 : decode jdk_42_method_147_code 21 = .ok (.arraylength, 1) := by decide +kernel
theorem d_jdk_42_method_147_22 : decode jdk_42_method_147_code 22 = .ok (.invokestatic 212, 3) := by decide +kernel
theorem d_jdk_42_method_147_25 : decode jdk_42_method_147_code 25 = .ok (.goto 18, 3) := by decide +kernel
theorem d_jdk_42_method_147_43 : decode jdk_42_method_147_code 43 = .ok (.return_, 1) := by decide +kernel
theorem d_jdk_68_method_73_0 : decode jdk_68_method_73_code 0 = .ok (.aload_n 0, 1) := by decide +kernel
theorem d_jdk_68_method_73_1 : decode jdk_68_method_73_code 1 = .ok (.aload_n 2, 1) := by decide +kernel
theorem d_jdk_68_method_73_2 : decode jdk_68_method_73_code 2 = .ok (.invokevirtual 397, 3) := by decide +kernel
theorem d_jdk_68_method_73_5 : decode jdk_68_method_73_code 5 = .ok (.aload_n 2, 1) := by decide +kernel
theorem d_jdk_68_method_73_6 : decode jdk_68_method_73_code 6 = .ok (.aload_n 0, 1) := by decide +kernel
theorem d_jdk_68_method_73_7 : decode jdk_68_method_73_code 7 = .ok (.getfield 15, 3) := by decide +kernel
theorem d_jdk_68_method_73_10 : decode jdk_68_method_73_code 10 = .ok (.iload_n 1, 1) := by decide +kernel
theorem d_jdk_68_method_73_11 : decode jdk_68_method_73_code 11 = .ok (.aload_n 0, 1) := by decide +kernel
theorem d_jdk_68_method_73_12 : decode jdk_68_method_73_code 12 = .ok (.getfield 22, 3) := by decide +kernel
theorem d_jdk_68_method_73_15 : decode jdk_68_method_73_code 15 = .ok (.invokevirtual 399, 3) := by decide +kernel
theorem d_jdk_68_method_73_18 : decode jdk_68_method_73_code 18 = .ok (.return_, 1) := by decide +kernel
theorem d_jdk_68_method_22_0 : decode jdk_68_method_22_code 0 = .ok (.aload_n 1, 1) := by decide +kernel
theorem d_jdk_68_method_22_1 : decode jdk_68_method_22_code 1 = .ok (.ifnonnull 8, 3) := by decide +kernel
theorem d_jdk_68_method_22_9 : decode jdk_68_method_22_code 9 = .ok (.aload_n 1, 1) := by decide +kernel
theorem d_jdk_68_method_22_10 : decode jdk_68_method_22_code 10 = .ok (.invokevirtual 32, 3) := by decide +kernel
theorem d_jdk_68_method_22_13 : decode jdk_68_method_22_code 13 = .ok (.istore_n 2, 1) := by decide +kernel
theorem d_jdk_68_method_22_14 : decode jdk_68_method_22_code 14 = .ok (.aload_n 0, 1) := by decide +kernel
theorem d_jdk_68_method_22_15 : decode jdk_68_method_22_code 15 = .ok (.aload_n 0, 1) := by decide +kernel
theorem d_jdk_68_method_22_16 : decode jdk_68_method_22_code 16 = .ok (.getfield 79, 3) := by decide +kernel
theorem d_jdk_68_method_22_19 : decode jdk_68_method_22_code 19 = .ok (.iload_n 2, 1) := by decide +kernel
theorem d_jdk_68_method_22_20 : decode jdk_68_method_22_code 20 = .ok (.iadd, 1) := by decide +kernel
theorem d_jdk_68_method_22_21 : decode jdk_68_method_22_code 21 = .ok (.invokevirtual 100, 3) := by decide +kernel
theorem d_jdk_68_method_22_24 : decode jdk_68_method_22_code 24 = .ok (.aload_n 0, 1) := by decide +kernel
theorem d_jdk_68_method_22_25 : decode jdk_68_method_22_code 25 = .ok (.aload_n 0, 1) := by decide +kernel
theorem d_jdk_68_method_22_26 : decode jdk_68_method_22_code 26 = .ok (.getfield 79, 3) := by decide +kernel
theorem d_jdk_68_method_22_29 : decode jdk_68_method_22_code 29 = .ok (.aload_n 1, 1) := by decide +kernel
theorem d_jdk_68_method_22_30 : decode jdk_68_method_22_code 30 = .ok (.invokevirtual 208, 3) := by decide +kernel
theorem d_jdk_68_method_22_33 : decode jdk_68_method_22_code 33 = .ok (.aload_n 0, 1) := by decide +kernel
theorem d_jdk_68_method_22_34 : decode jdk_68_method_22_code 34 = .ok (.dup, 1) := by decide +kernel
theorem d_jdk_68_method_22_35 : decode jdk_68_method_22_code 35 = .ok (.getfield 79, 3) := by decide +kernel
theorem d_jdk_68_method_22_38 : decode jdk_68_method_22_code 38 = .ok (.iload_n 2, 1) := by decide +kernel
theorem d_jdk_68_method_22_39 : decode jdk_68_method_22_code 39 = .ok (.iadd, 1) := by decide +kernel
theorem d_jdk_68_method_22_40 : decode jdk_68_method_22_code 40 = .ok (.putfield 79, 3) := by decide +kernel
theorem d_jdk_68_method_22_43 : decode jdk_68_method_22_code 43 = .ok (.aload_n 0, 1) := by decide +kernel
theorem d_jdk_68_method_22_44 : decode jdk_68_method_22_code 44 = .ok (.areturn, 1) := by decide +kernel
theorem d_jdk_67_method_7_0 : decode jdk_67_method_7_code 0 = .ok (.aload_n 0, 1) := by decide +kernel
theorem d_jdk_67_method_7_1 : decode jdk_67_method_7_code 1 = .ok (.aload_n 1, 1) := by decide +kernel
theorem d_jdk_67_method_7_2 : decode jdk_67_method_7_code 2 = .ok (.invokespecial 29, 3) := by decide +kernel
theorem d_jdk_67_method_7_5 : decode jdk_67_method_7_code 5 = .ok (.pop, 1) := by decide +kernel
theorem d_jdk_67_method_7_6 : decode jdk_67_method_7_code 6 = .ok (.aload_n 0, 1) := by decide +kernel
theorem d_jdk_67_method_7_7 : decode jdk_67_method_7_code 7 = .ok (.areturn, 1) := by decide +kernel
theorem d_jdk_68_method_64_0 : decode jdk_68_method_64_code 0 = .ok (.aload_n 0, 1) := by decide +kernel
theorem d_jdk_68_method_64_1 : decode jdk_68_method_64_code 1 = .ok (.getfield 15, 3) := by decide +kernel
theorem d_jdk_68_method_64_4 : decode jdk_68_method_64_code 4 = .ok (.areturn, 1) := by decide +kernel
theorem d_jdk_68_method_6_0 : decode jdk_68_method_6_code 0 = .ok (.aload_n 0, 1) := by decide +kernel
theorem d_jdk_68_method_6_1 : decode jdk_68_method_6_code 1 = .ok (.getfield 79, 3) := by decide +kernel
theorem d_jdk_68_method_6_4 : decode jdk_68_method_6_code 4 = .ok (.ireturn, 1) := by decide +kernel
theorem d_jdk_67_method_93_0 : decode jdk_67_method_93_code 0 = .ok (.aload_n 0, 1) := by decide +kernel
theorem d_jdk_67_method_93_1 : decode jdk_67_method_93_code 1 = .ok (.invokespecial 343, 3) := by decide +kernel
theorem d_jdk_67_method_93_4 : decode jdk_67_method_93_code 4 = .ok (.ireturn, 1) := by decide +kernel
theorem d_jdk_68_method_68_0 : decode jdk_68_method_68_code 0 = .ok (.getstatic 18, 3) := by decide +kernel
theorem d_jdk_68_method_68_3 : decode jdk_68_method_68_code 3 = .ok (.ifCond .eq 14, 3) := by decide +kernel
theorem d_jdk_68_method_68_6 : decode jdk_68_method_68_code 6 = .ok (.aload_n 0, 1) := by decide +kernel
theorem d_jdk_68_method_68_7 : decode jdk_68_method_68_code 7 = .ok (.getfield 22, 3) := by decide +kernel
theorem d_jdk_68_method_68_10 : decode jdk_68_method_68_code 10 = .ok (.ifCond .ne 7, 3) := by decide +kernel
theorem d_jdk_68_method_68_13 : decode jdk_68_method_68_code 13 = .ok (.iconst 1, 1) := by decide +kernel
theorem d_jdk_68_method_68_14 : decode jdk_68_method_68_code 14 = .ok (.goto 4, 3) := by decide +kernel
theorem d_jdk_68_method_68_18 : decode jdk_68_method_68_code 18 = .ok (.ireturn, 1) := by decide +kernel
theorem d_jdk_42_method_150_0 : decode jdk_42_method_150_code 0 = .ok (.aload_n 0, 1) := by decide +kernel
theorem d_jdk_42_method_150_1 : decode jdk_42_method_150_code 1 = .ok (.invokespecial 1, 3) := by decide +kernel
theorem d_jdk_42_method_150_4 : decode jdk_42_method_150_code 4 = .ok (.aload_n 1, 1) := by decide +kernel
theorem d_jdk_42_method_150_5 : decode jdk_42_method_150_code 5 = .ok (.invokevirtual 552, 3) := by decide +kernel
theorem d_jdk_42_method_150_8 : decode jdk_42_method_150_code 8 = .ok (.astore_n 3, 1) := by decide +kernel
theorem d_jdk_42_method_150_9 : decode jdk_42_method_150_code 9 = .ok (.aload_n 1, 1) := by decide +kernel
theorem d_jdk_42_method_150_10 : decode jdk_42_method_150_code 10 = .ok (.invokevirtual 549, 3) := by decide +kernel
theorem d_jdk_42_method_150_13 : decode jdk_42_method_150_code 13 = .ok (.istore 4, 2) := by decide +kernel
theorem d_jdk_42_method_150_15 : decode jdk_42_method_150_code 15 = .ok (.aload_n 1, 1) := by decide +kernel
theorem d_jdk_42_method_150_16 : decode jdk_42_method_150_code 16 = .ok (.invokevirtual 1047, 3) := by decide +kernel
theorem d_jdk_42_method_150_19 : decode jdk_42_method_150_code 19 = .ok (.ifCond .eq 22, 3) := by decide +kernel
theorem d_jdk_42_method_150_22 : decode jdk_42_method_150_code 22 = .ok (.aload_n 0, 1) := by decide +kernel
theorem d_jdk_42_method_150_23 : decode jdk_42_method_150_code 23 = .ok (.iconst 0, 1) := by decide +kernel
theorem d_jdk_42_method_150_24 : decode jdk_42_method_150_code 24 = .ok (.putfield 15, 3) := by decide +kernel
theorem d_jdk_42_method_150_27 : decode jdk_42_method_150_code 27 = .ok (.aload_n 0, 1) := by decide +kernel
theorem d_jdk_42_method_150_28 : decode jdk_42_method_150_code 28 = .ok (.aload_n 3, 1) := by decide +kernel
theorem d_jdk_42_method_150_29 : decode jdk_42_method_150_code 29 = .ok (.iconst 0, 1) := by decide +kernel
theorem d_jdk_42_method_150_30 : decode jdk_42_method_150_code 30 = .ok (.iload 4, 2) := by decide +kernel
theorem d_jdk_42_method_150_32 : decode jdk_42_method_150_code 32 = .ok (.invokestatic 54, 3) := by decide +kernel
theorem d_jdk_42_method_150_35 : decode jdk_42_method_150_code 35 = .ok (.putfield 9, 3) := by decide +kernel
theorem d_jdk_42_method_150_38 : decode jdk_42_method_150_code 38 = .ok (.goto 59, 3) := by decide +kernel
theorem d_jdk_42_method_150_97 : decode jdk_42_method_150_code 97 = .ok (.return_, 1) := by decide +kernel
theorem d_jdk_42_method_53_0 : decode jdk_42_method_53_code 0 = .ok (.aload_n 0, 1) := by decide +kernel
theorem d_jdk_42_method_53_1 : decode jdk_42_method_53_code 1 = .ok (.aload_n 1, 1) := by decide +kernel
theorem d_jdk_42_method_53_2 : decode jdk_42_method_53_code 2 = .ok (.aconst_null, 1) := by decide +kernel
theorem d_jdk_42_method_53_3 : decode jdk_42_method_53_code 3 = .ok (.invokespecial 489, 3) := by decide +kernel
theorem d_jdk_42_method_53_6 : decode jdk_42_method_53_code 6 = .ok (.return_, 1) := by decide +kernel
theorem d_jdk_67_method_42_0 : decode jdk_67_method_42_code 0 = .ok (.new 18, 3) := by decide +kernel
theorem d_jdk_67_method_42_3 : decode jdk_67_method_42_code 3 = .ok (.dup, 1) := by decide +kernel
theorem d_jdk_67_method_42_4 : decode jdk_67_method_42_code 4 = .ok (.aload_n 0, 1) := by decide +kernel
theorem d_jdk_67_method_42_5 : decode jdk_67_method_42_code 5 = .ok (.invokespecial 137, 3) := by decide +kernel
theorem d_jdk_67_method_42_8 : decode jdk_67_method_42_code 8 = .ok (.areturn, 1) := by decide +kernel
theorem d_method_3_0 : decode method_3_code 0 = .ok (.iload_n 0, 1) := by decide +kernel
theorem d_method_3_1 : decode method_3_code 1 = .ok (.sipush 255, 3) := by decide +kernel
theorem d_method_3_4 : decode method_3_code 4 = .ok (.iand, 1) := by decide +kernel
theorem d_method_3_5 : decode method_3_code 5 = .ok (.i2c, 1) := by decide +kernel
theorem d_method_3_6 : decode method_3_code 6 = .ok (.istore_n 2, 1) := by decide +kernel
theorem d_method_3_7 : decode method_3_code 7 = .ok (.iload_n 0, 1) := by decide +kernel
theorem d_method_3_8 : decode method_3_code 8 = .ok (.bipush 8, 2) := by decide +kernel
theorem d_method_3_10 : decode method_3_code 10 = .ok (.iushr, 1) := by decide +kernel
theorem d_method_3_11 : decode method_3_code 11 = .ok (.sipush 255, 3) := by decide +kernel
theorem d_method_3_14 : decode method_3_code 14 = .ok (.iand, 1) := by decide +kernel
theorem d_method_3_15 : decode method_3_code 15 = .ok (.i2c, 1) := by decide +kernel
theorem d_method_3_16 : decode method_3_code 16 = .ok (.istore_n 3, 1) := by decide +kernel
theorem d_method_3_17 : decode method_3_code 17 = .ok (.iload_n 0, 1) := by decide +kernel
theorem d_method_3_18 : decode method_3_code 18 = .ok (.bipush 16, 2) := by decide +kernel
theorem d_method_3_20 : decode method_3_code 20 = .ok (.iushr, 1) := by decide +kernel
theorem d_method_3_21 : decode method_3_code 21 = .ok (.sipush 255, 3) := by decide +kernel
theorem d_method_3_24 : decode method_3_code 24 = .ok (.iand, 1) := by decide +kernel
theorem d_method_3_25 : decode method_3_code 25 = .ok (.i2c, 1) := by decide +kernel
theorem d_method_3_26 : decode method_3_code 26 = .ok (.istore 4, 2) := by decide +kernel
theorem d_method_3_28 : decode method_3_code 28 = .ok (.iload_n 1, 1) := by decide +kernel
theorem d_method_3_29 : decode method_3_code 29 = .ok (.ifCond .ne 14, 3) := by decide +kernel
theorem d_method_3_32 : decode method_3_code 32 = .ok (.new 28, 3) := by decide +kernel
theorem d_method_3_35 : decode method_3_code 35 = .ok (.dup, 1) := by decide +kernel
theorem d_method_3_36 : decode method_3_code 36 = .ok (.iconst 0, 1) := by decide +kernel
theorem d_method_3_37 : decode method_3_code 37 = .ok (.newarray .char, 2) := by decide +kernel
theorem d_method_3_39 : decode method_3_code 39 = .ok (.invokespecial 43, 3) := by decide +kernel
theorem d_method_3_42 : decode method_3_code 42 = .ok (.areturn, 1) := by decide +kernel
theorem d_method_3_43 : decode method_3_code 43 = .ok (.iload_n 1, 1) := by decide +kernel
theorem d_method_3_44 : decode method_3_code 44 = .ok (.iconst 1, 1) := by decide +kernel
theorem d_method_3_45 : decode method_3_code 45 = .ok (.if_icmp .ne 18, 3) := by decide +kernel
theorem d_method_3_48 : decode method_3_code 48 = .ok (.new 28, 3) := by decide +kernel
theorem d_method_3_51 : decode method_3_code 51 = .ok (.dup, 1) := by decide +kernel
theorem d_method_3_52 : decode method_3_code 52 = .ok (.iconst 1, 1) := by decide +kernel
theorem d_method_3_53 : decode method_3_code 53 = .ok (.newarray .char, 2) := by decide +kernel
theorem d_method_3_55 : decode method_3_code 55 = .ok (.dup, 1) := by decide +kernel
theorem d_method_3_56 : decode method_3_code 56 = .ok (.iconst 0, 1) := by decide +kernel
theorem d_method_3_57 : decode method_3_code 57 = .ok (.iload_n 2, 1) := by decide +kernel
theorem d_method_3_58 : decode method_3_code 58 = .ok (.castore, 1) := by decide +kernel
theorem d_method_3_59 : decode method_3_code 59 = .ok (.invokespecial 43, 3) := by decide +kernel
theorem d_method_3_62 : decode method_3_code 62 = .ok (.areturn, 1) := by decide +kernel
theorem d_method_3_63 : decode method_3_code 63 = .ok (.iload_n 1, 1) := by decide +kernel
theorem d_method_3_64 : decode method_3_code 64 = .ok (.iconst 2, 1) := by decide +kernel
theorem d_method_3_65 : decode method_3_code 65 = .ok (.if_icmp .ne 22, 3) := by decide +kernel
theorem d_method_3_68 : decode method_3_code 68 = .ok (.new 28, 3) := by decide +kernel
theorem d_method_3_71 : decode method_3_code 71 = .ok (.dup, 1) := by decide +kernel
theorem d_method_3_72 : decode method_3_code 72 = .ok (.iconst 2, 1) := by decide +kernel
theorem d_method_3_73 : decode method_3_code 73 = .ok (.newarray .char, 2) := by decide +kernel
theorem d_method_3_75 : decode method_3_code 75 = .ok (.dup, 1) := by decide +kernel
theorem d_method_3_76 : decode method_3_code 76 = .ok (.iconst 0, 1) := by decide +kernel
theorem d_method_3_77 : decode method_3_code 77 = .ok (.iload_n 2, 1) := by decide +kernel
theorem d_method_3_78 : decode method_3_code 78 = .ok (.castore, 1) := by decide +kernel
theorem d_method_3_79 : decode method_3_code 79 = .ok (.dup, 1) := by decide +kernel
theorem d_method_3_80 : decode method_3_code 80 = .ok (.iconst 1, 1) := by decide +kernel
theorem d_method_3_81 : decode method_3_code 81 = .ok (.iload_n 3, 1) := by decide +kernel
theorem d_method_3_82 : decode method_3_code 82 = .ok (.castore, 1) := by decide +kernel
theorem d_method_3_83 : decode method_3_code 83 = .ok (.invokespecial 43, 3) := by decide +kernel
theorem d_method_3_86 : decode method_3_code 86 = .ok (.areturn, 1) := by decide +kernel
theorem d_method_3_87 : decode method_3_code 87 = .ok (.new 28, 3) := by decide +kernel
theorem d_method_3_90 : decode method_3_code 90 = .ok (.dup, 1) := by decide +kernel
theorem d_method_3_91 : decode method_3_code 91 = .ok (.iconst 3, 1) := by decide +kernel
theorem d_method_3_92 : decode method_3_code 92 = .ok (.newarray .char, 2) := by decide +kernel
theorem d_method_3_94 : decode method_3_code 94 = .ok (.dup, 1) := by decide +kernel
theorem d_method_3_95 : decode method_3_code 95 = .ok (.iconst 0, 1) := by decide +kernel
theorem d_method_3_96 : decode method_3_code 96 = .ok (.iload_n 2, 1) := by decide +kernel
theorem d_method_3_97 : decode method_3_code 97 = .ok (.castore, 1) := by decide +kernel
theorem d_method_3_98 : decode method_3_code 98 = .ok (.dup, 1) := by decide +kernel
theorem d_method_3_99 : decode method_3_code 99 = .ok (.iconst 1, 1) := by decide +kernel
theorem d_method_3_100 : decode method_3_code 100 = .ok (.iload_n 3, 1) := by decide +kernel
theorem d_method_3_101 : decode method_3_code 101 = .ok (.castore, 1) := by decide +kernel
theorem d_method_3_102 : decode method_3_code 102 = .ok (.dup, 1) := by decide +kernel
theorem d_method_3_103 : decode method_3_code 103 = .ok (.iconst 2, 1) := by decide +kernel
theorem d_method_3_104 : decode method_3_code 104 = .ok (.iload 4, 2) := by decide +kernel
theorem d_method_3_106 : decode method_3_code 106 = .ok (.castore, 1) := by decide +kernel
theorem d_method_3_107 : decode method_3_code 107 = .ok (.invokespecial 43, 3) := by decide +kernel
theorem d_method_3_110 : decode method_3_code 110 = .ok (.areturn, 1) := by decide +kernel
theorem d_jdk_30_method_1_0 : decode jdk_30_method_1_code 0 = .ok (.aload_n 0, 1) := by decide +kernel
theorem d_jdk_30_method_1_1 : decode jdk_30_method_1_code 1 = .ok (.invokespecial 1, 3) := by decide +kernel
theorem d_jdk_30_method_1_4 : decode jdk_30_method_1_code 4 = .ok (.return_, 1) := by decide +kernel
theorem d_prog_35_method_1_0 : decode prog_35_method_1_code 0 = .ok (.aload_n 0, 1) := by decide +kernel
theorem d_prog_35_method_1_1 : decode prog_35_method_1_code 1 = .ok (.invokespecial 1, 3) := by decide +kernel
theorem d_prog_35_method_1_4 : decode prog_35_method_1_code 4 = .ok (.aload_n 0, 1) := by decide +kernel
theorem d_prog_35_method_1_5 : decode prog_35_method_1_code 5 = .ok (.aload_n 1, 1) := by decide +kernel
theorem d_prog_35_method_1_6 : decode prog_35_method_1_code 6 = .ok (.putfield 7, 3) := by decide +kernel
theorem d_prog_35_method_1_9 : decode prog_35_method_1_code 9 = .ok (.return_, 1) := by decide +kernel
theorem d_prog_1_method_1_0 : decode prog_1_method_1_code 0 = .ok (.aload_n 0, 1) := by decide +kernel
theorem d_prog_1_method_1_1 : decode prog_1_method_1_code 1 = .ok (.invokespecial 1, 3) := by decide +kernel
theorem d_prog_1_method_1_4 : decode prog_1_method_1_code 4 = .ok (.aload_n 0, 1) := by decide +kernel
theorem d_prog_1_method_1_5 : decode prog_1_method_1_code 5 = .ok (.aload_n 1, 1) := by decide +kernel
theorem d_prog_1_method_1_6 : decode prog_1_method_1_code 6 = .ok (.putfield 7, 3) := by decide +kernel
theorem d_prog_1_method_1_9 : decode prog_1_method_1_code 9 = .ok (.aload_n 0, 1) := by decide +kernel
theorem d_prog_1_method_1_10 : decode prog_1_method_1_code 10 = .ok (.aload_n 2, 1) := by decide +kernel
theorem d_prog_1_method_1_11 : decode prog_1_method_1_code 11 = .ok (.putfield 13, 3) := by decide +kernel
theorem d_prog_1_method_1_14 : decode prog_1_method_1_code 14 = .ok (.aload_n 0, 1) := by decide +kernel
theorem d_prog_1_method_1_15 : decode prog_1_method_1_code 15 = .ok (.aload_n 3, 1) := by decide +kernel
theorem d_prog_1_method_1_16 : decode prog_1_method_1_code 16 = .ok (.putfield 16, 3) := by decide +kernel
theorem d_prog_1_method_1_19 : decode prog_1_method_1_code 19 = .ok (.return_, 1) := by decide +kernel
theorem d_prog_1_method_3_0 : decode prog_1_method_3_code 0 = .ok (.new 20, 3) := by decide +kernel
theorem d_prog_1_method_3_3 : decode prog_1_method_3_code 3 = .ok (.dup, 1) := by decide +kernel
theorem d_prog_1_method_3_4 : decode prog_1_method_3_code 4 = .ok (.invokespecial 22, 3) := by decide +kernel
theorem d_prog_1_method_3_7 : decode prog_1_method_3_code 7 = .ok (.ldc 42, 2) := by decide +kernel
theorem d_prog_1_method_3_9 : decode prog_1_method_3_code 9 = .ok (.invokevirtual 29, 3) := by decide +kernel
theorem d_prog_1_method_3_12 : decode prog_1_method_3_code 12 = .ok (.aload_n 0, 1) := by decide +kernel
theorem d_prog_1_method_3_13 : decode prog_1_method_3_code 13 = .ok (.getfield 7, 3) := by decide +kernel
theorem d_prog_1_method_3_16 : decode prog_1_method_3_code 16 = .ok (.invokevirtual 29, 3) := by decide +kernel
theorem d_prog_1_method_3_19 : decode prog_1_method_3_code 19 = .ok (.ldc 44, 2) := by decide +kernel
theorem d_prog_1_method_3_21 : decode prog_1_method_3_code 21 = .ok (.invokevirtual 29, 3) := by decide +kernel
theorem d_prog_1_method_3_24 : decode prog_1_method_3_code 24 = .ok (.aload_n 0, 1) := by decide +kernel
theorem d_prog_1_method_3_25 : decode prog_1_method_3_code 25 = .ok (.getfield 13, 3) := by decide +kernel
theorem d_prog_1_method_3_28 : decode prog_1_method_3_code 28 = .ok (.invokevirtual 29, 3) := by decide +kernel
theorem d_prog_1_method_3_31 : decode prog_1_method_3_code 31 = .ok (.ldc 46, 2) := by decide +kernel
theorem d_prog_1_method_3_33 : decode prog_1_method_3_code 33 = .ok (.invokevirtual 29, 3) := by decide +kernel
theorem d_prog_1_method_3_36 : decode prog_1_method_3_code 36 = .ok (.invokevirtual 32, 3) := by decide +kernel
theorem d_prog_1_method_3_39 : decode prog_1_method_3_code 39 = .ok (.areturn, 1) := by decide +kernel
theorem d_method_5_0 : decode method_5_code 0 = .ok (.iload_n 3, 1) := by decide +kernel
theorem d_method_5_1 : decode method_5_code 1 = .ok (.aload_n 2, 1) := by decide +kernel
theorem d_method_5_2 : decode method_5_code 2 = .ok (.invokevirtual 27, 3) := by decide +kernel
theorem d_method_5_5 : decode method_5_code 5 = .ok (.if_icmp .ge 28, 3) := by decide +kernel
theorem d_method_5_8 : decode method_5_code 8 = .ok (.iload_n 1, 1) := by decide +kernel
theorem d_method_5_9 : decode method_5_code 9 = .ok (.iload_n 3, 1) := by decide +kernel
theorem d_method_5_10 : decode method_5_code 10 = .ok (.iadd, 1) := by decide +kernel
theorem d_method_5_11 : decode method_5_code 11 = .ok (.aload_n 0, 1) := by decide +kernel
theorem d_method_5_12 : decode method_5_code 12 = .ok (.invokevirtual 27, 3) := by decide +kernel
theorem d_method_5_15 : decode method_5_code 15 = .ok (.if_icmp .ge 22, 3) := by decide +kernel
theorem d_method_5_18 : decode method_5_code 18 = .ok (.aload_n 0, 1) := by decide +kernel
theorem d_method_5_19 : decode method_5_code 19 = .ok (.iload_n 1, 1) := by decide +kernel
theorem d_method_5_20 : decode method_5_code 20 = .ok (.iload_n 3, 1) := by decide +kernel
theorem d_method_5_21 : decode method_5_code 21 = .ok (.iadd, 1) := by decide +kernel
theorem d_method_5_22 : decode method_5_code 22 = .ok (.invokevirtual 50, 3) := by decide +kernel
theorem d_method_5_25 : decode method_5_code 25 = .ok (.aload_n 2, 1) := by decide +kernel
theorem d_method_5_26 : decode method_5_code 26 = .ok (.iload_n 3, 1) := by decide +kernel
theorem d_method_5_27 : decode method_5_code 27 = .ok (.invokevirtual 50, 3) := by decide +kernel
theorem d_method_5_30 : decode method_5_code 30 = .ok (.if_icmp .ne 7, 3) := by decide +kernel
theorem d_method_5_33 : decode method_5_code 33 = .ok (.iconst 1, 1) := by decide +kernel
theorem d_method_5_34 : decode method_5_code 34 = .ok (.goto 4, 3) := by decide +kernel
theorem d_method_5_38 : decode method_5_code 38 = .ok (.ireturn, 1) := by decide +kernel
theorem d_method_4_0 : decode method_4_code 0 = .ok (.aload_n 0, 1) := by decide +kernel
theorem d_method_4_1 : decode method_4_code 1 = .ok (.iload_n 1, 1) := by decide +kernel
theorem d_method_4_2 : decode method_4_code 2 = .ok (.aload_n 2, 1) := by decide +kernel
theorem d_method_4_3 : decode method_4_code 3 = .ok (.iconst 0, 1) := by decide +kernel
theorem d_method_4_4 : decode method_4_code 4 = .ok (.invokestatic 46, 3) := by decide +kernel
theorem d_method_4_7 : decode method_4_code 7 = .ok (.ifCond .eq 134, 3) := by decide +kernel
theorem d_method_4_10 : decode method_4_code 10 = .ok (.aload_n 0, 1) := by decide +kernel
theorem d_method_4_11 : decode method_4_code 11 = .ok (.iload_n 1, 1) := by decide +kernel
theorem d_method_4_12 : decode method_4_code 12 = .ok (.aload_n 2, 1) := by decide +kernel
theorem d_method_4_13 : decode method_4_code 13 = .ok (.iconst 1, 1) := by decide +kernel
theorem d_method_4_14 : decode method_4_code 14 = .ok (.invokestatic 46, 3) := by decide +kernel
theorem d_method_4_17 : decode method_4_code 17 = .ok (.ifCond .eq 124, 3) := by decide +kernel
theorem d_method_4_20 : decode method_4_code 20 = .ok (.aload_n 0, 1) := by decide +kernel
theorem d_method_4_21 : decode method_4_code 21 = .ok (.iload_n 1, 1) := by decide +kernel
theorem d_method_4_22 : decode method_4_code 22 = .ok (.aload_n 2, 1) := by decide +kernel
theorem d_method_4_23 : decode method_4_code 23 = .ok (.iconst 2, 1) := by decide +kernel
theorem d_method_4_24 : decode method_4_code 24 = .ok (.invokestatic 46, 3) := by decide +kernel
theorem d_method_4_27 : decode method_4_code 27 = .ok (.ifCond .eq 114, 3) := by decide +kernel
theorem d_method_4_30 : decode method_4_code 30 = .ok (.aload_n 0, 1) := by decide +kernel
theorem d_method_4_31 : decode method_4_code 31 = .ok (.iload_n 1, 1) := by decide +kernel
theorem d_method_4_32 : decode method_4_code 32 = .ok (.aload_n 2, 1) := by decide +kernel
theorem d_method_4_33 : decode method_4_code 33 = .ok (.iconst 3, 1) := by decide +kernel
theorem d_method_4_34 : decode method_4_code 34 = .ok (.invokestatic 46, 3) := by decide +kernel
theorem d_method_4_37 : decode method_4_code 37 = .ok (.ifCond .eq 104, 3) := by decide +kernel
theorem d_method_4_40 : decode method_4_code 40 = .ok (.aload_n 0, 1) := by decide +kernel
theorem d_method_4_41 : decode method_4_code 41 = .ok (.iload_n 1, 1) := by decide +kernel
theorem d_method_4_42 : decode method_4_code 42 = .ok (.aload_n 2, 1) := by decide +kernel
theorem d_method_4_43 : decode method_4_code 43 = .ok (.iconst 4, 1) := by decide +kernel
theorem d_method_4_44 : decode method_4_code 44 = .ok (.invokestatic 46, 3) := by decide +kernel
theorem d_method_4_47 : decode method_4_code 47 = .ok (.ifCond .eq 94, 3) := by decide +kernel
theorem d_method_4_50 : decode method_4_code 50 = .ok (.aload_n 0, 1) := by decide +kernel
theorem d_method_4_51 : decode method_4_code 51 = .ok (.iload_n 1, 1) := by decide +kernel
theorem d_method_4_52 : decode method_4_code 52 = .ok (.aload_n 2, 1) := by decide +kernel
theorem d_method_4_53 : decode method_4_code 53 = .ok (.iconst 5, 1) := by decide +kernel
theorem d_method_4_54 : decode method_4_code 54 = .ok (.invokestatic 46, 3) := by decide +kernel
theorem d_method_4_57 : decode method_4_code 57 = .ok (.ifCond .eq 84, 3) := by decide +kernel
theorem d_method_4_60 : decode method_4_code 60 = .ok (.aload_n 0, 1) := by decide +kernel
theorem d_method_4_61 : decode method_4_code 61 = .ok (.iload_n 1, 1) := by decide +kernel
theorem d_method_4_62 : decode method_4_code 62 = .ok (.aload_n 2, 1) := by decide +kernel
theorem d_method_4_63 : decode method_4_code 63 = .ok (.bipush 6, 2) := by decide +kernel
theorem d_method_4_65 : decode method_4_code 65 = .ok (.invokestatic 46, 3) := by decide +kernel
theorem d_method_4_68 : decode method_4_code 68 = .ok (.ifCond .eq 73, 3) := by decide +kernel
theorem d_method_4_71 : decode method_4_code 71 = .ok (.aload_n 0, 1) := by decide +kernel
theorem d_method_4_72 : decode method_4_code 72 = .ok (.iload_n 1, 1) := by decide +kernel
theorem d_method_4_73 : decode method_4_code 73 = .ok (.aload_n 2, 1) := by decide +kernel
theorem d_method_4_74 : decode method_4_code 74 = .ok (.bipush 7, 2) := by decide +kernel
theorem d_method_4_76 : decode method_4_code 76 = .ok (.invokestatic 46, 3) := by decide +kernel
theorem d_method_4_79 : decode method_4_code 79 = .ok (.ifCond .eq 62, 3) := by decide +kernel
theorem d_method_4_82 : decode method_4_code 82 = .ok (.aload_n 0, 1) := by decide +kernel
theorem d_method_4_83 : decode method_4_code 83 = .ok (.iload_n 1, 1) := by decide +kernel
theorem d_method_4_84 : decode method_4_code 84 = .ok (.aload_n 2, 1) := by decide +kernel
theorem d_method_4_85 : decode method_4_code 85 = .ok (.bipush 8, 2) := by decide +kernel
theorem d_method_4_87 : decode method_4_code 87 = .ok (.invokestatic 46, 3) := by decide +kernel
theorem d_method_4_90 : decode method_4_code 90 = .ok (.ifCond .eq 51, 3) := by decide +kernel
theorem d_method_4_93 : decode method_4_code 93 = .ok (.aload_n 0, 1) := by decide +kernel
theorem d_method_4_94 : decode method_4_code 94 = .ok (.iload_n 1, 1) := by decide +kernel
theorem d_method_4_95 : decode method_4_code 95 = .ok (.aload_n 2, 1) := by decide +kernel
theorem d_method_4_96 : decode method_4_code 96 = .ok (.bipush 9, 2) := by decide +kernel
theorem d_method_4_98 : decode method_4_code 98 = .ok (.invokestatic 46, 3) := by decide +kernel
theorem d_method_4_101 : decode method_4_code 101 = .ok (.ifCond .eq 40, 3) := by decide +kernel
theorem d_method_4_104 : decode method_4_code 104 = .ok (.aload_n 0, 1) := by decide +kernel
theorem d_method_4_105 : decode method_4_code 105 = .ok (.iload_n 1, 1) := by decide +kernel
theorem d_method_4_106 : decode method_4_code 106 = .ok (.aload_n 2, 1) := by decide +kernel
theorem d_method_4_107 : decode method_4_code 107 = .ok (.bipush 10, 2) := by decide +kernel
theorem d_method_4_109 : decode method_4_code 109 = .ok (.invokestatic 46, 3) := by decide +kernel
theorem d_method_4_112 : decode method_4_code 112 = .ok (.ifCond .eq 29, 3) := by decide +kernel
theorem d_method_4_115 : decode method_4_code 115 = .ok (.aload_n 0, 1) := by decide +kernel
theorem d_method_4_116 : decode method_4_code 116 = .ok (.iload_n 1, 1) := by decide +kernel
theorem d_method_4_117 : decode method_4_code 117 = .ok (.aload_n 2, 1) := by decide +kernel
theorem d_method_4_118 : decode method_4_code 118 = .ok (.bipush 11, 2) := by decide +kernel
theorem d_method_4_120 : decode method_4_code 120 = .ok (.invokestatic 46, 3) := by decide +kernel
theorem d_method_4_123 : decode method_4_code 123 = .ok (.ifCond .eq 18, 3) := by decide +kernel
theorem d_method_4_126 : decode method_4_code 126 = .ok (.aload_n 0, 1) := by decide +kernel
theorem d_method_4_127 : decode method_4_code 127 = .ok (.iload_n 1, 1) := by decide +kernel
theorem d_method_4_128 : decode method_4_code 128 = .ok (.aload_n 2, 1) := by decide +kernel
theorem d_method_4_129 : decode method_4_code 129 = .ok (.bipush 12, 2) := by decide +kernel
theorem d_method_4_131 : decode method_4_code 131 = .ok (.invokestatic 46, 3) := by decide +kernel
theorem d_method_4_134 : decode method_4_code 134 = .ok (.ifCond .eq 7, 3) := by decide +kernel
theorem d_method_4_137 : decode method_4_code 137 = .ok (.iconst 1, 1) := by decide +kernel
theorem d_method_4_138 : decode method_4_code 138 = .ok (.goto 4, 3) := by decide +kernel
theorem d_method_4_142 : decode method_4_code 142 = .ok (.ireturn, 1) := by decide +kernel
theorem pf_0 : plainFor (⟨"java/lang/Math", "min", "(II)I"⟩ : MethodName) = true := by decide +kernel
theorem pf_1 : plainFor (⟨"java/lang/Math", "max", "(II)I"⟩ : MethodName) = true := by decide +kernel
theorem pn_0 : plainName "java/lang/StringUTF16" = true := by first | (simp [plainName, overriddenIn]; done) | decide +kernel
theorem pn_1 : plainName "java/lang/String" = true := by first | (simp [plainName, overriddenIn]; done) | decide +kernel
theorem pn_2 : plainName "jdk/internal/util/Preconditions" = true := by first | (simp [plainName, overriddenIn]; done) | decide +kernel
theorem pn_3 : plainName "java/lang/StringLatin1" = true := by first | (simp [plainName, overriddenIn]; done) | decide +kernel
theorem pn_5 : plainName "java/util/Arrays" = true := by first | (simp [plainName, overriddenIn]; done) | decide +kernel
theorem pn_6 : plainName "java/lang/AbstractStringBuilder" = true := by first | (simp [plainName, overriddenIn]; done) | decide +kernel
theorem pn_7 : plainName "java/lang/StringBuilder" = true := by first | (simp [plainName, overriddenIn]; done) | decide +kernel
theorem pn_8 : plainName "jdk/internal/util/ArraysSupport" = true := by first | (simp [plainName, overriddenIn]; done) | decide +kernel
theorem pn_9 : plainName "com/example/cadi/cadi/AliasToStringPinLaw" = true := by first | (simp [plainName, overriddenIn]; done) | decide +kernel
theorem pn_10 : plainName "java/lang/Record" = true := by first | (simp [plainName, overriddenIn]; done) | decide +kernel
theorem pn_11 : plainName "com/example/cadi/cadi/Origin" = true := by first | (simp [plainName, overriddenIn]; done) | decide +kernel
theorem pn_12 : plainName "com/example/cadi/cadi/Alias" = true := by first | (simp [plainName, overriddenIn]; done) | decide +kernel
theorem pd_0 : parseMethodDescriptor "([CI[BII)I" = some ⟨[(.array .char), .int, (.array .byte), .int, .int], some .int⟩ := by decide +kernel
theorem pd_1 : parseMethodDescriptor "([CII)[B" = some ⟨[(.array .char), .int, .int], some (.array .byte)⟩ := by decide +kernel
theorem pd_2 : parseMethodDescriptor "([BI)B" = some ⟨[(.array .byte), .int], some .byte⟩ := by decide +kernel
theorem pd_3 : parseMethodDescriptor "([CIILjava/lang/Void;)V" = some ⟨[(.array .char), .int, .int, (.object "java/lang/Void")], none⟩ := by decide +kernel
theorem pd_4 : parseMethodDescriptor "()B" = some ⟨[], some .byte⟩ := by decide +kernel
theorem pd_5 : parseMethodDescriptor "(IILjava/util/function/BiFunction;)I" = some ⟨[.int, .int, (.object "java/util/function/BiFunction")], some .int⟩ := by decide +kernel
theorem pd_6 : parseMethodDescriptor "(II)V" = some ⟨[.int, .int], none⟩ := by decide +kernel
theorem pd_7 : parseMethodDescriptor "()Z" = some ⟨[], some .boolean⟩ := by decide +kernel
theorem pd_8 : parseMethodDescriptor "([BI)C" = some ⟨[(.array .byte), .int], some .char⟩ := by decide +kernel
theorem pd_9 : parseMethodDescriptor "(II)I" = some ⟨[.int, .int], some .int⟩ := by decide +kernel
theorem pd_10 : parseMethodDescriptor "([BII)[B" = some ⟨[(.array .byte), .int, .int], some (.array .byte)⟩ := by decide +kernel
theorem pd_11 : parseMethodDescriptor "(I)V" = some ⟨[.int], none⟩ := by decide +kernel
theorem pd_12 : parseMethodDescriptor "(III)I" = some ⟨[.int, .int, .int], some .int⟩ := by decide +kernel
theorem pd_13 : parseMethodDescriptor "(I)I" = some ⟨[.int], some .int⟩ := by decide +kernel
theorem pd_14 : parseMethodDescriptor "([BI)[B" = some ⟨[(.array .byte), .int], some (.array .byte)⟩ := by decide +kernel
theorem pd_15 : parseMethodDescriptor "(Ljava/lang/String;)V" = some ⟨[(.object "java/lang/String")], none⟩ := by decide +kernel
theorem pd_16 : parseMethodDescriptor "([BIB)V" = some ⟨[(.array .byte), .int, .byte], none⟩ := by decide +kernel
theorem pd_17 : parseMethodDescriptor "()I" = some ⟨[], some .int⟩ := by decide +kernel
theorem pd_18 : parseMethodDescriptor "(ILjava/lang/String;)V" = some ⟨[.int, (.object "java/lang/String")], none⟩ := by decide +kernel
theorem pd_19 : parseMethodDescriptor "(Ljava/lang/String;)Ljava/lang/AbstractStringBuilder;" = some ⟨[(.object "java/lang/String")], some (.object "java/lang/AbstractStringBuilder")⟩ := by decide +kernel
theorem pd_20 : parseMethodDescriptor "()[B" = some ⟨[], some (.array .byte)⟩ := by decide +kernel
theorem pd_21 : parseMethodDescriptor "(Ljava/lang/AbstractStringBuilder;Ljava/lang/Void;)V" = some ⟨[(.object "java/lang/AbstractStringBuilder"), (.object "java/lang/Void")], none⟩ := by decide +kernel
theorem pd_22 : parseMethodDescriptor "(Ljava/lang/StringBuilder;)V" = some ⟨[(.object "java/lang/StringBuilder")], none⟩ := by decide +kernel
theorem pd_23 : parseMethodDescriptor "([C)V" = some ⟨[(.array .char)], none⟩ := by decide +kernel
theorem pd_24 : parseMethodDescriptor "()V" = some ⟨[], none⟩ := by decide +kernel
theorem pd_25 : parseMethodDescriptor "(Ljava/lang/String;)Ljava/lang/StringBuilder;" = some ⟨[(.object "java/lang/String")], some (.object "java/lang/StringBuilder")⟩ := by decide +kernel
theorem pd_26 : parseMethodDescriptor "()Ljava/lang/String;" = some ⟨[], some (.object "java/lang/String")⟩ := by decide +kernel
theorem pd_27 : parseMethodDescriptor "(I)C" = some ⟨[.int], some .char⟩ := by decide +kernel
theorem pd_28 : parseMethodDescriptor "(Ljava/lang/String;ILjava/lang/String;I)Z" = some ⟨[(.object "java/lang/String"), .int, (.object "java/lang/String"), .int], some .boolean⟩ := by decide +kernel
theorem pd_29 : parseMethodDescriptor "(II)Ljava/lang/String;" = some ⟨[.int, .int], some (.object "java/lang/String")⟩ := by decide +kernel
theorem pd_30 : parseMethodDescriptor "(Ljava/lang/String;Ljava/lang/String;Lcom/example/cadi/cadi/Origin;)V" = some ⟨[(.object "java/lang/String"), (.object "java/lang/String"), (.object "com/example/cadi/cadi/Origin")], none⟩ := by decide +kernel
theorem pd_31 : parseMethodDescriptor "(Ljava/lang/String;ILjava/lang/String;)Z" = some ⟨[(.object "java/lang/String"), .int, (.object "java/lang/String")], some .boolean⟩ := by decide +kernel
def Gl (Z : State) (a0 : Array Value) : Prop := (∀ d ∈ tables_1, d.before a0 Z = true) ∧ EW Z a0 consts_1 ∧ (∃ G : Int32, Sta Z Z.heap "java/lang/String" "COMPACT_STRINGS" "Z" (.int G) ∧ ¬ G = 0) ∧ (∃ G : Value, Sta Z Z.heap "jdk/internal/util/Preconditions" "SIOOBE_FORMATTER" "Ljava/util/function/BiFunction;" G ∧ G.isRef = true) ∧ True
theorem stratoms {Z : State} {a0 : Array Value} (g : Gl Z a0) : ∀ d ∈ Bundle.stringAtoms, d.before a0 Z = true := fun d hd => g.1 d ((by decide +kernel : ∀ d ∈ Bundle.stringAtoms, d ∈ tables_1) d hd)
set_option maxRecDepth 65536 in
set_option maxHeartbeats 4000000 in
theorem c_coderlen {l : Launch} {Z : State} {a0 : Array Value} {kn : Bool} (g : Gl Z a0) {ws : List Cond} {h0 : Heap} {ss : List Addr} (hO : Old Z Z.heap.size h0) {b : Addr} {n : Int32} {kb : ClassId} {vs : List Value} {dv : Value} (A : Arv Z h0 b kb .byte n vs dv) :
    Con l Z consts_1 kn ws (⟨"java/lang/StringUTF16", "coderFromArrayLen", "([BI)B"⟩ : MethodName) jdk_52_method_15_code 2 (some .byte) ({ frames := 0, cells := 0, slots := 0, locals := 0 } : Room) #[(.ref b), (.int n)] h0 ss (rV fun v h => h0 = h ∧ v = .int 0) := by
  have hw := g.1
  have hEL := g.2.1
  refine Con.of (plainFor_of_name pn_0) hO ?_
  intro p e s m below meth c T0 me W0
  refine Fi.entry (L := #[.val (.ref b), .val (.int n)]) (by first | (simp [entryFrame, mkF, argsToLocals, Value.category, maxLocals]; done) | (simp [entryFrame, mkF, argsToLocals, Value.category]; done) | rfl) ?_
  refine W0.iloadN me d_jdk_52_method_15_0 rfl ?_
  refine W0.aloadN me d_jdk_52_method_15_1 rfl rfl ?_
  show Fi p e below s Z _ _ _ _ T0 (mkF m 2 #[.val (.ref b), .val (.int n)] [(.ref b), (.int n)])
  refine W0.alen me A d_jdk_52_method_15_2 ?_
  refine W0.isub me d_jdk_52_method_15_3 ?_
  refine W0.bipush me d_jdk_52_method_15_4 (v := 31) rfl ?_
  refine W0.iushr me d_jdk_52_method_15_6 ?_
  refine W0.i2b me d_jdk_52_method_15_7 ?_
  show Fi p e below s Z _ _ _ _ T0 (mkF m 8 #[.val (.ref b), .val (.int n)] [(.int ((XT.ushr (n - n) (31 : Int32)).toInt8.toInt32))])
  have e1 : (XT.ushr (n - n) (31 : Int32)).toInt8.toInt32 = 0 := by rw [Int32.sub_self]; decide
  rw [e1]
  exact W0.retN hEL me (Or.inr (Or.inl rfl)) d_jdk_52_method_15_8 ⟨rfl, rfl⟩ (by decide) (by decide)

set_option maxRecDepth 65536 in
set_option maxHeartbeats 4000000 in
theorem c_compress {l : Launch} {Z : State} {a0 : Array Value} {kn : Bool} (g : Gl Z a0) {ws : List Cond} {h0 : Heap} {ss : List Addr} (hO : Old Z Z.heap.size h0) {ca b : Addr} {kca kb : ClassId} {cs : List Int32} {dv : Value} (Aca : Arv Z h0 ca kca .char (Int32.ofNat cs.length) (cs.map Value.int) dv) (A0 : Arv Z h0 b kb .byte (Int32.ofNat cs.length) [] (.int 0)) (hne : ca ≠ b) (hS : b ∈ ss) (hz : Z.heap.size ≤ b) (hC8 : C8 cs) (hl : cs.length < 2 ^ 20) :
    Con l Z consts_1 kn ws (⟨"java/lang/StringUTF16", "compress", "([CI[BII)I"⟩ : MethodName) jdk_52_method_21_code 7 (some .int) ({ frames := 0, cells := 0, slots := 0, locals := 0 } : Room) #[(.ref ca), (.int 0), (.ref b), (.int 0), (.int (Int32.ofNat cs.length))] h0 ss (rV fun v h => Keep h0 h [b] ∧ v = .int (Int32.ofNat cs.length) ∧ Arv Z h b kb .byte (Int32.ofNat cs.length) (lb cs) (.int 0)) := by
  have hw := g.1
  have hEL := g.2.1
  refine Con.of (plainFor_of_name pn_0) hO ?_
  intro p e s m below meth c T0 me W0
  refine Fi.entry (L := #[.val (.ref ca), .val (.int 0), .val (.ref b), .val (.int 0), .val (.int (Int32.ofNat cs.length)), .unset, .unset]) (by first | (simp [entryFrame, mkF, argsToLocals, Value.category, maxLocals]; done) | (simp [entryFrame, mkF, argsToLocals, Value.category]; done) | rfl) ?_
  have loop : ∀ (r i : Nat) (T1 : State) (h1 : Heap) (o : Slot), i + r = cs.length → (o = .unset ∨ ∃ w, o = .val w ∧ w.category = 1) → Wk p l e ({ frames := 0, cells := 0, slots := 0, locals := 0 } : Room) s m #[(.ref ca), (.int 0), (.ref b), (.int 0), (.int (Int32.ofNat cs.length))] below meth c Z consts_1 kn "java/lang/StringUTF16" T1 h1 ss 0 0 → Keep h0 h1 [b] → Arv Z h1 b kb .byte (Int32.ofNat cs.length) (lb (cs.take i)) (.int 0) →
      Fi p e below s Z consts_1 0 0 (rV fun v h => Keep h0 h [b] ∧ v = .int (Int32.ofNat cs.length) ∧ Arv Z h b kb .byte (Int32.ofNat cs.length) (lb cs) (.int 0)) T1 (mkF m 3 #[.val (.ref ca), .val (.int (Int32.ofNat i)), .val (.ref b), .val (.int (Int32.ofNat i)), .val (.int (Int32.ofNat cs.length)), .val (.int (Int32.ofNat i)), o] []) := by
    intro r
    induction r with
    | zero =>
      intro i T1 h1 o hi ho W1 K A
      refine W1.iload me d_jdk_52_method_21_3 rfl ?_
      refine W1.iload me d_jdk_52_method_21_5 rfl ?_
      refine W1.icY_ge me d_jdk_52_method_21_7 (on_nlt (by omega) (by omega)) (pc' := 44) (by decide) (by decide) ?_
      refine W1.iload me d_jdk_52_method_21_44 rfl ?_
      have e1 : cs.take i = cs := List.take_of_length_le (by omega)
      rw [e1] at A
      exact W1.retI hEL me d_jdk_52_method_21_46 ⟨K, rfl, A⟩ (by decide) (by decide)
    | succ r ih =>
      intro i T1 h1 o hi ho W1 K A
      have hlt : i < cs.length := by omega
      have Ac := Aca.keep K (ninS hne nin0)
      have hch := hC8.at hlt
      obtain ⟨x, hx⟩ : ∃ x, x = cs.getD i 0 := ⟨_, rfl⟩
      refine W1.iload me d_jdk_52_method_21_3 rfl ?_
      refine W1.iload me d_jdk_52_method_21_5 rfl ?_
      refine W1.icN_ge me d_jdk_52_method_21_7 (on_lt hlt (by omega)) ?_
      refine W1.aloadN me d_jdk_52_method_21_10 rfl rfl ?_
      refine W1.iloadN me d_jdk_52_method_21_11 rfl ?_
      refine W1.caload me Ac d_jdk_52_method_21_12 (on_in hlt (by omega)) (v := .int x) (by rw [on_clamp (by omega), ci_get hlt, hx]) ?_
      refine W1.istore me d_jdk_52_method_21_13 (l' := #[.val (.ref ca), .val (.int (Int32.ofNat i)), .val (.ref b), .val (.int (Int32.ofNat i)), .val (.int (Int32.ofNat cs.length)), .val (.int (Int32.ofNat i)), .val (.int x)]) (XS.store1 (i := 6) rfl ho rfl) ?_
      refine W1.iload me d_jdk_52_method_21_15 rfl ?_
      refine W1.sipush me d_jdk_52_method_21_17 (v := 255) rfl ?_
      refine W1.icY_le me d_jdk_52_method_21_20 (hx ▸ hch.2) (pc' := 26) (by decide) (by decide) ?_
      refine W1.aloadN me d_jdk_52_method_21_26 rfl rfl ?_
      refine W1.iloadN me d_jdk_52_method_21_27 rfl ?_
      refine W1.iload me d_jdk_52_method_21_28 rfl ?_
      refine W1.i2b me d_jdk_52_method_21_30 ?_
      show Fi p e below s Z _ _ _ _ T1 (mkF m 31 #[.val (.ref ca), .val (.int (Int32.ofNat i)), .val (.ref b), .val (.int (Int32.ofNat i)), .val (.int (Int32.ofNat cs.length)), .val (.int (Int32.ofNat i)), .val (.int x)] [(.int (x.toInt8.toInt32)), (.int (Int32.ofNat i)), (.ref b)])
      refine W1.bastoreP me A (nar_byte_idem x) d_jdk_52_method_21_31 (i := i) (by rw [lb_len, List.length_take]; omega) (on_clamp (by omega)) (on_in hlt (by omega)) hS hz ?_
      intro T2 h2 W2 R2 A2
      refine W2.iinc me d_jdk_52_method_21_32 (v := 1) rfl rfl (l' := #[.val (.ref ca), .val (.int ((Int32.ofNat i) + (1 : Int32))), .val (.ref b), .val (.int (Int32.ofNat i)), .val (.int (Int32.ofNat cs.length)), .val (.int (Int32.ofNat i)), .val (.int x)]) rfl ?_
      refine W2.iinc me d_jdk_52_method_21_35 (v := 1) rfl rfl (l' := #[.val (.ref ca), .val (.int ((Int32.ofNat i) + (1 : Int32))), .val (.ref b), .val (.int ((Int32.ofNat i) + (1 : Int32))), .val (.int (Int32.ofNat cs.length)), .val (.int (Int32.ofNat i)), .val (.int x)]) rfl ?_
      refine W2.iinc me d_jdk_52_method_21_38 (v := 1) rfl rfl (l' := #[.val (.ref ca), .val (.int ((Int32.ofNat i) + (1 : Int32))), .val (.ref b), .val (.int ((Int32.ofNat i) + (1 : Int32))), .val (.int (Int32.ofNat cs.length)), .val (.int ((Int32.ofNat i) + (1 : Int32))), .val (.int x)]) rfl ?_
      refine W2.goto me d_jdk_52_method_21_41 (pc' := 3) (by decide) (by decide) ?_
      show Fi p e below s Z _ _ _ _ T2 (mkF m 3 #[.val (.ref ca), .val (.int ((Int32.ofNat i) + (1 : Int32))), .val (.ref b), .val (.int ((Int32.ofNat i) + (1 : Int32))), .val (.int (Int32.ofNat cs.length)), .val (.int ((Int32.ofNat i) + (1 : Int32))), .val (.int x)] [])
      rw [on_succ]
      exact ih (i + 1) T2 h2 (.val (.int x)) (by omega) (Or.inr ⟨_, rfl, rfl⟩) W2 (K.wr R2 (Or.inl (List.mem_singleton.mpr rfl))) (by rw [hx, lb_take_succ hlt] at A2; exact A2)
  refine W0.iconst me d_jdk_52_method_21_0 (v := 0) rfl ?_
  refine W0.istore me d_jdk_52_method_21_1 (l' := #[.val (.ref ca), .val (.int 0), .val (.ref b), .val (.int 0), .val (.int (Int32.ofNat cs.length)), .val (.int (0 : Int32)), .unset]) rfl ?_
  exact loop cs.length 0 T0 h0 .unset (by omega) (Or.inl rfl) W0 (Keep.refl _ _) A0

set_option maxRecDepth 65536 in
set_option maxHeartbeats 4000000 in
theorem c_compress1 {l : Launch} {Z : State} {a0 : Array Value} {kn : Bool} (g : Gl Z a0) {ws : List Cond} {h0 : Heap} {ss : List Addr} (hO : Old Z Z.heap.size h0) {ca : Addr} {kca : ClassId} {cs : List Int32} {dv : Value} (Aca : Arv Z h0 ca kca .char (Int32.ofNat cs.length) (cs.map Value.int) dv) (hC8 : C8 cs) (hl : cs.length ≤ 8) :
    Con l Z consts_1 kn ws (⟨"java/lang/StringUTF16", "compress", "([CII)[B"⟩ : MethodName) jdk_52_method_16_code 6 (some (.array .byte)) ({ frames := 1, cells := 1, slots := 8, locals := 18 } : Room) #[(.ref ca), (.int 0), (.int (Int32.ofNat cs.length))] h0 ss (rV fun v h => Ext h0 h ∧ ∃ b kb, v = .ref b ∧ h0.size ≤ b ∧ Arv Z h b kb .byte (Int32.ofNat cs.length) (lb cs) (.int 0)) := by
  have hw := g.1
  have hEL := g.2.1
  refine Con.of (plainFor_of_name pn_0) hO ?_
  intro p e s m below meth c T0 me W0
  refine Fi.entry (L := #[.val (.ref ca), .val (.int 0), .val (.int (Int32.ofNat cs.length)), .unset, .unset, .unset]) (by first | (simp [entryFrame, mkF, argsToLocals, Value.category, maxLocals]; done) | (simp [entryFrame, mkF, argsToLocals, Value.category]; done) | rfl) ?_
  have hlt1 := own_lt Aca.lt
  refine W0.iloadN me d_jdk_52_method_16_0 rfl ?_
  show Fi p e below s Z _ _ _ _ T0 (mkF m 1 #[.val (.ref ca), .val (.int 0), .val (.int (Int32.ofNat cs.length)), .unset, .unset, .unset] [(.int (Int32.ofNat cs.length))])
  refine W0.newA me (hw _ (List.mem_of_getElem? (i := 23) rfl)) d_jdk_52_method_16_1 (on_nneg (by omega)) (cap := 8) (by rw [on_clamp (by omega)]; exact hl) (own_le rfl) (own_le rfl) (own_le rfl) ?_
  intro T1 h1 a1 k1 g1 W1 E1 A1
  refine W1.astoreN me d_jdk_52_method_16_3 (l' := #[.val (.ref ca), .val (.int 0), .val (.int (Int32.ofNat cs.length)), .val (.ref a1), .unset, .unset]) rfl rfl ?_
  refine W1.aloadN me d_jdk_52_method_16_4 rfl rfl ?_
  refine W1.iloadN me d_jdk_52_method_16_5 rfl ?_
  refine W1.aloadN me d_jdk_52_method_16_6 rfl rfl ?_
  refine W1.iconst me d_jdk_52_method_16_7 (v := 0) rfl ?_
  refine W1.iloadN me d_jdk_52_method_16_8 rfl ?_
  show Fi p e below s Z _ _ _ _ T1 (mkF m 9 #[.val (.ref ca), .val (.int 0), .val (.int (Int32.ofNat cs.length)), .val (.ref a1), .unset, .unset] [(.int (Int32.ofNat cs.length)), (.int (0 : Int32)), (.ref a1), (.int 0), (.ref ca)])
  refine W1.callS me hEL (hw _ (List.mem_of_getElem? (i := 24) rfl)) (hw _ (List.mem_of_getElem? (i := 25) rfl)) (hw _ (List.mem_of_getElem? (i := 21) rfl)) (hw _ (List.mem_of_getElem? (i := 26) rfl)) (argsL := [(.ref ca), (.int 0), (.ref a1), (.int (0 : Int32)), (.int (Int32.ofNat cs.length))]) (rest := []) (c_compress g W1.old (Aca.ext E1) A1 (own_ne (by omega)) (List.mem_cons_self ..) (by have := hO.2.1; omega) hC8 (by omega)) d_jdk_52_method_16_9 (by decide) (fun _ q => q) rfl (lenOf pd_0 rfl) (own_le rfl) (own_le rfl) (own_le rfl) (own_le rfl) rfl ?_
  intro T2 h2 v2 W2 z2 q2
  obtain ⟨sf2, X2, _, rfl, K2, rfl, A2⟩ := q2
  show Fi p e below s Z _ _ _ _ T2 (mkF m 12 #[.val (.ref ca), .val (.int 0), .val (.int (Int32.ofNat cs.length)), .val (.ref a1), .unset, .unset] [(.int (Int32.ofNat cs.length))])
  refine W2.istore me d_jdk_52_method_16_12 (l' := #[.val (.ref ca), .val (.int 0), .val (.int (Int32.ofNat cs.length)), .val (.ref a1), .val (.int (Int32.ofNat cs.length)), .unset]) rfl ?_
  refine W2.iload me d_jdk_52_method_16_14 rfl ?_
  refine W2.iloadN me d_jdk_52_method_16_16 rfl ?_
  show Fi p e below s Z _ _ _ _ T2 (mkF m 17 #[.val (.ref ca), .val (.int 0), .val (.int (Int32.ofNat cs.length)), .val (.ref a1), .val (.int (Int32.ofNat cs.length)), .unset] [(.int (Int32.ofNat cs.length)), (.int (Int32.ofNat cs.length))])
  refine W2.icY_eq me d_jdk_52_method_16_17 rfl (pc' := 57) (by decide) (by decide) ?_
  refine W2.aloadN me d_jdk_52_method_16_57 rfl rfl ?_
  show Fi p e below s Z _ _ _ _ T2 (mkF m 58 #[.val (.ref ca), .val (.int 0), .val (.int (Int32.ofNat cs.length)), .val (.ref a1), .val (.int (Int32.ofNat cs.length)), .unset] [(.ref a1)])
  exact W2.retA hEL me d_jdk_52_method_16_58 ⟨own_xk E1 K2 (allS (by omega) all0), a1, k1, rfl, by omega, A2⟩ (by decide) (by decide) rfl rfl rfl

set_option maxRecDepth 65536 in
set_option maxHeartbeats 4000000 in
theorem c_init149 {l : Launch} {Z : State} {a0 : Array Value} {kn : Bool} (g : Gl Z a0) {ws : List Cond} {h0 : Heap} {ss : List Addr} (hO : Old Z Z.heap.size h0) {x ca : Addr} {kca : ClassId} {cs : List Int32} {dv vv vc : Value} (EX : Exa Z h0 x "java/lang/String") (FV : Fld Z h0 x "java/lang/String" "value" "[B" vv) (FC : Fld Z h0 x "java/lang/String" "coder" "B" vc) (Aca : Arv Z h0 ca kca .char (Int32.ofNat cs.length) (cs.map Value.int) dv) (hS : x ∈ ss) (hz : Z.heap.size ≤ x) (hC8 : C8 cs) (hl : cs.length ≤ 8) :
    Con l Z consts_1 kn ws (⟨"java/lang/String", "<init>", "([CIILjava/lang/Void;)V"⟩ : MethodName) jdk_42_method_149_code 6 none ({ frames := 2, cells := 4, slots := 8, locals := 35 } : Room) #[(.ref x), (.ref ca), (.int 0), (.int (Int32.ofNat cs.length)), .null] h0 ss (rU fun h => Keep h0 h [x] ∧ Lat Z h x cs) := by
  have hw := g.1
  have hEL := g.2.1
  refine Con.of (plainFor_of_name pn_1) hO ?_
  intro p e s m below meth c T0 me W0
  refine Fi.entry (L := #[.val (.ref x), .val (.ref ca), .val (.int 0), .val (.int (Int32.ofNat cs.length)), .val .null, .unset]) (by first | (simp [entryFrame, mkF, argsToLocals, Value.category, maxLocals]; done) | (simp [entryFrame, mkF, argsToLocals, Value.category]; done) | rfl) ?_
  refine W0.aloadN me d_jdk_42_method_149_0 rfl rfl ?_
  show Fi p e below s Z _ _ _ _ T0 (mkF m 1 #[.val (.ref x), .val (.ref ca), .val (.int 0), .val (.int (Int32.ofNat cs.length)), .val .null, .unset] [(.ref x)])
  refine W0.initO me (hw _ (List.mem_of_getElem? (i := 15) rfl)) (hw _ (List.mem_of_getElem? (i := 16) rfl)) (hw _ (List.mem_of_getElem? (i := 17) rfl)) d_jdk_42_method_149_1 rfl (own_le rfl) (own_le rfl) ?_
  intro T1 W1
  show Fi p e below s Z _ _ _ _ T1 (mkF m 4 #[.val (.ref x), .val (.ref ca), .val (.int 0), .val (.int (Int32.ofNat cs.length)), .val .null, .unset] [])
  refine W1.iloadN me d_jdk_42_method_149_4 rfl ?_
  show Fi p e below s Z _ _ _ _ T1 (mkF m 5 #[.val (.ref x), .val (.ref ca), .val (.int 0), .val (.int (Int32.ofNat cs.length)), .val .null, .unset] [(.int (Int32.ofNat cs.length))])
  have hLV : Laid Z a0 "java/lang/String" "java/lang/String" "value" "[B" := Or.inr (hw _ (List.mem_of_getElem? (i := 33) rfl))
  have hLC : Laid Z a0 "java/lang/String" "java/lang/String" "coder" "B" := Or.inr (hw _ (List.mem_of_getElem? (i := 31) rfl))
  have hvc : Jvm.RoadKit.slotOf Z "java/lang/String" "value" "[B" ≠ Jvm.RoadKit.slotOf Z "java/lang/String" "coder" "B" := slot_ne hLV hLC (by decide) (t := .array .byte) (t' := .byte) (by decide) (by decide)
  have hxlt := own_lt EX.lt
  refine W1.if_ne me d_jdk_42_method_149_5 (pc' := 27) (by decide) (by decide) (fun hb => ?_) (fun hb => ?_)
  rotate_left
  ·
    have e0 : cs.length = 0 := (on_inj (by omega) (by omega)).mp (hb.trans rfl)
    have ec : cs = [] := List.eq_nil_of_length_eq_zero e0
    refine W1.aloadN me d_jdk_42_method_149_8 rfl rfl ?_
    show Fi p e below s Z _ _ _ _ T1 (mkF m 9 #[.val (.ref x), .val (.ref ca), .val (.int 0), .val (.int (Int32.ofNat cs.length)), .val .null, .unset] [(.ref x)])
    refine W1.ldcS me hEL (List.mem_of_getElem? (i := 6) rfl) (hw _ (List.mem_of_getElem? (i := 34) rfl)) (stratoms g) (vs := []) (z := 0) ⟨by decide, by decide⟩ (by decide) (by decide) d_jdk_42_method_149_9 (n := 0) (by decide) (by decide) (by decide) (by decide) ?_
    intro T2 h2 a2 b2 k2 W2 E2 A2 C2 V2 B2 N2
    show Fi p e below s Z _ _ _ _ T2 (mkF m 11 #[.val (.ref x), .val (.ref ca), .val (.int 0), .val (.int (Int32.ofNat cs.length)), .val .null, .unset] [(.ref a2), (.ref x)])
    refine W2.getF me (hw _ (List.mem_of_getElem? (i := 32) rfl)) V2 Via.refl d_jdk_42_method_149_11 ?_
    intro T3 W3
    show Fi p e below s Z _ _ _ _ T3 (mkF m 14 #[.val (.ref x), .val (.ref ca), .val (.int 0), .val (.int (Int32.ofNat cs.length)), .val .null, .unset] [(.ref b2), (.ref x)])
    have N2a := (N2 x hS).1
    have N2b := (N2 x hS).2
    refine W3.putF me (hw _ (List.mem_of_getElem? (i := 32) rfl)) (FV.ext E2) Via.refl (EX.ext E2) (Or.inr ⟨(hw _ (List.mem_of_getElem? (i := 33) rfl)), rfl, rfl⟩) (hw _ (List.mem_of_getElem? (i := 5) rfl)) (ty := (.array .byte)) (by decide) rfl rfl (Or.inl hS) hz d_jdk_42_method_149_14 ?_
    intro T4 h4 W4 R4
    show Fi p e below s Z _ _ _ _ T4 (mkF m 17 #[.val (.ref x), .val (.ref ca), .val (.int 0), .val (.int (Int32.ofNat cs.length)), .val .null, .unset] [])
    refine W4.aloadN me d_jdk_42_method_149_17 rfl rfl ?_
    show Fi p e below s Z _ _ _ _ T4 (mkF m 18 #[.val (.ref x), .val (.ref ca), .val (.int 0), .val (.int (Int32.ofNat cs.length)), .val .null, .unset] [(.ref x)])
    refine W4.ldcS me hEL (List.mem_of_getElem? (i := 6) rfl) (hw _ (List.mem_of_getElem? (i := 34) rfl)) (stratoms g) (vs := []) (z := 0) ⟨by decide, by decide⟩ (by decide) (by decide) d_jdk_42_method_149_18 (n := 0) (by decide) (by decide) (by decide) (by decide) ?_
    intro T5 h5 a5 b5 k5 W5 E5 A5 C5 V5 B5 N5
    show Fi p e below s Z _ _ _ _ T5 (mkF m 20 #[.val (.ref x), .val (.ref ca), .val (.int 0), .val (.int (Int32.ofNat cs.length)), .val .null, .unset] [(.ref a5), (.ref x)])
    refine W5.getF me (hw _ (List.mem_of_getElem? (i := 30) rfl)) C5 Via.refl d_jdk_42_method_149_20 ?_
    intro T6 W6
    show Fi p e below s Z _ _ _ _ T6 (mkF m 23 #[.val (.ref x), .val (.ref ca), .val (.int 0), .val (.int (Int32.ofNat cs.length)), .val .null, .unset] [(.int (0 : Int32)), (.ref x)])
    have FC3 := ((FC.ext E2).other R4 (Or.inr hvc.symm)).ext E5
    have FV3 := ((FV.ext E2).same R4).ext E5
    have EX3 := ((EX.ext E2).wr R4).ext E5
    have B3 := (B2.other R4 (Ne.symm N2b)).ext E5
    refine W6.putF me (hw _ (List.mem_of_getElem? (i := 30) rfl)) FC3 Via.refl EX3 (Or.inr ⟨(hw _ (List.mem_of_getElem? (i := 31) rfl)), rfl, rfl⟩) (hw _ (List.mem_of_getElem? (i := 5) rfl)) (ty := .byte) (by decide) rfl rfl (Or.inl hS) hz d_jdk_42_method_149_23 ?_
    intro T7 h7 W7 R7
    show Fi p e below s Z _ _ _ _ T7 (mkF m 26 #[.val (.ref x), .val (.ref ca), .val (.int 0), .val (.int (Int32.ofNat cs.length)), .val .null, .unset] [])
    have K4 : Keep h0 h7 [x] := (((own_xK E2 [x]).wr R4 (Or.inl (List.mem_singleton.mpr rfl))).ext E5).wr R7 (Or.inl (List.mem_singleton.mpr rfl))
    exact W7.retU hEL me d_jdk_42_method_149_26 ⟨K4, by rw [ec]; exact ⟨b2, k2, EX3.wr R7, FC3.same R7, FV3.other R7 (Or.inr hvc), B3.other R7 (Ne.symm N2b), by decide, C8.nil⟩⟩ (by decide) (by decide)
  ·
    show Fi p e below s Z _ _ _ _ T1 (mkF m 27 #[.val (.ref x), .val (.ref ca), .val (.int 0), .val (.int (Int32.ofNat cs.length)), .val .null, .unset] [])
    obtain ⟨G, O2, P2⟩ := g.2.2.1
    refine W1.getS me (hw _ (List.mem_of_getElem? (i := 18) rfl)) O2 Via.refl d_jdk_42_method_149_27 ?_
    intro T8 W8
    show Fi p e below s Z _ _ _ _ T8 (mkF m 30 #[.val (.ref x), .val (.ref ca), .val (.int 0), .val (.int (Int32.ofNat cs.length)), .val .null, .unset] [(.int G)])
    refine W8.ifN_eq me d_jdk_42_method_149_30 P2 ?_
    refine W8.aloadN me d_jdk_42_method_149_33 rfl rfl ?_
    refine W8.iloadN me d_jdk_42_method_149_34 rfl ?_
    refine W8.iloadN me d_jdk_42_method_149_35 rfl ?_
    show Fi p e below s Z _ _ _ _ T8 (mkF m 36 #[.val (.ref x), .val (.ref ca), .val (.int 0), .val (.int (Int32.ofNat cs.length)), .val .null, .unset] [(.int (Int32.ofNat cs.length)), (.int 0), (.ref ca)])
    refine W8.callS me hEL (hw _ (List.mem_of_getElem? (i := 19) rfl)) (hw _ (List.mem_of_getElem? (i := 20) rfl)) (hw _ (List.mem_of_getElem? (i := 21) rfl)) (hw _ (List.mem_of_getElem? (i := 22) rfl)) (argsL := [(.ref ca), (.int 0), (.int (Int32.ofNat cs.length))]) (rest := []) (c_compress1 (ss := []) g W8.old Aca hC8 hl) d_jdk_42_method_149_36 (by decide) (fun _ q => nomatch q) rfl (lenOf pd_1 rfl) (own_le rfl) (own_le rfl) (own_le rfl) (own_le rfl) rfl ?_
    intro T9 h9 v9 W9 z9 q9
    obtain ⟨sf9, X9, _, rfl, E9, b9, k9, rfl, y9, A9⟩ := q9
    show Fi p e below s Z _ _ _ _ T9 (mkF m 39 #[.val (.ref x), .val (.ref ca), .val (.int 0), .val (.int (Int32.ofNat cs.length)), .val .null, .unset] [(.ref b9)])
    refine W9.astore me d_jdk_42_method_149_39 (l' := #[.val (.ref x), .val (.ref ca), .val (.int 0), .val (.int (Int32.ofNat cs.length)), .val .null, .val (.ref b9)]) rfl rfl ?_
    refine W9.aloadN me d_jdk_42_method_149_41 rfl rfl ?_
    refine W9.aload me d_jdk_42_method_149_42 rfl rfl ?_
    refine W9.iloadN me d_jdk_42_method_149_44 rfl ?_
    show Fi p e below s Z _ _ _ _ T9 (mkF m 45 #[.val (.ref x), .val (.ref ca), .val (.int 0), .val (.int (Int32.ofNat cs.length)), .val .null, .val (.ref b9)] [(.int (Int32.ofNat cs.length)), (.ref b9), (.ref x)])
    refine W9.callS me hEL (hw _ (List.mem_of_getElem? (i := 27) rfl)) (hw _ (List.mem_of_getElem? (i := 28) rfl)) (hw _ (List.mem_of_getElem? (i := 21) rfl)) (hw _ (List.mem_of_getElem? (i := 29) rfl)) (argsL := [(.ref b9), (.int (Int32.ofNat cs.length))]) (rest := [(.ref x)]) (c_coderlen (ss := []) g W9.old A9) d_jdk_42_method_149_45 (by decide) (fun _ q => nomatch q) rfl (lenOf pd_2 rfl) (own_le rfl) (own_le rfl) (own_le rfl) (own_le rfl) rfl ?_
    intro T10 h10 v10 W10 z10 q10
    obtain ⟨sf10, X10, _, rfl, rfl, rfl⟩ := q10
    show Fi p e below s Z _ _ _ _ T10 (mkF m 48 #[.val (.ref x), .val (.ref ca), .val (.int 0), .val (.int (Int32.ofNat cs.length)), .val .null, .val (.ref b9)] [(.int (0 : Int32)), (.ref x)])
    refine W10.putF me (hw _ (List.mem_of_getElem? (i := 30) rfl)) (FC.ext E9) Via.refl (EX.ext E9) (Or.inr ⟨(hw _ (List.mem_of_getElem? (i := 31) rfl)), rfl, rfl⟩) (hw _ (List.mem_of_getElem? (i := 5) rfl)) (ty := .byte) (by decide) rfl rfl (Or.inl hS) hz d_jdk_42_method_149_48 ?_
    intro T11 h11 W11 R11
    show Fi p e below s Z _ _ _ _ T11 (mkF m 51 #[.val (.ref x), .val (.ref ca), .val (.int 0), .val (.int (Int32.ofNat cs.length)), .val .null, .val (.ref b9)] [])
    refine W11.aloadN me d_jdk_42_method_149_51 rfl rfl ?_
    refine W11.aload me d_jdk_42_method_149_52 rfl rfl ?_
    show Fi p e below s Z _ _ _ _ T11 (mkF m 54 #[.val (.ref x), .val (.ref ca), .val (.int 0), .val (.int (Int32.ofNat cs.length)), .val .null, .val (.ref b9)] [(.ref b9), (.ref x)])
    refine W11.putF me (hw _ (List.mem_of_getElem? (i := 32) rfl)) ((FV.ext E9).other R11 (Or.inr hvc)) Via.refl ((EX.ext E9).wr R11) (Or.inr ⟨(hw _ (List.mem_of_getElem? (i := 33) rfl)), rfl, rfl⟩) (hw _ (List.mem_of_getElem? (i := 5) rfl)) (ty := (.array .byte)) (by decide) rfl rfl (Or.inl hS) hz d_jdk_42_method_149_54 ?_
    intro T12 h12 W12 R12
    show Fi p e below s Z _ _ _ _ T12 (mkF m 57 #[.val (.ref x), .val (.ref ca), .val (.int 0), .val (.int (Int32.ofNat cs.length)), .val .null, .val (.ref b9)] [])
    have hne5 : b9 ≠ x := own_en (by omega)
    have K8 : Keep h0 h12 [x] := ((own_xK E9 [x]).wr R11 (Or.inl (List.mem_singleton.mpr rfl))).wr R12 (Or.inl (List.mem_singleton.mpr rfl))
    exact W12.retU hEL me d_jdk_42_method_149_57 ⟨K8, b9, k9, ((EX.ext E9).wr R11).wr R12, ((FC.ext E9).same R11).other R12 (Or.inr hvc.symm), ((FV.ext E9).other R11 (Or.inr hvc)).same R12, (A9.other R11 hne5).other R12 hne5, by omega, hC8⟩ (by decide) (by decide)

set_option maxRecDepth 65536 in
set_option maxHeartbeats 4000000 in
theorem c_init3 {l : Launch} {Z : State} {a0 : Array Value} {kn : Bool} (g : Gl Z a0) {ws : List Cond} {h0 : Heap} {ss : List Addr} (hO : Old Z Z.heap.size h0) {x ca : Addr} {kca : ClassId} {cs : List Int32} {dv vv vc : Value} (EX : Exa Z h0 x "java/lang/String") (FV : Fld Z h0 x "java/lang/String" "value" "[B" vv) (FC : Fld Z h0 x "java/lang/String" "coder" "B" vc) (Aca : Arv Z h0 ca kca .char (Int32.ofNat cs.length) (cs.map Value.int) dv) (hS : x ∈ ss) (hz : Z.heap.size ≤ x) (hC8 : C8 cs) (hl : cs.length ≤ 8) :
    Con l Z consts_1 kn ws (⟨"java/lang/String", "<init>", "([C)V"⟩ : MethodName) jdk_42_method_3_code 2 none ({ frames := 3, cells := 4, slots := 8, locals := 52 } : Room) #[(.ref x), (.ref ca)] h0 ss (rU fun h => Keep h0 h [x] ∧ Lat Z h x cs) := by
  have hw := g.1
  have hEL := g.2.1
  refine Con.of (plainFor_of_name pn_1) hO ?_
  intro p e s m below meth c T0 me W0
  refine Fi.entry (L := #[.val (.ref x), .val (.ref ca)]) (by first | (simp [entryFrame, mkF, argsToLocals, Value.category, maxLocals]; done) | (simp [entryFrame, mkF, argsToLocals, Value.category]; done) | rfl) ?_
  refine W0.aloadN me d_jdk_42_method_3_0 rfl rfl ?_
  refine W0.aloadN me d_jdk_42_method_3_1 rfl rfl ?_
  refine W0.iconst me d_jdk_42_method_3_2 (v := 0) rfl ?_
  refine W0.aloadN me d_jdk_42_method_3_3 rfl rfl ?_
  show Fi p e below s Z _ _ _ _ T0 (mkF m 4 #[.val (.ref x), .val (.ref ca)] [(.ref ca), (.int (0 : Int32)), (.ref ca), (.ref x)])
  refine W0.alen me Aca d_jdk_42_method_3_4 ?_
  refine W0.aconstNull me d_jdk_42_method_3_5 ?_
  show Fi p e below s Z _ _ _ _ T0 (mkF m 6 #[.val (.ref x), .val (.ref ca)] [.null, (.int (Int32.ofNat cs.length)), (.int (0 : Int32)), (.ref ca), (.ref x)])
  refine W0.callI me hEL (hw _ (List.mem_of_getElem? (i := 11) rfl)) (hw _ (List.mem_of_getElem? (i := 12) rfl)) (hw _ (List.mem_of_getElem? (i := 6) rfl)) (hw _ (List.mem_of_getElem? (i := 14) rfl)) rfl (a := x) (argsL := [(.ref ca), (.int (0 : Int32)), (.int (Int32.ofNat cs.length)), .null]) (rest := []) (c_init149 g W0.old EX FV FC Aca hS hz hC8 hl) d_jdk_42_method_3_6 (by decide) (fun _ q => q) rfl (lenOf pd_3 rfl) (own_le rfl) (own_le rfl) (own_le rfl) (own_le rfl) rfl ?_
  intro T1 h1 v1 W1 z1 q1
  obtain ⟨sf1, X1, rfl, K1, L1⟩ := q1
  show Fi p e below s Z _ _ _ _ T1 (mkF m 9 #[.val (.ref x), .val (.ref ca)] [])
  exact W1.retU hEL me d_jdk_42_method_3_9 ⟨K1, L1⟩ (by decide) (by decide)

set_option maxRecDepth 65536 in
set_option maxHeartbeats 4000000 in
theorem c_coder {l : Launch} {Z : State} {a0 : Array Value} {kn : Bool} (g : Gl Z a0) {ws : List Cond} {h0 : Heap} {ss : List Addr} (hO : Old Z Z.heap.size h0) {a : Addr} {cd : Int32} (FC : Fld Z h0 a "java/lang/String" "coder" "B" (.int cd)) (hcd : nar .byte cd = cd) :
    Con l Z consts_1 kn ws (⟨"java/lang/String", "coder", "()B"⟩ : MethodName) jdk_42_method_152_code 1 (some .byte) ({ frames := 0, cells := 0, slots := 0, locals := 0 } : Room) #[(.ref a)] h0 ss (rV fun v h => h0 = h ∧ v = .int cd) := by
  have hw := g.1
  have hEL := g.2.1
  refine Con.of (plainFor_of_name pn_1) hO ?_
  intro p e s m below meth c T0 me W0
  refine Fi.entry (L := #[.val (.ref a)]) (by first | (simp [entryFrame, mkF, argsToLocals, Value.category, maxLocals]; done) | (simp [entryFrame, mkF, argsToLocals, Value.category]; done) | rfl) ?_
  obtain ⟨G, O2, P2⟩ := g.2.2.1
  refine W0.getS me (hw _ (List.mem_of_getElem? (i := 18) rfl)) O2 Via.refl d_jdk_42_method_152_0 ?_
  intro T1 W1
  show Fi p e below s Z _ _ _ _ T1 (mkF m 3 #[.val (.ref a)] [(.int G)])
  refine W1.ifN_eq me d_jdk_42_method_152_3 P2 ?_
  refine W1.aloadN me d_jdk_42_method_152_6 rfl rfl ?_
  show Fi p e below s Z _ _ _ _ T1 (mkF m 7 #[.val (.ref a)] [(.ref a)])
  refine W1.getF me (hw _ (List.mem_of_getElem? (i := 30) rfl)) FC Via.refl d_jdk_42_method_152_7 ?_
  intro T2 W2
  show Fi p e below s Z _ _ _ _ T2 (mkF m 10 #[.val (.ref a)] [(.int cd)])
  refine W2.goto me d_jdk_42_method_152_10 (pc' := 14) (by decide) (by decide) ?_
  show Fi p e below s Z _ _ _ _ T2 (mkF m 14 #[.val (.ref a)] [(.int cd)])
  exact W2.retN hEL me (Or.inr (Or.inl rfl)) d_jdk_42_method_152_14 ⟨rfl, by rw [hcd]⟩ (by decide) (by decide)

set_option maxRecDepth 65536 in
set_option maxHeartbeats 4000000 in
theorem c_length {l : Launch} {Z : State} {a0 : Array Value} {kn : Bool} (g : Gl Z a0) {ws : List Cond} {h0 : Heap} {ss : List Addr} (hO : Old Z Z.heap.size h0) {a : Addr} {cs : List Int32} (L : Lat Z h0 a cs) :
    Con l Z consts_1 kn ws (⟨"java/lang/String", "length", "()I"⟩ : MethodName) jdk_42_method_54_code 1 (some .int) ({ frames := 1, cells := 0, slots := 0, locals := 13 } : Room) #[(.ref a)] h0 ss (rV fun v h => h0 = h ∧ v = .int (Int32.ofNat cs.length)) := by
  have hw := g.1
  have hEL := g.2.1
  refine Con.of (plainFor_of_name pn_1) hO ?_
  intro p e s m below meth c T0 me W0
  refine Fi.entry (L := #[.val (.ref a)]) (by first | (simp [entryFrame, mkF, argsToLocals, Value.category, maxLocals]; done) | (simp [entryFrame, mkF, argsToLocals, Value.category]; done) | rfl) ?_
  obtain ⟨vb, kb, EX, FC, FV, AB, hl, hC8⟩ := L
  refine W0.aloadN me d_jdk_42_method_54_0 rfl rfl ?_
  show Fi p e below s Z _ _ _ _ T0 (mkF m 1 #[.val (.ref a)] [(.ref a)])
  refine W0.getF me (hw _ (List.mem_of_getElem? (i := 32) rfl)) FV Via.refl d_jdk_42_method_54_1 ?_
  intro T1 W1
  show Fi p e below s Z _ _ _ _ T1 (mkF m 4 #[.val (.ref a)] [(.ref vb)])
  refine W1.alen me AB d_jdk_42_method_54_4 ?_
  refine W1.aloadN me d_jdk_42_method_54_5 rfl rfl ?_
  show Fi p e below s Z _ _ _ _ T1 (mkF m 6 #[.val (.ref a)] [(.ref a), (.int (Int32.ofNat cs.length))])
  refine W1.callV me hEL (hw _ (List.mem_of_getElem? (i := 103) rfl)) (hw _ (List.mem_of_getElem? (i := 104) rfl)) (fun hZ' => notFace_of_selects (args := #[]) (mvT (s := s.setVm _) hZ' (hw _ (List.mem_of_getElem? (i := 106) rfl)))) (hw _ (List.mem_of_getElem? (i := 106) rfl)) (hw _ (List.mem_of_getElem? (i := 105) rfl)) (hw _ (List.mem_of_getElem? (i := 6) rfl)) (hw _ (List.mem_of_getElem? (i := 107) rfl)) (a := a) (argsL := []) (rest := [(.int (Int32.ofNat cs.length))]) EX (c_coder (ss := []) g W1.old FC rfl) d_jdk_42_method_54_6 (by decide) (fun _ q => nomatch q) rfl (lenOf pd_4 rfl) (own_le rfl) (own_le rfl) (own_le rfl) (own_le rfl) rfl ?_
  intro T2 h2 v2 W2 z2 q2
  obtain ⟨sf2, X2, _, rfl, rfl, rfl⟩ := q2
  show Fi p e below s Z _ _ _ _ T2 (mkF m 9 #[.val (.ref a)] [(.int (0 : Int32)), (.int (Int32.ofNat cs.length))])
  refine W2.ishr me d_jdk_42_method_54_9 ?_
  show Fi p e below s Z _ _ _ _ T2 (mkF m 10 #[.val (.ref a)] [(.int ((Int32.ofNat cs.length) >>> ((0 : Int32) &&& 31)))])
  have e1 : Int32.ofNat cs.length >>> ((0 : Int32) &&& 31) = Int32.ofNat cs.length := by simp
  rw [e1]
  exact W2.retI hEL me d_jdk_42_method_54_10 ⟨rfl, rfl⟩ (by decide) (by decide)

set_option maxRecDepth 65536 in
set_option maxHeartbeats 4000000 in
theorem c_islat {l : Launch} {Z : State} {a0 : Array Value} {kn : Bool} (g : Gl Z a0) {ws : List Cond} {h0 : Heap} {ss : List Addr} (hO : Old Z Z.heap.size h0) {a : Addr} (FC : Fld Z h0 a "java/lang/String" "coder" "B" (.int 0)) :
    Con l Z consts_1 kn ws (⟨"java/lang/String", "isLatin1", "()Z"⟩ : MethodName) jdk_42_method_154_code 1 (some .boolean) ({ frames := 0, cells := 0, slots := 0, locals := 0 } : Room) #[(.ref a)] h0 ss (rV fun v h => h0 = h ∧ v = .int 1) := by
  have hw := g.1
  have hEL := g.2.1
  refine Con.of (plainFor_of_name pn_1) hO ?_
  intro p e s m below meth c T0 me W0
  refine Fi.entry (L := #[.val (.ref a)]) (by first | (simp [entryFrame, mkF, argsToLocals, Value.category, maxLocals]; done) | (simp [entryFrame, mkF, argsToLocals, Value.category]; done) | rfl) ?_
  obtain ⟨G, O2, P2⟩ := g.2.2.1
  refine W0.getS me (hw _ (List.mem_of_getElem? (i := 18) rfl)) O2 Via.refl d_jdk_42_method_154_0 ?_
  intro T1 W1
  show Fi p e below s Z _ _ _ _ T1 (mkF m 3 #[.val (.ref a)] [(.int G)])
  refine W1.ifN_eq me d_jdk_42_method_154_3 P2 ?_
  refine W1.aloadN me d_jdk_42_method_154_6 rfl rfl ?_
  show Fi p e below s Z _ _ _ _ T1 (mkF m 7 #[.val (.ref a)] [(.ref a)])
  refine W1.getF me (hw _ (List.mem_of_getElem? (i := 30) rfl)) FC Via.refl d_jdk_42_method_154_7 ?_
  intro T2 W2
  show Fi p e below s Z _ _ _ _ T2 (mkF m 10 #[.val (.ref a)] [(.int (0 : Int32))])
  refine W2.ifN_ne me d_jdk_42_method_154_10 rfl ?_
  refine W2.iconst me d_jdk_42_method_154_13 (v := 1) rfl ?_
  refine W2.goto me d_jdk_42_method_154_14 (pc' := 18) (by decide) (by decide) ?_
  show Fi p e below s Z _ _ _ _ T2 (mkF m 18 #[.val (.ref a)] [(.int (1 : Int32))])
  exact W2.retN hEL me (Or.inl rfl) d_jdk_42_method_154_18 ⟨rfl, rfl⟩ (by decide) (by decide)

set_option maxRecDepth 65536 in
set_option maxHeartbeats 4000000 in
theorem c_pchk {l : Launch} {Z : State} {a0 : Array Value} {kn : Bool} (g : Gl Z a0) {ws : List Cond} {h0 : Heap} {ss : List Addr} (hO : Old Z Z.heap.size h0) {i n : Int32} {G : Value} (rG : G.isRef = true) (hi : ¬ i < 0 ∧ i < n) :
    Con l Z consts_1 kn ws (⟨"jdk/internal/util/Preconditions", "checkIndex", "(IILjava/util/function/BiFunction;)I"⟩ : MethodName) jdk_41_method_11_code 3 (some .int) ({ frames := 0, cells := 0, slots := 0, locals := 0 } : Room) #[(.int i), (.int n), G] h0 ss (rV fun v h => h0 = h ∧ v = .int i) := by
  have hw := g.1
  have hEL := g.2.1
  refine Con.of (plainFor_of_name pn_2) hO ?_
  intro p e s m below meth c T0 me W0
  have hcG : G.category = 1 := XT.cat1 rG
  refine Fi.entry (L := #[.val (.int i), .val (.int n), .val G]) (by rcases ref_cases rG with rfl | ⟨ga, rfl⟩ <;> simp [entryFrame, mkF, argsToLocals, Value.category]) ?_
  refine W0.iloadN me d_jdk_41_method_11_0 rfl ?_
  show Fi p e below s Z _ _ _ _ T0 (mkF m 1 #[.val (.int i), .val (.int n), .val G] [(.int i)])
  refine W0.ifN_lt me d_jdk_41_method_11_1 hi.1 ?_
  refine W0.iloadN me d_jdk_41_method_11_4 rfl ?_
  refine W0.iloadN me d_jdk_41_method_11_5 rfl ?_
  show Fi p e below s Z _ _ _ _ T0 (mkF m 6 #[.val (.int i), .val (.int n), .val G] [(.int n), (.int i)])
  refine W0.icY_lt me d_jdk_41_method_11_6 hi.2 (pc' := 16) (by decide) (by decide) ?_
  refine W0.iloadN me d_jdk_41_method_11_16 rfl ?_
  show Fi p e below s Z _ _ _ _ T0 (mkF m 17 #[.val (.int i), .val (.int n), .val G] [(.int i)])
  exact W0.retI hEL me d_jdk_41_method_11_17 ⟨rfl, rfl⟩ (by decide) (by decide)

set_option maxRecDepth 65536 in
set_option maxHeartbeats 4000000 in
theorem c_schk {l : Launch} {Z : State} {a0 : Array Value} {kn : Bool} (g : Gl Z a0) {ws : List Cond} {h0 : Heap} {ss : List Addr} (hO : Old Z Z.heap.size h0) {i n : Int32} (hi : ¬ i < 0 ∧ i < n) :
    Con l Z consts_1 kn ws (⟨"java/lang/String", "checkIndex", "(II)V"⟩ : MethodName) jdk_42_method_155_code 2 none ({ frames := 1, cells := 0, slots := 0, locals := 14 } : Room) #[(.int i), (.int n)] h0 ss (rU fun h => h0 = h) := by
  have hw := g.1
  have hEL := g.2.1
  refine Con.of (plainFor_of_name pn_1) hO ?_
  intro p e s m below meth c T0 me W0
  refine Fi.entry (L := #[.val (.int i), .val (.int n)]) (by first | (simp [entryFrame, mkF, argsToLocals, Value.category, maxLocals]; done) | (simp [entryFrame, mkF, argsToLocals, Value.category]; done) | rfl) ?_
  obtain ⟨G, O3, rG⟩ := g.2.2.2.1
  refine W0.iloadN me d_jdk_42_method_155_0 rfl ?_
  refine W0.iloadN me d_jdk_42_method_155_1 rfl ?_
  show Fi p e below s Z _ _ _ _ T0 (mkF m 2 #[.val (.int i), .val (.int n)] [(.int n), (.int i)])
  refine W0.getS me (hw _ (List.mem_of_getElem? (i := 224) rfl)) O3 Via.refl d_jdk_42_method_155_2 ?_
  intro T1 W1
  show Fi p e below s Z _ _ _ _ T1 (mkF m 5 #[.val (.int i), .val (.int n)] [G, (.int n), (.int i)])
  refine W1.callS me hEL (hw _ (List.mem_of_getElem? (i := 226) rfl)) (hw _ (List.mem_of_getElem? (i := 227) rfl)) (hw _ (List.mem_of_getElem? (i := 225) rfl)) (hw _ (List.mem_of_getElem? (i := 228) rfl)) (argsL := [(.int i), (.int n), G]) (rest := []) (c_pchk (ss := []) g W1.old rG hi) d_jdk_42_method_155_5 (by decide) (fun _ q => nomatch q) rfl (lenOf pd_5 rfl) (own_le rfl) (own_le rfl) (own_le rfl) (own_le rfl) rfl ?_
  intro T2 h2 v2 W2 z2 q2
  obtain ⟨sf2, X2, _, rfl, rfl, rfl⟩ := q2
  show Fi p e below s Z _ _ _ _ T2 (mkF m 8 #[.val (.int i), .val (.int n)] [(.int i)])
  refine W2.pop me d_jdk_42_method_155_8 rfl ?_
  show Fi p e below s Z _ _ _ _ T2 (mkF m 9 #[.val (.int i), .val (.int n)] [])
  exact W2.retU hEL me d_jdk_42_method_155_9 rfl (by decide) (by decide)

set_option maxRecDepth 65536 in
set_option maxHeartbeats 4000000 in
theorem c_latat {l : Launch} {Z : State} {a0 : Array Value} {kn : Bool} (g : Gl Z a0) {ws : List Cond} {h0 : Heap} {ss : List Addr} (hO : Old Z Z.heap.size h0) {b : Addr} {kb : ClassId} {cs : List Int32} {i : Nat} (AB : Arv Z h0 b kb .byte (Int32.ofNat cs.length) (lb cs) (.int 0)) (hl : cs.length < 2 ^ 20) (hC8 : C8 cs) (hi : i < cs.length) :
    Con l Z consts_1 kn ws (⟨"java/lang/StringLatin1", "charAt", "([BI)C"⟩ : MethodName) jdk_43_method_2_code 2 (some .char) ({ frames := 2, cells := 0, slots := 0, locals := 27 } : Room) #[(.ref b), (.int (Int32.ofNat i))] h0 ss (rV fun v h => h0 = h ∧ v = .int (cs.getD i 0)) := by
  have hw := g.1
  have hEL := g.2.1
  refine Con.of (plainFor_of_name pn_3) hO ?_
  intro p e s m below meth c T0 me W0
  refine Fi.entry (L := #[.val (.ref b), .val (.int (Int32.ofNat i))]) (by first | (simp [entryFrame, mkF, argsToLocals, Value.category, maxLocals]; done) | (simp [entryFrame, mkF, argsToLocals, Value.category]; done) | rfl) ?_
  refine W0.iloadN me d_jdk_43_method_2_0 rfl ?_
  refine W0.aloadN me d_jdk_43_method_2_1 rfl rfl ?_
  show Fi p e below s Z _ _ _ _ T0 (mkF m 2 #[.val (.ref b), .val (.int (Int32.ofNat i))] [(.ref b), (.int (Int32.ofNat i))])
  refine W0.alen me AB d_jdk_43_method_2_2 ?_
  refine W0.callS me hEL (hw _ (List.mem_of_getElem? (i := 221) rfl)) (hw _ (List.mem_of_getElem? (i := 222) rfl)) (hw _ (List.mem_of_getElem? (i := 6) rfl)) (hw _ (List.mem_of_getElem? (i := 223) rfl)) (argsL := [(.int (Int32.ofNat i)), (.int (Int32.ofNat cs.length))]) (rest := []) (c_schk (ss := []) g W0.old (on_in hi (by omega))) d_jdk_43_method_2_3 (by decide) (fun _ q => nomatch q) rfl (lenOf pd_6 rfl) (own_le rfl) (own_le rfl) (own_le rfl) (own_le rfl) rfl ?_
  intro T1 h1 v1 W1 z1 q1
  obtain ⟨sf1, X1, rfl, rfl⟩ := q1
  show Fi p e below s Z _ _ _ _ T1 (mkF m 6 #[.val (.ref b), .val (.int (Int32.ofNat i))] [])
  refine W1.aloadN me d_jdk_43_method_2_6 rfl rfl ?_
  refine W1.iloadN me d_jdk_43_method_2_7 rfl ?_
  show Fi p e below s Z _ _ _ _ T1 (mkF m 8 #[.val (.ref b), .val (.int (Int32.ofNat i))] [(.int (Int32.ofNat i)), (.ref b)])
  refine W1.baload me AB d_jdk_43_method_2_8 (on_in hi (by omega)) (v := .int (cs.getD i 0).toInt8.toInt32) (by rw [on_clamp (by omega), lb_get hi]) ?_
  show Fi p e below s Z _ _ _ _ T1 (mkF m 9 #[.val (.ref b), .val (.int (Int32.ofNat i))] [(.int (cs.getD i 0).toInt8.toInt32)])
  refine W1.sipush me d_jdk_43_method_2_9 (v := 255) rfl ?_
  refine W1.iand me d_jdk_43_method_2_12 ?_
  refine W1.i2c me d_jdk_43_method_2_13 ?_
  show Fi p e below s Z _ _ _ _ T1 (mkF m 14 #[.val (.ref b), .val (.int (Int32.ofNat i))] [(.int (((cs.getD i 0).toInt8.toInt32 &&& (255 : Int32)).toUInt32.toUInt16.toUInt32.toInt32))])
  have e1 := byte_back (hC8.at hi)
  have e2 : ((cs.getD i 0).toInt8.toInt32 &&& (255 : Int32)).toUInt32.toUInt16.toUInt32.toInt32 = cs.getD i 0 := by rw [i2c_mask, e1]
  rw [e2]
  exact W1.retN hEL me (Or.inr (Or.inr (Or.inl rfl))) d_jdk_43_method_2_14 ⟨rfl, by rw [nar_char_of (up16 (hC8.at hi))]⟩ (by decide) (by decide)

set_option maxRecDepth 65536 in
set_option maxHeartbeats 4000000 in
theorem c_charat {l : Launch} {Z : State} {a0 : Array Value} {kn : Bool} (g : Gl Z a0) {ws : List Cond} {h0 : Heap} {ss : List Addr} (hO : Old Z Z.heap.size h0) {a : Addr} {cs : List Int32} {i : Nat} (L : Lat Z h0 a cs) (hi : i < cs.length) :
    Con l Z consts_1 kn ws (⟨"java/lang/String", "charAt", "(I)C"⟩ : MethodName) jdk_42_method_56_code 2 (some .char) ({ frames := 3, cells := 0, slots := 0, locals := 40 } : Room) #[(.ref a), (.int (Int32.ofNat i))] h0 ss (rV fun v h => h0 = h ∧ v = .int (cs.getD i 0)) := by
  have hw := g.1
  have hEL := g.2.1
  refine Con.of (plainFor_of_name pn_1) hO ?_
  intro p e s m below meth c T0 me W0
  refine Fi.entry (L := #[.val (.ref a), .val (.int (Int32.ofNat i))]) (by first | (simp [entryFrame, mkF, argsToLocals, Value.category, maxLocals]; done) | (simp [entryFrame, mkF, argsToLocals, Value.category]; done) | rfl) ?_
  obtain ⟨vb, kb, EX, FC, FV, AB, hl, hC8⟩ := L
  refine W0.aloadN me d_jdk_42_method_56_0 rfl rfl ?_
  show Fi p e below s Z _ _ _ _ T0 (mkF m 1 #[.val (.ref a), .val (.int (Int32.ofNat i))] [(.ref a)])
  refine W0.callV me hEL (hw _ (List.mem_of_getElem? (i := 212) rfl)) (hw _ (List.mem_of_getElem? (i := 213) rfl)) (fun hZ' => notFace_of_selects (args := #[]) (mvT (s := s.setVm _) hZ' (hw _ (List.mem_of_getElem? (i := 215) rfl)))) (hw _ (List.mem_of_getElem? (i := 215) rfl)) (hw _ (List.mem_of_getElem? (i := 214) rfl)) (hw _ (List.mem_of_getElem? (i := 6) rfl)) (hw _ (List.mem_of_getElem? (i := 216) rfl)) (a := a) (argsL := []) (rest := []) EX (c_islat (ss := []) g W0.old FC) d_jdk_42_method_56_1 (by decide) (fun _ q => nomatch q) rfl (lenOf pd_7 rfl) (own_le rfl) (own_le rfl) (own_le rfl) (own_le rfl) rfl ?_
  intro T1 h1 v1 W1 z1 q1
  obtain ⟨sf1, X1, _, rfl, rfl, rfl⟩ := q1
  show Fi p e below s Z _ _ _ _ T1 (mkF m 4 #[.val (.ref a), .val (.int (Int32.ofNat i))] [(.int (1 : Int32))])
  refine W1.ifN_eq me d_jdk_42_method_56_4 (by decide) ?_
  refine W1.aloadN me d_jdk_42_method_56_7 rfl rfl ?_
  show Fi p e below s Z _ _ _ _ T1 (mkF m 8 #[.val (.ref a), .val (.int (Int32.ofNat i))] [(.ref a)])
  refine W1.getF me (hw _ (List.mem_of_getElem? (i := 32) rfl)) FV Via.refl d_jdk_42_method_56_8 ?_
  intro T2 W2
  show Fi p e below s Z _ _ _ _ T2 (mkF m 11 #[.val (.ref a), .val (.int (Int32.ofNat i))] [(.ref vb)])
  refine W2.iloadN me d_jdk_42_method_56_11 rfl ?_
  show Fi p e below s Z _ _ _ _ T2 (mkF m 12 #[.val (.ref a), .val (.int (Int32.ofNat i))] [(.int (Int32.ofNat i)), (.ref vb)])
  refine W2.callS me hEL (hw _ (List.mem_of_getElem? (i := 217) rfl)) (hw _ (List.mem_of_getElem? (i := 218) rfl)) (hw _ (List.mem_of_getElem? (i := 219) rfl)) (hw _ (List.mem_of_getElem? (i := 220) rfl)) (argsL := [(.ref vb), (.int (Int32.ofNat i))]) (rest := []) (c_latat (ss := []) g W2.old AB hl hC8 hi) d_jdk_42_method_56_12 (by decide) (fun _ q => nomatch q) rfl (lenOf pd_8 rfl) (own_le rfl) (own_le rfl) (own_le rfl) (own_le rfl) rfl ?_
  intro T3 h3 v3 W3 z3 q3
  obtain ⟨sf3, X3, _, rfl, rfl, rfl⟩ := q3
  show Fi p e below s Z _ _ _ _ T3 (mkF m 15 #[.val (.ref a), .val (.int (Int32.ofNat i))] [(.int (cs.getD i 0))])
  exact W3.retN hEL me (Or.inr (Or.inr (Or.inl rfl))) d_jdk_42_method_56_15 ⟨rfl, by rw [nar_char_of (up16 (hC8.at hi))]⟩ (by decide) (by decide)

set_option maxRecDepth 65536 in
set_option maxHeartbeats 4000000 in
theorem c_min {l : Launch} {Z : State} {a0 : Array Value} {kn : Bool} (g : Gl Z a0) {ws : List Cond} {h0 : Heap} {ss : List Addr} (hO : Old Z Z.heap.size h0) {x y : Int32} (hx : ¬ x < y) :
    Con l Z consts_1 kn ws (⟨"java/lang/Math", "min", "(II)I"⟩ : MethodName) jdk_29_method_69_code 2 (some .int) ({ frames := 0, cells := 0, slots := 0, locals := 0 } : Room) #[(.int x), (.int y)] h0 ss (rV fun v h => h0 = h ∧ v = .int y) := by
  have hw := g.1
  have hEL := g.2.1
  refine Con.of pf_0 hO ?_
  intro p e s m below meth c T0 me W0
  refine Fi.entry (L := #[.val (.int x), .val (.int y)]) (by first | (simp [entryFrame, mkF, argsToLocals, Value.category, maxLocals]; done) | (simp [entryFrame, mkF, argsToLocals, Value.category]; done) | rfl) ?_
  refine W0.iloadN me d_jdk_29_method_69_0 rfl ?_
  refine W0.iloadN me d_jdk_29_method_69_1 rfl ?_
  show Fi p e below s Z _ _ _ _ T0 (mkF m 2 #[.val (.int x), .val (.int y)] [(.int y), (.int x)])
  refine W0.ic_gt me d_jdk_29_method_69_2 (pc' := 9) (by decide) (by decide) (fun hb1 => ?_) (fun hb1 => ?_)
  ·
    show Fi p e below s Z _ _ _ _ T0 (mkF m 9 #[.val (.int x), .val (.int y)] [])
    refine W0.iloadN me d_jdk_29_method_69_9 rfl ?_
    show Fi p e below s Z _ _ _ _ T0 (mkF m 10 #[.val (.int x), .val (.int y)] [(.int y)])
    exact W0.retI hEL me d_jdk_29_method_69_10 ⟨rfl, rfl⟩ (by decide) (by decide)
  ·
    show Fi p e below s Z _ _ _ _ T0 (mkF m 5 #[.val (.int x), .val (.int y)] [])
    refine W0.iloadN me d_jdk_29_method_69_5 rfl ?_
    refine W0.goto me d_jdk_29_method_69_6 (pc' := 10) (by decide) (by decide) ?_
    show Fi p e below s Z _ _ _ _ T0 (mkF m 10 #[.val (.int x), .val (.int y)] [(.int x)])
    have exy : x = y := Int32.le_antisymm (Int32.not_lt.mp hb1) (Int32.not_lt.mp hx)
    exact W0.retI hEL me d_jdk_29_method_69_10 ⟨rfl, by rw [exy]⟩ (by decide) (by decide)

set_option maxRecDepth 65536 in
set_option maxHeartbeats 4000000 in
theorem c_achk {l : Launch} {Z : State} {a0 : Array Value} {kn : Bool} (g : Gl Z a0) {ws : List Cond} {h0 : Heap} {ss : List Addr} (hO : Old Z Z.heap.size h0) {i j : Int32} (hi : ¬ j < i) :
    Con l Z consts_1 kn ws (⟨"java/util/Arrays", "checkLength", "(II)V"⟩ : MethodName) jdk_65_method_131_code 2 none ({ frames := 0, cells := 0, slots := 0, locals := 0 } : Room) #[(.int i), (.int j)] h0 ss (rU fun h => h0 = h) := by
  have hw := g.1
  have hEL := g.2.1
  refine Con.of (plainFor_of_name pn_5) hO ?_
  intro p e s m below meth c T0 me W0
  refine Fi.entry (L := #[.val (.int i), .val (.int j)]) (by first | (simp [entryFrame, mkF, argsToLocals, Value.category, maxLocals]; done) | (simp [entryFrame, mkF, argsToLocals, Value.category]; done) | rfl) ?_
  refine W0.iloadN me d_jdk_65_method_131_0 rfl ?_
  refine W0.iloadN me d_jdk_65_method_131_1 rfl ?_
  show Fi p e below s Z _ _ _ _ T0 (mkF m 2 #[.val (.int i), .val (.int j)] [(.int i), (.int j)])
  refine W0.icY_ge me d_jdk_65_method_131_2 hi (pc' := 37) (by decide) (by decide) ?_
  show Fi p e below s Z _ _ _ _ T0 (mkF m 37 #[.val (.int i), .val (.int j)] [])
  exact W0.retU hEL me d_jdk_65_method_131_37 rfl (by decide) (by decide)

set_option maxRecDepth 65536 in
set_option maxHeartbeats 4000000 in
theorem c_crb {l : Launch} {Z : State} {a0 : Array Value} {kn : Bool} (g : Gl Z a0) {ws : List Cond} {h0 : Heap} {ss : List Addr} (hO : Old Z Z.heap.size h0) {b : Addr} {kb : ClassId} {cs : List Int32} {N f n t : Nat} (ht : t = f + n) (AB : Arv Z h0 b kb .byte (Int32.ofNat N) (lb cs) (.int 0)) (hl : N < 2 ^ 20) (hN : cs.length ≤ N) (hn : n ≤ 40) (hf : f + n ≤ cs.length) :
    Con l Z consts_1 kn ws (⟨"java/util/Arrays", "copyOfRangeByte", "([BII)[B"⟩ : MethodName) jdk_65_method_133_code 5 (some (.array .byte)) ({ frames := 1, cells := 1, slots := 40, locals := 18 } : Room) #[(.ref b), (.int (Int32.ofNat f)), (.int (Int32.ofNat t))] h0 ss (rV fun v h => Ext h0 h ∧ ∃ d kd, v = .ref d ∧ h0.size ≤ d ∧ Arv Z h d kd .byte (Int32.ofNat n) (lb (sub cs f n)) (.int 0)) := by
  have hw := g.1
  have hEL := g.2.1
  refine Con.of (plainFor_of_name pn_5) hO ?_
  intro p e s m below meth c T0 me W0
  refine Fi.entry (L := #[.val (.ref b), .val (.int (Int32.ofNat f)), .val (.int (Int32.ofNat t)), .unset, .unset]) (by first | (simp [entryFrame, mkF, argsToLocals, Value.category, maxLocals]; done) | (simp [entryFrame, mkF, argsToLocals, Value.category]; done) | rfl) ?_
  have hblt := own_lt AB.lt
  refine W0.iloadN me d_jdk_65_method_133_0 rfl ?_
  refine W0.iloadN me d_jdk_65_method_133_1 rfl ?_
  show Fi p e below s Z _ _ _ _ T0 (mkF m 2 #[.val (.ref b), .val (.int (Int32.ofNat f)), .val (.int (Int32.ofNat t)), .unset, .unset] [(.int (Int32.ofNat t)), (.int (Int32.ofNat f))])
  refine W0.callS me hEL (hw _ (List.mem_of_getElem? (i := 196) rfl)) (hw _ (List.mem_of_getElem? (i := 197) rfl)) (hw _ (List.mem_of_getElem? (i := 153) rfl)) (hw _ (List.mem_of_getElem? (i := 198) rfl)) (argsL := [(.int (Int32.ofNat f)), (.int (Int32.ofNat t))]) (rest := []) (c_achk (ss := []) g W0.old (on_nlt (by omega) (by omega))) d_jdk_65_method_133_2 (by decide) (fun _ q => nomatch q) rfl (lenOf pd_6 rfl) (own_le rfl) (own_le rfl) (own_le rfl) (own_le rfl) rfl ?_
  intro T1 h1 v1 W1 z1 q1
  obtain ⟨sf1, X1, rfl, rfl⟩ := q1
  show Fi p e below s Z _ _ _ _ T1 (mkF m 5 #[.val (.ref b), .val (.int (Int32.ofNat f)), .val (.int (Int32.ofNat t)), .unset, .unset] [])
  refine W1.iloadN me d_jdk_65_method_133_5 rfl ?_
  refine W1.iloadN me d_jdk_65_method_133_6 rfl ?_
  refine W1.isub me d_jdk_65_method_133_7 ?_
  show Fi p e below s Z _ _ _ _ T1 (mkF m 8 #[.val (.ref b), .val (.int (Int32.ofNat f)), .val (.int (Int32.ofNat t)), .unset, .unset] [(.int ((Int32.ofNat t) - (Int32.ofNat f)))])
  have e1 : Int32.ofNat t - Int32.ofNat f = Int32.ofNat n := by rw [on_sub (by omega)]; congr 1; omega
  rw [e1]
  refine W1.istoreN me d_jdk_65_method_133_8 (l' := #[.val (.ref b), .val (.int (Int32.ofNat f)), .val (.int (Int32.ofNat t)), .val (.int (Int32.ofNat n)), .unset]) rfl ?_
  refine W1.iloadN me d_jdk_65_method_133_9 rfl ?_
  show Fi p e below s Z _ _ _ _ T1 (mkF m 10 #[.val (.ref b), .val (.int (Int32.ofNat f)), .val (.int (Int32.ofNat t)), .val (.int (Int32.ofNat n)), .unset] [(.int (Int32.ofNat n))])
  refine W1.newA me (hw _ (List.mem_of_getElem? (i := 23) rfl)) d_jdk_65_method_133_10 (on_nneg (by omega)) (cap := 40) (by rw [on_clamp (by omega)]; omega) (own_le rfl) (own_le rfl) (own_le rfl) ?_
  intro T2 h2 a2 k2 g2 W2 E2 A2
  show Fi p e below s Z _ _ _ _ T2 (mkF m 12 #[.val (.ref b), .val (.int (Int32.ofNat f)), .val (.int (Int32.ofNat t)), .val (.int (Int32.ofNat n)), .unset] [(.ref a2)])
  refine W2.astore me d_jdk_65_method_133_12 (l' := #[.val (.ref b), .val (.int (Int32.ofNat f)), .val (.int (Int32.ofNat t)), .val (.int (Int32.ofNat n)), .val (.ref a2)]) rfl rfl ?_
  refine W2.aloadN me d_jdk_65_method_133_14 rfl rfl ?_
  refine W2.iloadN me d_jdk_65_method_133_15 rfl ?_
  refine W2.aload me d_jdk_65_method_133_16 rfl rfl ?_
  refine W2.iconst me d_jdk_65_method_133_18 (v := 0) rfl ?_
  refine W2.aloadN me d_jdk_65_method_133_19 rfl rfl ?_
  show Fi p e below s Z _ _ _ _ T2 (mkF m 20 #[.val (.ref b), .val (.int (Int32.ofNat f)), .val (.int (Int32.ofNat t)), .val (.int (Int32.ofNat n)), .val (.ref a2)] [(.ref b), (.int (0 : Int32)), (.ref a2), (.int (Int32.ofNat f)), (.ref b)])
  refine W2.alen me (AB.ext E2) d_jdk_65_method_133_20 ?_
  refine W2.iloadN me d_jdk_65_method_133_21 rfl ?_
  refine W2.isub me d_jdk_65_method_133_22 ?_
  show Fi p e below s Z _ _ _ _ T2 (mkF m 23 #[.val (.ref b), .val (.int (Int32.ofNat f)), .val (.int (Int32.ofNat t)), .val (.int (Int32.ofNat n)), .val (.ref a2)] [(.int ((Int32.ofNat N) - (Int32.ofNat f))), (.int (0 : Int32)), (.ref a2), (.int (Int32.ofNat f)), (.ref b)])
  have e2 : Int32.ofNat N - Int32.ofNat f = Int32.ofNat (N - f) := on_sub (by omega)
  rw [e2]
  refine W2.iloadN me d_jdk_65_method_133_23 rfl ?_
  show Fi p e below s Z _ _ _ _ T2 (mkF m 24 #[.val (.ref b), .val (.int (Int32.ofNat f)), .val (.int (Int32.ofNat t)), .val (.int (Int32.ofNat n)), .val (.ref a2)] [(.int (Int32.ofNat n)), (.int (Int32.ofNat (N - f))), (.int (0 : Int32)), (.ref a2), (.int (Int32.ofNat f)), (.ref b)])
  refine W2.callS me hEL (hw _ (List.mem_of_getElem? (i := 155) rfl)) (hw _ (List.mem_of_getElem? (i := 156) rfl)) (hw _ (List.mem_of_getElem? (i := 147) rfl)) (hw _ (List.mem_of_getElem? (i := 157) rfl)) (argsL := [(.int (Int32.ofNat (N - f))), (.int (Int32.ofNat n))]) (rest := [(.int (0 : Int32)), (.ref a2), (.int (Int32.ofNat f)), (.ref b)]) (c_min (ss := []) g W2.old (on_nlt (by omega) (by omega))) d_jdk_65_method_133_24 (by decide) (fun _ q => nomatch q) rfl (lenOf pd_9 rfl) (own_le rfl) (own_le rfl) (own_le rfl) (own_le rfl) rfl ?_
  intro T3 h3 v3 W3 z3 q3
  obtain ⟨sf3, X3, _, rfl, rfl, rfl⟩ := q3
  show Fi p e below s Z _ _ _ _ T3 (mkF m 27 #[.val (.ref b), .val (.int (Int32.ofNat f)), .val (.int (Int32.ofNat t)), .val (.int (Int32.ofNat n)), .val (.ref a2)] [(.int (Int32.ofNat n)), (.int (0 : Int32)), (.ref a2), (.int (Int32.ofNat f)), (.ref b)])
  have hz2 : Z.heap.size ≤ a2 := by have := hO.2.1; omega
  refine W3.acopy me (hw _ (List.mem_of_getElem? (i := 158) rfl)) (hw _ (List.mem_of_getElem? (i := 134) rfl)) (hw _ (List.mem_of_getElem? (i := 132) rfl)) (hw _ (List.mem_of_getElem? (i := 133) rfl)) (AB.ext E2) (own_fill A2 n) rfl (Or.inl (List.mem_cons_self ..)) hz2 (on_nneg (by omega)) (by decide) (on_nneg (by omega)) (by rw [on_clamp (by omega), on_clamp (by omega), on_clamp (by omega)]; omega) (by rw [on_clamp (by omega)]; show 0 + n ≤ n; omega) (us := lb (sub cs f n)) (by rw [on_clamp (by omega), on_clamp (by omega)]; exact (own_us (by omega)).symm) (by rw [on_clamp (by omega), List.length_replicate]; show 0 + n ≤ n; omega) d_jdk_65_method_133_27 rfl (own_le rfl) (own_le rfl) ?_
  intro T4 h4 W4 K4 A4
  show Fi p e below s Z _ _ _ _ T4 (mkF m 30 #[.val (.ref b), .val (.int (Int32.ofNat f)), .val (.int (Int32.ofNat t)), .val (.int (Int32.ofNat n)), .val (.ref a2)] [])
  refine W4.aload me d_jdk_65_method_133_30 rfl rfl ?_
  show Fi p e below s Z _ _ _ _ T4 (mkF m 32 #[.val (.ref b), .val (.int (Int32.ofNat f)), .val (.int (Int32.ofNat t)), .val (.int (Int32.ofNat n)), .val (.ref a2)] [(.ref a2)])
  have eA : List.take (0 : Int32).toNatClampNeg (List.replicate n (Value.int 0)) ++ lb (sub cs f n) ++ List.drop ((0 : Int32).toNatClampNeg + (Int32.ofNat n).toNatClampNeg) (List.replicate n (Value.int 0)) = lb (sub cs f n) := by
    rw [on_clamp (by omega)]
    show List.take 0 _ ++ _ ++ List.drop (0 + n) _ = _
    simp
  have A4' : Arv Z h4 a2 k2 .byte (Int32.ofNat n) (lb (sub cs f n)) (.int 0) := eA ▸ A4
  exact W4.retA hEL me d_jdk_65_method_133_32 ⟨own_xk E2 K4 (allS (by omega) all0), a2, k2, rfl, by omega, A4'⟩ (by decide) (by decide) rfl rfl rfl

set_option maxRecDepth 65536 in
set_option maxHeartbeats 4000000 in
theorem c_cr {l : Launch} {Z : State} {a0 : Array Value} {kn : Bool} (g : Gl Z a0) {ws : List Cond} {h0 : Heap} {ss : List Addr} (hO : Old Z Z.heap.size h0) {b : Addr} {kb : ClassId} {cs : List Int32} {N f n t : Nat} (ht : t = f + n) (AB : Arv Z h0 b kb .byte (Int32.ofNat N) (lb cs) (.int 0)) (hl : N < 2 ^ 20) (hN : cs.length ≤ N) (hn : n ≤ 40) (hf : f + n ≤ cs.length) (hne : f ≠ 0 ∨ t ≠ N) :
    Con l Z consts_1 kn ws (⟨"java/util/Arrays", "copyOfRange", "([BII)[B"⟩ : MethodName) jdk_65_method_132_code 3 (some (.array .byte)) ({ frames := 2, cells := 1, slots := 40, locals := 34 } : Room) #[(.ref b), (.int (Int32.ofNat f)), (.int (Int32.ofNat t))] h0 ss (rV fun v h => Ext h0 h ∧ ∃ d kd, v = .ref d ∧ h0.size ≤ d ∧ Arv Z h d kd .byte (Int32.ofNat n) (lb (sub cs f n)) (.int 0)) := by
  have hw := g.1
  have hEL := g.2.1
  refine Con.of (plainFor_of_name pn_5) hO ?_
  intro p e s m below meth c T0 me W0
  refine Fi.entry (L := #[.val (.ref b), .val (.int (Int32.ofNat f)), .val (.int (Int32.ofNat t))]) (by first | (simp [entryFrame, mkF, argsToLocals, Value.category, maxLocals]; done) | (simp [entryFrame, mkF, argsToLocals, Value.category]; done) | rfl) ?_
  refine W0.iloadN me d_jdk_65_method_132_0 rfl ?_
  show Fi p e below s Z _ _ _ _ T0 (mkF m 1 #[.val (.ref b), .val (.int (Int32.ofNat f)), .val (.int (Int32.ofNat t))] [(.int (Int32.ofNat f))])
  refine W0.if_ne me d_jdk_65_method_132_1 (pc' := 10) (by decide) (by decide) (fun hb1 => ?_) (fun hb1 => ?_)
  ·
    show Fi p e below s Z _ _ _ _ T0 (mkF m 10 #[.val (.ref b), .val (.int (Int32.ofNat f)), .val (.int (Int32.ofNat t))] [])
    refine W0.aloadN me d_jdk_65_method_132_10 rfl rfl ?_
    refine W0.iloadN me d_jdk_65_method_132_11 rfl ?_
    refine W0.iloadN me d_jdk_65_method_132_12 rfl ?_
    show Fi p e below s Z _ _ _ _ T0 (mkF m 13 #[.val (.ref b), .val (.int (Int32.ofNat f)), .val (.int (Int32.ofNat t))] [(.int (Int32.ofNat t)), (.int (Int32.ofNat f)), (.ref b)])
    refine W0.callS me hEL (hw _ (List.mem_of_getElem? (i := 193) rfl)) (hw _ (List.mem_of_getElem? (i := 194) rfl)) (hw _ (List.mem_of_getElem? (i := 153) rfl)) (hw _ (List.mem_of_getElem? (i := 195) rfl)) (argsL := [(.ref b), (.int (Int32.ofNat f)), (.int (Int32.ofNat t))]) (rest := []) (c_crb (ss := []) g W0.old ht AB hl hN hn hf) d_jdk_65_method_132_13 (by decide) (fun _ q => nomatch q) rfl (lenOf pd_10 rfl) (own_le rfl) (own_le rfl) (own_le rfl) (own_le rfl) rfl ?_
    intro T1 h1 v1 W1 z1 q1
    obtain ⟨sf1, X1, _, rfl, E1, d1, k1, rfl, y1, A1⟩ := q1
    show Fi p e below s Z _ _ _ _ T1 (mkF m 16 #[.val (.ref b), .val (.int (Int32.ofNat f)), .val (.int (Int32.ofNat t))] [(.ref d1)])
    exact W1.retA hEL me d_jdk_65_method_132_16 ⟨E1, d1, k1, rfl, y1, A1⟩ (by decide) (by decide) rfl rfl rfl
  ·
    show Fi p e below s Z _ _ _ _ T0 (mkF m 4 #[.val (.ref b), .val (.int (Int32.ofNat f)), .val (.int (Int32.ofNat t))] [])
    refine W0.iloadN me d_jdk_65_method_132_4 rfl ?_
    refine W0.aloadN me d_jdk_65_method_132_5 rfl rfl ?_
    show Fi p e below s Z _ _ _ _ T0 (mkF m 6 #[.val (.ref b), .val (.int (Int32.ofNat f)), .val (.int (Int32.ofNat t))] [(.ref b), (.int (Int32.ofNat t))])
    refine W0.alen me AB d_jdk_65_method_132_6 ?_
    show Fi p e below s Z _ _ _ _ T0 (mkF m 7 #[.val (.ref b), .val (.int (Int32.ofNat f)), .val (.int (Int32.ofNat t))] [(.int (Int32.ofNat N)), (.int (Int32.ofNat t))])
    refine W0.icN_eq me d_jdk_65_method_132_7 (fun q => hne.elim (fun z => z ((on_inj (by omega) (n := 0) (by omega)).mp hb1)) (fun z => z ((on_inj (by omega) (by omega)).mp q))) ?_
    refine W0.aloadN me d_jdk_65_method_132_10 rfl rfl ?_
    refine W0.iloadN me d_jdk_65_method_132_11 rfl ?_
    refine W0.iloadN me d_jdk_65_method_132_12 rfl ?_
    show Fi p e below s Z _ _ _ _ T0 (mkF m 13 #[.val (.ref b), .val (.int (Int32.ofNat f)), .val (.int (Int32.ofNat t))] [(.int (Int32.ofNat t)), (.int (Int32.ofNat f)), (.ref b)])
    refine W0.callS me hEL (hw _ (List.mem_of_getElem? (i := 193) rfl)) (hw _ (List.mem_of_getElem? (i := 194) rfl)) (hw _ (List.mem_of_getElem? (i := 153) rfl)) (hw _ (List.mem_of_getElem? (i := 195) rfl)) (argsL := [(.ref b), (.int (Int32.ofNat f)), (.int (Int32.ofNat t))]) (rest := []) (c_crb (ss := []) g W0.old ht AB hl hN hn hf) d_jdk_65_method_132_13 (by decide) (fun _ q => nomatch q) rfl (lenOf pd_10 rfl) (own_le rfl) (own_le rfl) (own_le rfl) (own_le rfl) rfl ?_
    intro T2 h2 v2 W2 z2 q2
    obtain ⟨sf2, X2, _, rfl, E2, d2, k2, rfl, y2, A2⟩ := q2
    show Fi p e below s Z _ _ _ _ T2 (mkF m 16 #[.val (.ref b), .val (.int (Int32.ofNat f)), .val (.int (Int32.ofNat t))] [(.ref d2)])
    exact W2.retA hEL me d_jdk_65_method_132_16 ⟨E2, d2, k2, rfl, y2, A2⟩ (by decide) (by decide) rfl rfl rfl

set_option maxRecDepth 65536 in
set_option maxHeartbeats 4000000 in
theorem c_asbinit {l : Launch} {Z : State} {a0 : Array Value} {kn : Bool} (g : Gl Z a0) {ws : List Cond} {h0 : Heap} {ss : List Addr} (hO : Old Z Z.heap.size h0) {x : Addr} {vv vc : Value} (EX : Exa Z h0 x "java/lang/StringBuilder") (FV : Fld Z h0 x "java/lang/AbstractStringBuilder" "value" "[B" vv) (FC : Fld Z h0 x "java/lang/AbstractStringBuilder" "coder" "B" vc) (FN : Fld Z h0 x "java/lang/AbstractStringBuilder" "count" "I" (.int 0)) (hz : Z.heap.size ≤ x) :
    Con l Z consts_1 kn ws (⟨"java/lang/AbstractStringBuilder", "<init>", "(I)V"⟩ : MethodName) jdk_68_method_2_code 2 none ({ frames := 1, cells := 1, slots := 16, locals := 12 } : Room) #[(.ref x), (.int (16 : Int32))] h0 ss (rUs fun h sf => Keep h0 h [x] ∧ ∃ d, h0.size ≤ d ∧ sf d ∧ Sbd Z h x d [] 16) := by
  have hw := g.1
  have hEL := g.2.1
  refine Con.of (plainFor_of_name pn_6) hO ?_
  intro p e s m below meth c T0 me W0
  refine Fi.entry (L := #[.val (.ref x), .val (.int (16 : Int32))]) (by first | (simp [entryFrame, mkF, argsToLocals, Value.category, maxLocals]; done) | (simp [entryFrame, mkF, argsToLocals, Value.category]; done) | rfl) ?_
  have n_value_coder : Jvm.RoadKit.slotOf Z "java/lang/AbstractStringBuilder" "value" "[B" ≠ Jvm.RoadKit.slotOf Z "java/lang/AbstractStringBuilder" "coder" "B" := slot_ne (Or.inl (hw _ (List.mem_of_getElem? (i := 84) rfl)) : Laid Z a0 "java/lang/StringBuilder" "java/lang/AbstractStringBuilder" "value" "[B") (Or.inl (hw _ (List.mem_of_getElem? (i := 86) rfl)) : Laid Z a0 "java/lang/StringBuilder" "java/lang/AbstractStringBuilder" "coder" "B") (by decide) (t := .array .byte) (t' := .byte) (by decide) (by decide)
  have n_value_count : Jvm.RoadKit.slotOf Z "java/lang/AbstractStringBuilder" "value" "[B" ≠ Jvm.RoadKit.slotOf Z "java/lang/AbstractStringBuilder" "count" "I" := slot_ne (Or.inl (hw _ (List.mem_of_getElem? (i := 84) rfl)) : Laid Z a0 "java/lang/StringBuilder" "java/lang/AbstractStringBuilder" "value" "[B") (Or.inl (hw _ (List.mem_of_getElem? (i := 109) rfl)) : Laid Z a0 "java/lang/StringBuilder" "java/lang/AbstractStringBuilder" "count" "I") (by decide) (t := .array .byte) (t' := .int) (by decide) (by decide)
  have n_coder_count : Jvm.RoadKit.slotOf Z "java/lang/AbstractStringBuilder" "coder" "B" ≠ Jvm.RoadKit.slotOf Z "java/lang/AbstractStringBuilder" "count" "I" := slot_ne (Or.inl (hw _ (List.mem_of_getElem? (i := 86) rfl)) : Laid Z a0 "java/lang/StringBuilder" "java/lang/AbstractStringBuilder" "coder" "B") (Or.inl (hw _ (List.mem_of_getElem? (i := 109) rfl)) : Laid Z a0 "java/lang/StringBuilder" "java/lang/AbstractStringBuilder" "count" "I") (by decide) (t := .byte) (t' := .int) (by decide) (by decide)
  have hxlt := own_lt EX.lt
  refine W0.aloadN me d_jdk_68_method_2_0 rfl rfl ?_
  show Fi p e below s Z _ _ _ _ T0 (mkF m 1 #[.val (.ref x), .val (.int (16 : Int32))] [(.ref x)])
  refine W0.initO me (hw _ (List.mem_of_getElem? (i := 81) rfl)) (hw _ (List.mem_of_getElem? (i := 16) rfl)) (hw _ (List.mem_of_getElem? (i := 17) rfl)) d_jdk_68_method_2_1 rfl (own_le rfl) (own_le rfl) ?_
  intro T1 W1
  show Fi p e below s Z _ _ _ _ T1 (mkF m 4 #[.val (.ref x), .val (.int (16 : Int32))] [])
  obtain ⟨G, O2, P2⟩ := g.2.2.1
  refine W1.getS me (hw _ (List.mem_of_getElem? (i := 82) rfl)) O2 Via.refl d_jdk_68_method_2_4 ?_
  intro T2 W2
  show Fi p e below s Z _ _ _ _ T2 (mkF m 7 #[.val (.ref x), .val (.int (16 : Int32))] [(.int G)])
  refine W2.ifN_eq me d_jdk_68_method_2_7 P2 ?_
  refine W2.aloadN me d_jdk_68_method_2_10 rfl rfl ?_
  refine W2.iloadN me d_jdk_68_method_2_11 rfl ?_
  show Fi p e below s Z _ _ _ _ T2 (mkF m 12 #[.val (.ref x), .val (.int (16 : Int32))] [(.int (16 : Int32)), (.ref x)])
  refine W2.newAE me (hw _ (List.mem_of_getElem? (i := 23) rfl)) d_jdk_68_method_2_12 (by decide) (cap := 16) (by decide) (by decide) (own_le rfl) (own_le rfl) (ad := "[B") (by decide) ?_
  intro T3 h3 a3 k3 g3 W3 E3 A3 EB3
  show Fi p e below s Z _ _ _ _ T3 (mkF m 14 #[.val (.ref x), .val (.int (16 : Int32))] [(.ref a3), (.ref x)])
  refine W3.putF me (hw _ (List.mem_of_getElem? (i := 83) rfl)) (FV.ext E3) Via.refl (EX.ext E3) (Or.inl (hw _ (List.mem_of_getElem? (i := 84) rfl))) (hw _ (List.mem_of_getElem? (i := 70) rfl)) (ty := (.array .byte)) (by decide) rfl rfl (Or.inr (Or.inl ⟨"java/lang/StringBuilder", EX.ext E3, by decide, by decide⟩)) hz d_jdk_68_method_2_14 ?_
  intro T4 h4 W4 R4
  show Fi p e below s Z _ _ _ _ T4 (mkF m 17 #[.val (.ref x), .val (.int (16 : Int32))] [])
  refine W4.aloadN me d_jdk_68_method_2_17 rfl rfl ?_
  refine W4.iconst me d_jdk_68_method_2_18 (v := 0) rfl ?_
  show Fi p e below s Z _ _ _ _ T4 (mkF m 19 #[.val (.ref x), .val (.int (16 : Int32))] [(.int (0 : Int32)), (.ref x)])
  refine W4.putF me (hw _ (List.mem_of_getElem? (i := 85) rfl)) ((FC.ext E3).other R4 (Or.inr n_value_coder.symm)) Via.refl ((EX.ext E3).wr R4) (Or.inl (hw _ (List.mem_of_getElem? (i := 86) rfl))) (hw _ (List.mem_of_getElem? (i := 70) rfl)) (ty := .byte) (by decide) rfl rfl (Or.inr (Or.inl ⟨"java/lang/StringBuilder", (EX.ext E3).wr R4, by decide, by decide⟩)) hz d_jdk_68_method_2_19 ?_
  intro T5 h5 W5 R5
  show Fi p e below s Z _ _ _ _ T5 (mkF m 22 #[.val (.ref x), .val (.int (16 : Int32))] [])
  refine W5.goto me d_jdk_68_method_2_22 (pc' := 38) (by decide) (by decide) ?_
  show Fi p e below s Z _ _ _ _ T5 (mkF m 38 #[.val (.ref x), .val (.int (16 : Int32))] [])
  have hne : a3 ≠ x := own_en (by omega)
  have K : Keep h0 h5 [x] := ((own_xK E3 [x]).wr R4 (Or.inl (List.mem_singleton.mpr rfl))).wr R5 (Or.inl (List.mem_singleton.mpr rfl))
  have S : Sbd Z h5 x a3 [] 16 := ⟨k3, ((EX.ext E3).wr R4).wr R5, ((FV.ext E3).same R4).other R5 (Or.inr n_value_coder), ((FC.ext E3).other R4 (Or.inr n_value_coder.symm)).same R5, ((FN.ext E3).other R4 (Or.inr n_value_count.symm)).other R5 (Or.inr n_coder_count.symm), (A3.other R4 hne).other R5 hne, (EB3.wr R4).wr R5, by decide, by decide, C8.nil⟩
  exact W5.retUs hEL me d_jdk_68_method_2_38 (fun sf q => ⟨K, a3, by omega, q _ (List.mem_cons_self ..), S⟩) (by decide) (by decide)

set_option maxRecDepth 65536 in
set_option maxHeartbeats 4000000 in
theorem c_sbinit {l : Launch} {Z : State} {a0 : Array Value} {kn : Bool} (g : Gl Z a0) {ws : List Cond} {h0 : Heap} {ss : List Addr} (hO : Old Z Z.heap.size h0) {x : Addr} {vv vc : Value} (EX : Exa Z h0 x "java/lang/StringBuilder") (FV : Fld Z h0 x "java/lang/AbstractStringBuilder" "value" "[B" vv) (FC : Fld Z h0 x "java/lang/AbstractStringBuilder" "coder" "B" vc) (FN : Fld Z h0 x "java/lang/AbstractStringBuilder" "count" "I" (.int 0)) (hz : Z.heap.size ≤ x) :
    Con l Z consts_1 kn ws (⟨"java/lang/StringBuilder", "<init>", "()V"⟩ : MethodName) jdk_67_method_1_code 1 none ({ frames := 2, cells := 1, slots := 16, locals := 25 } : Room) #[(.ref x)] h0 ss (rUs fun h sf => Keep h0 h [x] ∧ ∃ d, h0.size ≤ d ∧ sf d ∧ Sbd Z h x d [] 16) := by
  have hw := g.1
  have hEL := g.2.1
  refine Con.of (plainFor_of_name pn_7) hO ?_
  intro p e s m below meth c T0 me W0
  refine Fi.entry (L := #[.val (.ref x)]) (by first | (simp [entryFrame, mkF, argsToLocals, Value.category, maxLocals]; done) | (simp [entryFrame, mkF, argsToLocals, Value.category]; done) | rfl) ?_
  refine W0.aloadN me d_jdk_67_method_1_0 rfl rfl ?_
  refine W0.bipush me d_jdk_67_method_1_1 (v := 16) rfl ?_
  show Fi p e below s Z _ _ _ _ T0 (mkF m 3 #[.val (.ref x)] [(.int (16 : Int32)), (.ref x)])
  refine W0.callI me hEL (hw _ (List.mem_of_getElem? (i := 75) rfl)) (hw _ (List.mem_of_getElem? (i := 76) rfl)) (hw _ (List.mem_of_getElem? (i := 79) rfl)) (hw _ (List.mem_of_getElem? (i := 80) rfl)) rfl (a := x) (argsL := [(.int (16 : Int32))]) (rest := []) (c_asbinit (ss := []) g W0.old EX FV FC FN hz) d_jdk_67_method_1_3 (by decide) (fun _ q => nomatch q) rfl (lenOf pd_11 rfl) (own_le rfl) (own_le rfl) (own_le rfl) (own_le rfl) rfl ?_
  intro T1 h1 v1 W1 z1 q1
  obtain ⟨sf1, X1, rfl, K1, d1, y1, s1, M1⟩ := q1
  show Fi p e below s Z _ _ _ _ T1 (mkF m 6 #[.val (.ref x)] [])
  exact (X1 [d1] (allS s1 all0)).retUs hEL me d_jdk_67_method_1_6 (fun sf q => ⟨K1, d1, y1, q _ (List.mem_cons_self ..), M1⟩) (by decide) (by decide)

set_option maxRecDepth 65536 in
set_option maxHeartbeats 4000000 in
theorem c_maxr {l : Launch} {Z : State} {a0 : Array Value} {kn : Bool} (g : Gl Z a0) {ws : List Cond} {h0 : Heap} {ss : List Addr} (hO : Old Z Z.heap.size h0) {x y : Int32} (hx : ¬ y < x) :
    Con l Z consts_1 kn ws (⟨"java/lang/Math", "max", "(II)I"⟩ : MethodName) jdk_29_method_65_code 2 (some .int) ({ frames := 0, cells := 0, slots := 0, locals := 0 } : Room) #[(.int x), (.int y)] h0 ss (rV fun v h => h0 = h ∧ v = .int y) := by
  have hw := g.1
  have hEL := g.2.1
  refine Con.of pf_1 hO ?_
  intro p e s m below meth c T0 me W0
  refine Fi.entry (L := #[.val (.int x), .val (.int y)]) (by first | (simp [entryFrame, mkF, argsToLocals, Value.category, maxLocals]; done) | (simp [entryFrame, mkF, argsToLocals, Value.category]; done) | rfl) ?_
  refine W0.iloadN me d_jdk_29_method_65_0 rfl ?_
  refine W0.iloadN me d_jdk_29_method_65_1 rfl ?_
  show Fi p e below s Z _ _ _ _ T0 (mkF m 2 #[.val (.int x), .val (.int y)] [(.int y), (.int x)])
  refine W0.ic_lt me d_jdk_29_method_65_2 (pc' := 9) (by decide) (by decide) (fun hb1 => ?_) (fun hb1 => ?_)
  ·
    show Fi p e below s Z _ _ _ _ T0 (mkF m 9 #[.val (.int x), .val (.int y)] [])
    refine W0.iloadN me d_jdk_29_method_65_9 rfl ?_
    show Fi p e below s Z _ _ _ _ T0 (mkF m 10 #[.val (.int x), .val (.int y)] [(.int y)])
    exact W0.retI hEL me d_jdk_29_method_65_10 ⟨rfl, rfl⟩ (by decide) (by decide)
  ·
    show Fi p e below s Z _ _ _ _ T0 (mkF m 5 #[.val (.int x), .val (.int y)] [])
    refine W0.iloadN me d_jdk_29_method_65_5 rfl ?_
    refine W0.goto me d_jdk_29_method_65_6 (pc' := 10) (by decide) (by decide) ?_
    show Fi p e below s Z _ _ _ _ T0 (mkF m 10 #[.val (.int x), .val (.int y)] [(.int x)])
    have exy : x = y := Int32.le_antisymm (Int32.not_lt.mp hx) (Int32.not_lt.mp hb1)
    exact W0.retI hEL me d_jdk_29_method_65_10 ⟨rfl, by rw [exy]⟩ (by decide) (by decide)

set_option maxRecDepth 65536 in
set_option maxHeartbeats 4000000 in
theorem c_newlen {l : Launch} {Z : State} {a0 : Array Value} {kn : Bool} (g : Gl Z a0) {ws : List Cond} {h0 : Heap} {ss : List Addr} (hO : Old Z Z.heap.size h0) {o q f : Nat} (hq : q ≤ f) (hf : 0 < o + f) (ho : o + f < 2 ^ 21) :
    Con l Z consts_1 kn ws (⟨"jdk/internal/util/ArraysSupport", "newLength", "(III)I"⟩ : MethodName) jdk_48_method_27_code 4 (some .int) ({ frames := 1, cells := 0, slots := 0, locals := 14 } : Room) #[(.int (Int32.ofNat o)), (.int (Int32.ofNat q)), (.int (Int32.ofNat f))] h0 ss (rV fun v h => h0 = h ∧ v = .int (Int32.ofNat (o + f))) := by
  have hw := g.1
  have hEL := g.2.1
  refine Con.of (plainFor_of_name pn_8) hO ?_
  intro p e s m below meth c T0 me W0
  refine Fi.entry (L := #[.val (.int (Int32.ofNat o)), .val (.int (Int32.ofNat q)), .val (.int (Int32.ofNat f)), .unset]) (by first | (simp [entryFrame, mkF, argsToLocals, Value.category, maxLocals]; done) | (simp [entryFrame, mkF, argsToLocals, Value.category]; done) | rfl) ?_
  refine W0.iloadN me d_jdk_48_method_27_0 rfl ?_
  refine W0.iloadN me d_jdk_48_method_27_1 rfl ?_
  refine W0.iloadN me d_jdk_48_method_27_2 rfl ?_
  show Fi p e below s Z _ _ _ _ T0 (mkF m 3 #[.val (.int (Int32.ofNat o)), .val (.int (Int32.ofNat q)), .val (.int (Int32.ofNat f)), .unset] [(.int (Int32.ofNat f)), (.int (Int32.ofNat q)), (.int (Int32.ofNat o))])
  refine W0.callS me hEL (hw _ (List.mem_of_getElem? (i := 145) rfl)) (hw _ (List.mem_of_getElem? (i := 146) rfl)) (hw _ (List.mem_of_getElem? (i := 147) rfl)) (hw _ (List.mem_of_getElem? (i := 148) rfl)) (argsL := [(.int (Int32.ofNat q)), (.int (Int32.ofNat f))]) (rest := [(.int (Int32.ofNat o))]) (c_maxr (ss := []) g W0.old (on_nlt hq (by omega))) d_jdk_48_method_27_3 (by decide) (fun _ q => nomatch q) rfl (lenOf pd_9 rfl) (own_le rfl) (own_le rfl) (own_le rfl) (own_le rfl) rfl ?_
  intro T1 h1 v1 W1 z1 q1
  obtain ⟨sf1, X1, _, rfl, rfl, rfl⟩ := q1
  show Fi p e below s Z _ _ _ _ T1 (mkF m 6 #[.val (.int (Int32.ofNat o)), .val (.int (Int32.ofNat q)), .val (.int (Int32.ofNat f)), .unset] [(.int (Int32.ofNat f)), (.int (Int32.ofNat o))])
  show Fi p e below s Z _ _ _ _ T1 (mkF m 6 #[.val (.int (Int32.ofNat o)), .val (.int (Int32.ofNat q)), .val (.int (Int32.ofNat f)), .unset] [(.int (Int32.ofNat f)), (.int (Int32.ofNat o))])
  refine W1.iadd me d_jdk_48_method_27_6 ?_
  rw [on_add]
  refine W1.istoreN me d_jdk_48_method_27_7 (l' := #[.val (.int (Int32.ofNat o)), .val (.int (Int32.ofNat q)), .val (.int (Int32.ofNat f)), .val (.int (Int32.ofNat (o + f)))]) rfl ?_
  refine W1.iconst me d_jdk_48_method_27_8 (v := 0) rfl ?_
  refine W1.iloadN me d_jdk_48_method_27_9 rfl ?_
  show Fi p e below s Z _ _ _ _ T1 (mkF m 10 #[.val (.int (Int32.ofNat o)), .val (.int (Int32.ofNat q)), .val (.int (Int32.ofNat f)), .val (.int (Int32.ofNat (o + f)))] [(.int (Int32.ofNat (o + f))), (.int (0 : Int32))])
  refine W1.icN_ge me d_jdk_48_method_27_10 (on_lt (i := 0) (by omega) (by omega)) ?_
  refine W1.iloadN me d_jdk_48_method_27_13 rfl ?_
  refine W1.ldcI me (hw _ (List.mem_of_getElem? (i := 149) rfl)) d_jdk_48_method_27_14 ?_
  show Fi p e below s Z _ _ _ _ T1 (mkF m 16 #[.val (.int (Int32.ofNat o)), .val (.int (Int32.ofNat q)), .val (.int (Int32.ofNat f)), .val (.int (Int32.ofNat (o + f)))] [(.int (2147483639 : Int32)), (.int (Int32.ofNat (o + f)))])
  refine W1.icN_gt me d_jdk_48_method_27_16 (fun q => absurd q (own_cap (by omega))) ?_
  refine W1.iloadN me d_jdk_48_method_27_19 rfl ?_
  show Fi p e below s Z _ _ _ _ T1 (mkF m 20 #[.val (.int (Int32.ofNat o)), .val (.int (Int32.ofNat q)), .val (.int (Int32.ofNat f)), .val (.int (Int32.ofNat (o + f)))] [(.int (Int32.ofNat (o + f)))])
  exact W1.retI hEL me d_jdk_48_method_27_20 ⟨rfl, rfl⟩ (by decide) (by decide)

set_option maxRecDepth 65536 in
set_option maxHeartbeats 4000000 in
theorem c_newcap {l : Launch} {Z : State} {a0 : Array Value} {kn : Bool} (g : Gl Z a0) {ws : List Cond} {h0 : Heap} {ss : List Addr} (hO : Old Z Z.heap.size h0) {a b : Addr} {cs : List Int32} {cap : Nat} (M : Sbd Z h0 a b cs cap) {n : Nat} (hn : cap < n) (hn2 : n ≤ cap + cap + 2) (hc : cap < 2 ^ 19) :
    Con l Z consts_1 kn ws (⟨"java/lang/AbstractStringBuilder", "newCapacity", "(I)I"⟩ : MethodName) jdk_68_method_10_code 6 (some .int) ({ frames := 2, cells := 0, slots := 0, locals := 29 } : Room) #[(.ref a), (.int (Int32.ofNat n))] h0 ss (rV fun v h => h0 = h ∧ v = .int (Int32.ofNat (cap + (cap + 2)))) := by
  have hw := g.1
  have hEL := g.2.1
  refine Con.of (plainFor_of_name pn_6) hO ?_
  intro p e s m below meth c T0 me W0
  refine Fi.entry (L := #[.val (.ref a), .val (.int (Int32.ofNat n)), .unset, .unset, .unset, .unset]) (by first | (simp [entryFrame, mkF, argsToLocals, Value.category, maxLocals]; done) | (simp [entryFrame, mkF, argsToLocals, Value.category]; done) | rfl) ?_
  obtain ⟨k, EA, FV, FC, FN, AB, EB, hcap, hc20, hC8⟩ := M
  refine W0.aloadN me d_jdk_68_method_10_0 rfl rfl ?_
  show Fi p e below s Z _ _ _ _ T0 (mkF m 1 #[.val (.ref a), .val (.int (Int32.ofNat n)), .unset, .unset, .unset, .unset] [(.ref a)])
  refine W0.getF me (hw _ (List.mem_of_getElem? (i := 83) rfl)) FV Via.refl d_jdk_68_method_10_1 ?_
  intro T1 W1
  show Fi p e below s Z _ _ _ _ T1 (mkF m 4 #[.val (.ref a), .val (.int (Int32.ofNat n)), .unset, .unset, .unset, .unset] [(.ref b)])
  refine W1.alen me AB d_jdk_68_method_10_4 ?_
  show Fi p e below s Z _ _ _ _ T1 (mkF m 5 #[.val (.ref a), .val (.int (Int32.ofNat n)), .unset, .unset, .unset, .unset] [(.int (Int32.ofNat cap))])
  refine W1.istoreN me d_jdk_68_method_10_5 (l' := #[.val (.ref a), .val (.int (Int32.ofNat n)), .val (.int (Int32.ofNat cap)), .unset, .unset, .unset]) rfl ?_
  refine W1.iloadN me d_jdk_68_method_10_6 rfl ?_
  refine W1.aloadN me d_jdk_68_method_10_7 rfl rfl ?_
  show Fi p e below s Z _ _ _ _ T1 (mkF m 8 #[.val (.ref a), .val (.int (Int32.ofNat n)), .val (.int (Int32.ofNat cap)), .unset, .unset, .unset] [(.ref a), (.int (Int32.ofNat n))])
  refine W1.getF me (hw _ (List.mem_of_getElem? (i := 85) rfl)) FC Via.refl d_jdk_68_method_10_8 ?_
  intro T2 W2
  show Fi p e below s Z _ _ _ _ T2 (mkF m 11 #[.val (.ref a), .val (.int (Int32.ofNat n)), .val (.int (Int32.ofNat cap)), .unset, .unset, .unset] [(.int (0 : Int32)), (.int (Int32.ofNat n))])
  refine W2.ishl me d_jdk_68_method_10_11 ?_
  rw [own_shl0]
  show Fi p e below s Z _ _ _ _ T2 (mkF m 12 #[.val (.ref a), .val (.int (Int32.ofNat n)), .val (.int (Int32.ofNat cap)), .unset, .unset, .unset] [(.int (Int32.ofNat n))])
  refine W2.istoreN me d_jdk_68_method_10_12 (l' := #[.val (.ref a), .val (.int (Int32.ofNat n)), .val (.int (Int32.ofNat cap)), .val (.int (Int32.ofNat n)), .unset, .unset]) rfl ?_
  refine W2.iloadN me d_jdk_68_method_10_13 rfl ?_
  refine W2.iloadN me d_jdk_68_method_10_14 rfl ?_
  show Fi p e below s Z _ _ _ _ T2 (mkF m 15 #[.val (.ref a), .val (.int (Int32.ofNat n)), .val (.int (Int32.ofNat cap)), .val (.int (Int32.ofNat n)), .unset, .unset] [(.int (Int32.ofNat cap)), (.int (Int32.ofNat n))])
  refine W2.isub me d_jdk_68_method_10_15 ?_
  rw [on_sub (by omega)]
  show Fi p e below s Z _ _ _ _ T2 (mkF m 16 #[.val (.ref a), .val (.int (Int32.ofNat n)), .val (.int (Int32.ofNat cap)), .val (.int (Int32.ofNat n)), .unset, .unset] [(.int (Int32.ofNat (n - cap)))])
  refine W2.istore me d_jdk_68_method_10_16 (l' := #[.val (.ref a), .val (.int (Int32.ofNat n)), .val (.int (Int32.ofNat cap)), .val (.int (Int32.ofNat n)), .val (.int (Int32.ofNat (n - cap))), .unset]) rfl ?_
  refine W2.iloadN me d_jdk_68_method_10_18 rfl ?_
  refine W2.iload me d_jdk_68_method_10_19 rfl ?_
  refine W2.iloadN me d_jdk_68_method_10_21 rfl ?_
  refine W2.iconst me d_jdk_68_method_10_22 (v := 2) rfl ?_
  refine W2.aloadN me d_jdk_68_method_10_23 rfl rfl ?_
  show Fi p e below s Z _ _ _ _ T2 (mkF m 24 #[.val (.ref a), .val (.int (Int32.ofNat n)), .val (.int (Int32.ofNat cap)), .val (.int (Int32.ofNat n)), .val (.int (Int32.ofNat (n - cap))), .unset] [(.ref a), (.int (2 : Int32)), (.int (Int32.ofNat cap)), (.int (Int32.ofNat (n - cap))), (.int (Int32.ofNat cap))])
  refine W2.getF me (hw _ (List.mem_of_getElem? (i := 85) rfl)) FC Via.refl d_jdk_68_method_10_24 ?_
  intro T3 W3
  show Fi p e below s Z _ _ _ _ T3 (mkF m 27 #[.val (.ref a), .val (.int (Int32.ofNat n)), .val (.int (Int32.ofNat cap)), .val (.int (Int32.ofNat n)), .val (.int (Int32.ofNat (n - cap))), .unset] [(.int (0 : Int32)), (.int (2 : Int32)), (.int (Int32.ofNat cap)), (.int (Int32.ofNat (n - cap))), (.int (Int32.ofNat cap))])
  refine W3.ishl me d_jdk_68_method_10_27 ?_
  rw [own_shl0]
  show Fi p e below s Z _ _ _ _ T3 (mkF m 28 #[.val (.ref a), .val (.int (Int32.ofNat n)), .val (.int (Int32.ofNat cap)), .val (.int (Int32.ofNat n)), .val (.int (Int32.ofNat (n - cap))), .unset] [(.int (2 : Int32)), (.int (Int32.ofNat cap)), (.int (Int32.ofNat (n - cap))), (.int (Int32.ofNat cap))])
  refine W3.iadd me d_jdk_68_method_10_28 ?_
  rw [own_plus2]
  show Fi p e below s Z _ _ _ _ T3 (mkF m 29 #[.val (.ref a), .val (.int (Int32.ofNat n)), .val (.int (Int32.ofNat cap)), .val (.int (Int32.ofNat n)), .val (.int (Int32.ofNat (n - cap))), .unset] [(.int (Int32.ofNat (cap + 2))), (.int (Int32.ofNat (n - cap))), (.int (Int32.ofNat cap))])
  refine W3.callS me hEL (hw _ (List.mem_of_getElem? (i := 141) rfl)) (hw _ (List.mem_of_getElem? (i := 142) rfl)) (hw _ (List.mem_of_getElem? (i := 143) rfl)) (hw _ (List.mem_of_getElem? (i := 144) rfl)) (argsL := [(.int (Int32.ofNat cap)), (.int (Int32.ofNat (n - cap))), (.int (Int32.ofNat (cap + 2)))]) (rest := []) (c_newlen (ss := []) g W3.old (by omega) (by omega) (by omega)) d_jdk_68_method_10_29 (by decide) (fun _ q => nomatch q) rfl (lenOf pd_12 rfl) (own_le rfl) (own_le rfl) (own_le rfl) (own_le rfl) rfl ?_
  intro T4 h4 v4 W4 z4 q4
  obtain ⟨sf4, X4, _, rfl, rfl, rfl⟩ := q4
  show Fi p e below s Z _ _ _ _ T4 (mkF m 32 #[.val (.ref a), .val (.int (Int32.ofNat n)), .val (.int (Int32.ofNat cap)), .val (.int (Int32.ofNat n)), .val (.int (Int32.ofNat (n - cap))), .unset] [(.int (Int32.ofNat (cap + (cap + 2))))])
  refine W4.istore me d_jdk_68_method_10_32 (l' := #[.val (.ref a), .val (.int (Int32.ofNat n)), .val (.int (Int32.ofNat cap)), .val (.int (Int32.ofNat n)), .val (.int (Int32.ofNat (n - cap))), .val (.int (Int32.ofNat (cap + (cap + 2))))]) rfl ?_
  refine W4.iload me d_jdk_68_method_10_34 rfl ?_
  refine W4.ldcI me (hw _ (List.mem_of_getElem? (i := 150) rfl)) d_jdk_68_method_10_36 ?_
  show Fi p e below s Z _ _ _ _ T4 (mkF m 38 #[.val (.ref a), .val (.int (Int32.ofNat n)), .val (.int (Int32.ofNat cap)), .val (.int (Int32.ofNat n)), .val (.int (Int32.ofNat (n - cap))), .val (.int (Int32.ofNat (cap + (cap + 2))))] [(.int (2147483647 : Int32)), (.int (Int32.ofNat (cap + (cap + 2))))])
  refine W4.icY_ne me d_jdk_68_method_10_38 (own_nmax (by omega)) (pc' := 51) (by decide) (by decide) ?_
  refine W4.iload me d_jdk_68_method_10_51 rfl ?_
  refine W4.aloadN me d_jdk_68_method_10_53 rfl rfl ?_
  show Fi p e below s Z _ _ _ _ T4 (mkF m 54 #[.val (.ref a), .val (.int (Int32.ofNat n)), .val (.int (Int32.ofNat cap)), .val (.int (Int32.ofNat n)), .val (.int (Int32.ofNat (n - cap))), .val (.int (Int32.ofNat (cap + (cap + 2))))] [(.ref a), (.int (Int32.ofNat (cap + (cap + 2))))])
  refine W4.getF me (hw _ (List.mem_of_getElem? (i := 85) rfl)) FC Via.refl d_jdk_68_method_10_54 ?_
  intro T5 W5
  show Fi p e below s Z _ _ _ _ T5 (mkF m 57 #[.val (.ref a), .val (.int (Int32.ofNat n)), .val (.int (Int32.ofNat cap)), .val (.int (Int32.ofNat n)), .val (.int (Int32.ofNat (n - cap))), .val (.int (Int32.ofNat (cap + (cap + 2))))] [(.int (0 : Int32)), (.int (Int32.ofNat (cap + (cap + 2))))])
  refine W5.ishr me d_jdk_68_method_10_57 ?_
  rw [own_shr0]
  show Fi p e below s Z _ _ _ _ T5 (mkF m 58 #[.val (.ref a), .val (.int (Int32.ofNat n)), .val (.int (Int32.ofNat cap)), .val (.int (Int32.ofNat n)), .val (.int (Int32.ofNat (n - cap))), .val (.int (Int32.ofNat (cap + (cap + 2))))] [(.int (Int32.ofNat (cap + (cap + 2))))])
  exact W5.retI hEL me d_jdk_68_method_10_58 ⟨rfl, rfl⟩ (by decide) (by decide)

set_option maxRecDepth 65536 in
set_option maxHeartbeats 4000000 in
theorem c_minl {l : Launch} {Z : State} {a0 : Array Value} {kn : Bool} (g : Gl Z a0) {ws : List Cond} {h0 : Heap} {ss : List Addr} (hO : Old Z Z.heap.size h0) {x y : Int32} (hx : ¬ y < x) :
    Con l Z consts_1 kn ws (⟨"java/lang/Math", "min", "(II)I"⟩ : MethodName) jdk_29_method_69_code 2 (some .int) ({ frames := 0, cells := 0, slots := 0, locals := 0 } : Room) #[(.int x), (.int y)] h0 ss (rV fun v h => h0 = h ∧ v = .int x) := by
  have hw := g.1
  have hEL := g.2.1
  refine Con.of pf_0 hO ?_
  intro p e s m below meth c T0 me W0
  refine Fi.entry (L := #[.val (.int x), .val (.int y)]) (by first | (simp [entryFrame, mkF, argsToLocals, Value.category, maxLocals]; done) | (simp [entryFrame, mkF, argsToLocals, Value.category]; done) | rfl) ?_
  refine W0.iloadN me d_jdk_29_method_69_0 rfl ?_
  refine W0.iloadN me d_jdk_29_method_69_1 rfl ?_
  show Fi p e below s Z _ _ _ _ T0 (mkF m 2 #[.val (.int x), .val (.int y)] [(.int y), (.int x)])
  refine W0.icN_gt me d_jdk_29_method_69_2 hx ?_
  refine W0.iloadN me d_jdk_29_method_69_5 rfl ?_
  refine W0.goto me d_jdk_29_method_69_6 (pc' := 10) (by decide) (by decide) ?_
  show Fi p e below s Z _ _ _ _ T0 (mkF m 10 #[.val (.int x), .val (.int y)] [(.int x)])
  exact W0.retI hEL me d_jdk_29_method_69_10 ⟨rfl, rfl⟩ (by decide) (by decide)

set_option maxRecDepth 65536 in
set_option maxHeartbeats 4000000 in
theorem c_copyof {l : Launch} {Z : State} {a0 : Array Value} {kn : Bool} (g : Gl Z a0) {ws : List Cond} {h0 : Heap} {ss : List Addr} (hO : Old Z Z.heap.size h0) {b : Addr} {kb : ClassId} {cs : List Int32} {N n : Nat} (AB : Arv Z h0 b kb .byte (Int32.ofNat N) (lb cs) (.int 0)) (hN : cs.length ≤ N) (hn : N < n) (hn2 : n ≤ 40) :
    Con l Z consts_1 kn ws (⟨"java/util/Arrays", "copyOf", "([BI)[B"⟩ : MethodName) jdk_65_method_121_code 3 (some (.array .byte)) ({ frames := 1, cells := 1, slots := 40, locals := 18 } : Room) #[(.ref b), (.int (Int32.ofNat n))] h0 ss (rVs fun v h sf => Ext h0 h ∧ ∃ d kd, v = .ref d ∧ h0.size ≤ d ∧ sf d ∧ Arv Z h d kd .byte (Int32.ofNat n) (lb cs) (.int 0) ∧ Exa Z h d "[B") := by
  have hw := g.1
  have hEL := g.2.1
  refine Con.of (plainFor_of_name pn_5) hO ?_
  intro p e s m below meth c T0 me W0
  refine Fi.entry (L := #[.val (.ref b), .val (.int (Int32.ofNat n)), .unset]) (by first | (simp [entryFrame, mkF, argsToLocals, Value.category, maxLocals]; done) | (simp [entryFrame, mkF, argsToLocals, Value.category]; done) | rfl) ?_
  have hblt := own_lt AB.lt
  refine W0.iloadN me d_jdk_65_method_121_0 rfl ?_
  refine W0.aloadN me d_jdk_65_method_121_1 rfl rfl ?_
  show Fi p e below s Z _ _ _ _ T0 (mkF m 2 #[.val (.ref b), .val (.int (Int32.ofNat n)), .unset] [(.ref b), (.int (Int32.ofNat n))])
  refine W0.alen me AB d_jdk_65_method_121_2 ?_
  show Fi p e below s Z _ _ _ _ T0 (mkF m 3 #[.val (.ref b), .val (.int (Int32.ofNat n)), .unset] [(.int (Int32.ofNat N)), (.int (Int32.ofNat n))])
  refine W0.icY_ne me d_jdk_65_method_121_3 (fun q => absurd ((on_inj (by omega) (by omega)).mp q) (by omega)) (pc' := 14) (by decide) (by decide) ?_
  refine W0.iloadN me d_jdk_65_method_121_14 rfl ?_
  show Fi p e below s Z _ _ _ _ T0 (mkF m 15 #[.val (.ref b), .val (.int (Int32.ofNat n)), .unset] [(.int (Int32.ofNat n))])
  refine W0.newAE me (hw _ (List.mem_of_getElem? (i := 23) rfl)) d_jdk_65_method_121_15 (on_nneg (by omega)) (cap := 40) (by rw [on_clamp (by omega)]; omega) (by decide) (own_le rfl) (own_le rfl) (ad := "[B") (by decide) ?_
  intro T1 h1 a1 k1 g1 W1 E1 A1 EB1
  show Fi p e below s Z _ _ _ _ T1 (mkF m 17 #[.val (.ref b), .val (.int (Int32.ofNat n)), .unset] [(.ref a1)])
  refine W1.astoreN me d_jdk_65_method_121_17 (l' := #[.val (.ref b), .val (.int (Int32.ofNat n)), .val (.ref a1)]) rfl rfl ?_
  refine W1.aloadN me d_jdk_65_method_121_18 rfl rfl ?_
  refine W1.iconst me d_jdk_65_method_121_19 (v := 0) rfl ?_
  refine W1.aloadN me d_jdk_65_method_121_20 rfl rfl ?_
  refine W1.iconst me d_jdk_65_method_121_21 (v := 0) rfl ?_
  refine W1.aloadN me d_jdk_65_method_121_22 rfl rfl ?_
  show Fi p e below s Z _ _ _ _ T1 (mkF m 23 #[.val (.ref b), .val (.int (Int32.ofNat n)), .val (.ref a1)] [(.ref b), (.int (0 : Int32)), (.ref a1), (.int (0 : Int32)), (.ref b)])
  refine W1.alen me (AB.ext E1) d_jdk_65_method_121_23 ?_
  show Fi p e below s Z _ _ _ _ T1 (mkF m 24 #[.val (.ref b), .val (.int (Int32.ofNat n)), .val (.ref a1)] [(.int (Int32.ofNat N)), (.int (0 : Int32)), (.ref a1), (.int (0 : Int32)), (.ref b)])
  refine W1.iloadN me d_jdk_65_method_121_24 rfl ?_
  show Fi p e below s Z _ _ _ _ T1 (mkF m 25 #[.val (.ref b), .val (.int (Int32.ofNat n)), .val (.ref a1)] [(.int (Int32.ofNat n)), (.int (Int32.ofNat N)), (.int (0 : Int32)), (.ref a1), (.int (0 : Int32)), (.ref b)])
  refine W1.callS me hEL (hw _ (List.mem_of_getElem? (i := 155) rfl)) (hw _ (List.mem_of_getElem? (i := 156) rfl)) (hw _ (List.mem_of_getElem? (i := 147) rfl)) (hw _ (List.mem_of_getElem? (i := 157) rfl)) (argsL := [(.int (Int32.ofNat N)), (.int (Int32.ofNat n))]) (rest := [(.int (0 : Int32)), (.ref a1), (.int (0 : Int32)), (.ref b)]) (c_minl (ss := []) g W1.old (on_nlt (by omega) (by omega))) d_jdk_65_method_121_25 (by decide) (fun _ q => nomatch q) rfl (lenOf pd_9 rfl) (own_le rfl) (own_le rfl) (own_le rfl) (own_le rfl) rfl ?_
  intro T2 h2 v2 W2 z2 q2
  obtain ⟨sf2, X2, _, rfl, rfl, rfl⟩ := q2
  show Fi p e below s Z _ _ _ _ T2 (mkF m 28 #[.val (.ref b), .val (.int (Int32.ofNat n)), .val (.ref a1)] [(.int (Int32.ofNat N)), (.int (0 : Int32)), (.ref a1), (.int (0 : Int32)), (.ref b)])
  have hz1 : Z.heap.size ≤ a1 := by have := hO.2.1; omega
  refine W2.acopy me (hw _ (List.mem_of_getElem? (i := 158) rfl)) (hw _ (List.mem_of_getElem? (i := 134) rfl)) (hw _ (List.mem_of_getElem? (i := 132) rfl)) (hw _ (List.mem_of_getElem? (i := 133) rfl)) (AB.ext E1) (own_fill A1 N) rfl (Or.inl (List.mem_cons_self ..)) hz1 (by decide) (by decide) (on_nneg (by omega)) (by rw [on_clamp (by omega)]; show 0 + N ≤ N; omega) (by rw [on_clamp (by omega), on_clamp (by omega)]; show 0 + N ≤ n; omega) (us := (List.range N).map fun i => (lb cs).getD (0 + i) (.int 0)) (by rw [on_clamp (by omega)]; rfl) (by rw [on_clamp (by omega), List.length_replicate]; show 0 + N ≤ N; omega) d_jdk_65_method_121_28 rfl (own_le rfl) (own_le rfl) ?_
  intro T3 h3 W3 K3 A3
  show Fi p e below s Z _ _ _ _ T3 (mkF m 31 #[.val (.ref b), .val (.int (Int32.ofNat n)), .val (.ref a1)] [])
  refine W3.aloadN me d_jdk_65_method_121_31 rfl rfl ?_
  show Fi p e below s Z _ _ _ _ T3 (mkF m 32 #[.val (.ref b), .val (.int (Int32.ofNat n)), .val (.ref a1)] [(.ref a1)])
  have A3' : Arv Z h3 a1 k1 .byte (Int32.ofNat n) (lb cs) (.int 0) := own_copied A3 (by omega) hN
  exact W3.retAs hEL me d_jdk_65_method_121_32 (fun sf q => ⟨own_xk E1 K3 (allS (by omega) all0), a1, k1, rfl, by omega, q _ (List.mem_cons_self ..), A3', EB1.keep K3⟩) (by decide) (by decide) rfl rfl rfl

set_option maxRecDepth 65536 in
set_option maxHeartbeats 4000000 in
theorem c_ens1 {l : Launch} {Z : State} {a0 : Array Value} {kn : Bool} (g : Gl Z a0) {ws : List Cond} {h0 : Heap} {ss : List Addr} (hO : Old Z Z.heap.size h0) {a b : Addr} {cs : List Int32} {cap : Nat} (M : Sbd Z h0 a b cs cap) {n : Nat} (hn : cap < n) (hn2 : n ≤ cap + cap + 2) (hc : cap + (cap + 2) ≤ 40) (hz : Z.heap.size ≤ a) :
    Con l Z consts_1 kn ws (⟨"java/lang/AbstractStringBuilder", "ensureCapacityInternal", "(I)V"⟩ : MethodName) jdk_68_method_9_code 3 none ({ frames := 3, cells := 1, slots := 40, locals := 48 } : Room) #[(.ref a), (.int (Int32.ofNat n))] h0 ss (rUs fun h sf => Keep h0 h [a] ∧ ∃ d, h0.size ≤ d ∧ sf d ∧ Sbd Z h a d cs (cap + (cap + 2))) := by
  have hw := g.1
  have hEL := g.2.1
  refine Con.of (plainFor_of_name pn_6) hO ?_
  intro p e s m below meth c T0 me W0
  refine Fi.entry (L := #[.val (.ref a), .val (.int (Int32.ofNat n)), .unset]) (by first | (simp [entryFrame, mkF, argsToLocals, Value.category, maxLocals]; done) | (simp [entryFrame, mkF, argsToLocals, Value.category]; done) | rfl) ?_
  have M' := M
  obtain ⟨k, EA, FV, FC, FN, AB, EB, hcap, hc20, hC8⟩ := M
  refine W0.aloadN me d_jdk_68_method_9_0 rfl rfl ?_
  show Fi p e below s Z _ _ _ _ T0 (mkF m 1 #[.val (.ref a), .val (.int (Int32.ofNat n)), .unset] [(.ref a)])
  refine W0.getF me (hw _ (List.mem_of_getElem? (i := 83) rfl)) FV Via.refl d_jdk_68_method_9_1 ?_
  intro T1 W1
  show Fi p e below s Z _ _ _ _ T1 (mkF m 4 #[.val (.ref a), .val (.int (Int32.ofNat n)), .unset] [(.ref b)])
  refine W1.alen me AB d_jdk_68_method_9_4 ?_
  show Fi p e below s Z _ _ _ _ T1 (mkF m 5 #[.val (.ref a), .val (.int (Int32.ofNat n)), .unset] [(.int (Int32.ofNat cap))])
  refine W1.aloadN me d_jdk_68_method_9_5 rfl rfl ?_
  show Fi p e below s Z _ _ _ _ T1 (mkF m 6 #[.val (.ref a), .val (.int (Int32.ofNat n)), .unset] [(.ref a), (.int (Int32.ofNat cap))])
  refine W1.getF me (hw _ (List.mem_of_getElem? (i := 85) rfl)) FC Via.refl d_jdk_68_method_9_6 ?_
  intro T2 W2
  show Fi p e below s Z _ _ _ _ T2 (mkF m 9 #[.val (.ref a), .val (.int (Int32.ofNat n)), .unset] [(.int (0 : Int32)), (.int (Int32.ofNat cap))])
  refine W2.ishr me d_jdk_68_method_9_9 ?_
  rw [own_shr0]
  show Fi p e below s Z _ _ _ _ T2 (mkF m 10 #[.val (.ref a), .val (.int (Int32.ofNat n)), .unset] [(.int (Int32.ofNat cap))])
  refine W2.istoreN me d_jdk_68_method_9_10 (l' := #[.val (.ref a), .val (.int (Int32.ofNat n)), .val (.int (Int32.ofNat cap))]) rfl ?_
  refine W2.iloadN me d_jdk_68_method_9_11 rfl ?_
  refine W2.iloadN me d_jdk_68_method_9_12 rfl ?_
  refine W2.isub me d_jdk_68_method_9_13 ?_
  show Fi p e below s Z _ _ _ _ T2 (mkF m 14 #[.val (.ref a), .val (.int (Int32.ofNat n)), .val (.int (Int32.ofNat cap))] [(.int ((Int32.ofNat n) - (Int32.ofNat cap)))])
  have n_value_coder : Jvm.RoadKit.slotOf Z "java/lang/AbstractStringBuilder" "value" "[B" ≠ Jvm.RoadKit.slotOf Z "java/lang/AbstractStringBuilder" "coder" "B" := slot_ne (Or.inl (hw _ (List.mem_of_getElem? (i := 84) rfl)) : Laid Z a0 "java/lang/StringBuilder" "java/lang/AbstractStringBuilder" "value" "[B") (Or.inl (hw _ (List.mem_of_getElem? (i := 86) rfl)) : Laid Z a0 "java/lang/StringBuilder" "java/lang/AbstractStringBuilder" "coder" "B") (by decide) (t := .array .byte) (t' := .byte) (by decide) (by decide)
  have n_value_count : Jvm.RoadKit.slotOf Z "java/lang/AbstractStringBuilder" "value" "[B" ≠ Jvm.RoadKit.slotOf Z "java/lang/AbstractStringBuilder" "count" "I" := slot_ne (Or.inl (hw _ (List.mem_of_getElem? (i := 84) rfl)) : Laid Z a0 "java/lang/StringBuilder" "java/lang/AbstractStringBuilder" "value" "[B") (Or.inl (hw _ (List.mem_of_getElem? (i := 109) rfl)) : Laid Z a0 "java/lang/StringBuilder" "java/lang/AbstractStringBuilder" "count" "I") (by decide) (t := .array .byte) (t' := .int) (by decide) (by decide)
  have n_coder_count : Jvm.RoadKit.slotOf Z "java/lang/AbstractStringBuilder" "coder" "B" ≠ Jvm.RoadKit.slotOf Z "java/lang/AbstractStringBuilder" "count" "I" := slot_ne (Or.inl (hw _ (List.mem_of_getElem? (i := 86) rfl)) : Laid Z a0 "java/lang/StringBuilder" "java/lang/AbstractStringBuilder" "coder" "B") (Or.inl (hw _ (List.mem_of_getElem? (i := 109) rfl)) : Laid Z a0 "java/lang/StringBuilder" "java/lang/AbstractStringBuilder" "count" "I") (by decide) (t := .byte) (t' := .int) (by decide) (by decide)
  refine W2.ifN_le me d_jdk_68_method_9_14 (own_subgt (by omega) (by omega)) ?_
  refine W2.aloadN me d_jdk_68_method_9_17 rfl rfl ?_
  refine W2.aloadN me d_jdk_68_method_9_18 rfl rfl ?_
  show Fi p e below s Z _ _ _ _ T2 (mkF m 19 #[.val (.ref a), .val (.int (Int32.ofNat n)), .val (.int (Int32.ofNat cap))] [(.ref a), (.ref a)])
  refine W2.getF me (hw _ (List.mem_of_getElem? (i := 83) rfl)) FV Via.refl d_jdk_68_method_9_19 ?_
  intro T3 W3
  show Fi p e below s Z _ _ _ _ T3 (mkF m 22 #[.val (.ref a), .val (.int (Int32.ofNat n)), .val (.int (Int32.ofNat cap))] [(.ref b), (.ref a)])
  refine W3.aloadN me d_jdk_68_method_9_22 rfl rfl ?_
  refine W3.iloadN me d_jdk_68_method_9_23 rfl ?_
  show Fi p e below s Z _ _ _ _ T3 (mkF m 24 #[.val (.ref a), .val (.int (Int32.ofNat n)), .val (.int (Int32.ofNat cap))] [(.int (Int32.ofNat n)), (.ref a), (.ref b), (.ref a)])
  refine W3.callP me hEL (hw _ (List.mem_of_getElem? (i := 136) rfl)) (hw _ (List.mem_of_getElem? (i := 137) rfl)) (hw _ (List.mem_of_getElem? (i := 138) rfl)) (hw _ (List.mem_of_getElem? (i := 139) rfl)) (hw _ (List.mem_of_getElem? (i := 79) rfl)) (hw _ (List.mem_of_getElem? (i := 140) rfl)) (a := a) (argsL := [(.int (Int32.ofNat n))]) (rest := [(.ref b), (.ref a)]) EA (c_newcap (ss := []) g W3.old M' hn (by omega) (by omega)) d_jdk_68_method_9_24 (by decide) (fun _ q => nomatch q) rfl (lenOf pd_13 rfl) (own_le rfl) (own_le rfl) (own_le rfl) (own_le rfl) rfl ?_
  intro T4 h4 v4 W4 z4 q4
  obtain ⟨sf4, X4, _, rfl, rfl, rfl⟩ := q4
  show Fi p e below s Z _ _ _ _ T4 (mkF m 27 #[.val (.ref a), .val (.int (Int32.ofNat n)), .val (.int (Int32.ofNat cap))] [(.int (Int32.ofNat (cap + (cap + 2)))), (.ref b), (.ref a)])
  refine W4.aloadN me d_jdk_68_method_9_27 rfl rfl ?_
  show Fi p e below s Z _ _ _ _ T4 (mkF m 28 #[.val (.ref a), .val (.int (Int32.ofNat n)), .val (.int (Int32.ofNat cap))] [(.ref a), (.int (Int32.ofNat (cap + (cap + 2)))), (.ref b), (.ref a)])
  refine W4.getF me (hw _ (List.mem_of_getElem? (i := 85) rfl)) FC Via.refl d_jdk_68_method_9_28 ?_
  intro T5 W5
  show Fi p e below s Z _ _ _ _ T5 (mkF m 31 #[.val (.ref a), .val (.int (Int32.ofNat n)), .val (.int (Int32.ofNat cap))] [(.int (0 : Int32)), (.int (Int32.ofNat (cap + (cap + 2)))), (.ref b), (.ref a)])
  refine W5.ishl me d_jdk_68_method_9_31 ?_
  rw [own_shl0]
  show Fi p e below s Z _ _ _ _ T5 (mkF m 32 #[.val (.ref a), .val (.int (Int32.ofNat n)), .val (.int (Int32.ofNat cap))] [(.int (Int32.ofNat (cap + (cap + 2)))), (.ref b), (.ref a)])
  refine W5.callS me hEL (hw _ (List.mem_of_getElem? (i := 151) rfl)) (hw _ (List.mem_of_getElem? (i := 152) rfl)) (hw _ (List.mem_of_getElem? (i := 153) rfl)) (hw _ (List.mem_of_getElem? (i := 154) rfl)) (argsL := [(.ref b), (.int (Int32.ofNat (cap + (cap + 2))))]) (rest := [(.ref a)]) (c_copyof (ss := []) g W5.old AB hcap (n := cap + (cap + 2)) (by omega) (by omega)) d_jdk_68_method_9_32 (by decide) (fun _ q => nomatch q) rfl (lenOf pd_14 rfl) (own_le rfl) (own_le rfl) (own_le rfl) (own_le rfl) rfl ?_
  intro T6 h6 v6 W6 z6 q6
  obtain ⟨sf6, X6, _, rfl, E6, d6, k6, rfl, y6, s6, A6, EB6⟩ := q6
  show Fi p e below s Z _ _ _ _ T6 (mkF m 35 #[.val (.ref a), .val (.int (Int32.ofNat n)), .val (.int (Int32.ofNat cap))] [(.ref d6), (.ref a)])
  refine (X6 [d6] (allS s6 all0)).putF me (hw _ (List.mem_of_getElem? (i := 83) rfl)) (FV.ext E6) Via.refl (EA.ext E6) (Or.inl (hw _ (List.mem_of_getElem? (i := 84) rfl))) (hw _ (List.mem_of_getElem? (i := 70) rfl)) (ty := (.array .byte)) (by decide) rfl rfl (Or.inr (Or.inl ⟨"java/lang/StringBuilder", EA.ext E6, by decide, by decide⟩)) hz d_jdk_68_method_9_35 ?_
  intro T7 h7 W7 R7
  show Fi p e below s Z _ _ _ _ T7 (mkF m 38 #[.val (.ref a), .val (.int (Int32.ofNat n)), .val (.int (Int32.ofNat cap))] [])
  have hne : d6 ≠ a := own_en (by have := own_lt EA.lt; omega)
  have S : Sbd Z h7 a d6 cs (cap + (cap + 2)) := ⟨k6, (EA.ext E6).wr R7, (FV.ext E6).same R7, (FC.ext E6).other R7 (Or.inr n_value_coder.symm), (FN.ext E6).other R7 (Or.inr n_value_count.symm), A6.other R7 hne, EB6.wr R7, by omega, by omega, hC8⟩
  exact W7.retUs hEL me d_jdk_68_method_9_38 (fun sf q => ⟨(own_xK E6 [a]).wr R7 (Or.inl (List.mem_singleton.mpr rfl)), d6, y6, q _ (List.mem_cons_self ..), S⟩) (by decide) (by decide)

set_option maxRecDepth 65536 in
set_option maxHeartbeats 4000000 in
theorem c_ens0 {l : Launch} {Z : State} {a0 : Array Value} {kn : Bool} (g : Gl Z a0) {ws : List Cond} {h0 : Heap} {ss : List Addr} (hO : Old Z Z.heap.size h0) {a b : Addr} {cs : List Int32} {cap : Nat} (M : Sbd Z h0 a b cs cap) {n : Nat} (hn : n ≤ cap) (hn2 : n < 2 ^ 20) :
    Con l Z consts_1 kn ws (⟨"java/lang/AbstractStringBuilder", "ensureCapacityInternal", "(I)V"⟩ : MethodName) jdk_68_method_9_code 3 none ({ frames := 0, cells := 0, slots := 0, locals := 0 } : Room) #[(.ref a), (.int (Int32.ofNat n))] h0 ss (rU fun h => h0 = h) := by
  have hw := g.1
  have hEL := g.2.1
  refine Con.of (plainFor_of_name pn_6) hO ?_
  intro p e s m below meth c T0 me W0
  refine Fi.entry (L := #[.val (.ref a), .val (.int (Int32.ofNat n)), .unset]) (by first | (simp [entryFrame, mkF, argsToLocals, Value.category, maxLocals]; done) | (simp [entryFrame, mkF, argsToLocals, Value.category]; done) | rfl) ?_
  have M' := M
  obtain ⟨k, EA, FV, FC, FN, AB, EB, hcap, hc20, hC8⟩ := M
  refine W0.aloadN me d_jdk_68_method_9_0 rfl rfl ?_
  show Fi p e below s Z _ _ _ _ T0 (mkF m 1 #[.val (.ref a), .val (.int (Int32.ofNat n)), .unset] [(.ref a)])
  refine W0.getF me (hw _ (List.mem_of_getElem? (i := 83) rfl)) FV Via.refl d_jdk_68_method_9_1 ?_
  intro T1 W1
  show Fi p e below s Z _ _ _ _ T1 (mkF m 4 #[.val (.ref a), .val (.int (Int32.ofNat n)), .unset] [(.ref b)])
  refine W1.alen me AB d_jdk_68_method_9_4 ?_
  show Fi p e below s Z _ _ _ _ T1 (mkF m 5 #[.val (.ref a), .val (.int (Int32.ofNat n)), .unset] [(.int (Int32.ofNat cap))])
  refine W1.aloadN me d_jdk_68_method_9_5 rfl rfl ?_
  show Fi p e below s Z _ _ _ _ T1 (mkF m 6 #[.val (.ref a), .val (.int (Int32.ofNat n)), .unset] [(.ref a), (.int (Int32.ofNat cap))])
  refine W1.getF me (hw _ (List.mem_of_getElem? (i := 85) rfl)) FC Via.refl d_jdk_68_method_9_6 ?_
  intro T2 W2
  show Fi p e below s Z _ _ _ _ T2 (mkF m 9 #[.val (.ref a), .val (.int (Int32.ofNat n)), .unset] [(.int (0 : Int32)), (.int (Int32.ofNat cap))])
  refine W2.ishr me d_jdk_68_method_9_9 ?_
  rw [own_shr0]
  show Fi p e below s Z _ _ _ _ T2 (mkF m 10 #[.val (.ref a), .val (.int (Int32.ofNat n)), .unset] [(.int (Int32.ofNat cap))])
  refine W2.istoreN me d_jdk_68_method_9_10 (l' := #[.val (.ref a), .val (.int (Int32.ofNat n)), .val (.int (Int32.ofNat cap))]) rfl ?_
  refine W2.iloadN me d_jdk_68_method_9_11 rfl ?_
  refine W2.iloadN me d_jdk_68_method_9_12 rfl ?_
  refine W2.isub me d_jdk_68_method_9_13 ?_
  show Fi p e below s Z _ _ _ _ T2 (mkF m 14 #[.val (.ref a), .val (.int (Int32.ofNat n)), .val (.int (Int32.ofNat cap))] [(.int ((Int32.ofNat n) - (Int32.ofNat cap)))])
  refine W2.ifY_le me d_jdk_68_method_9_14 (own_suble (by omega) (by omega)) (pc' := 38) (by decide) (by decide) ?_
  show Fi p e below s Z _ _ _ _ T2 (mkF m 38 #[.val (.ref a), .val (.int (Int32.ofNat n)), .val (.int (Int32.ofNat cap))] [])
  exact W2.retU hEL me d_jdk_68_method_9_38 rfl (by decide) (by decide)

set_option maxRecDepth 65536 in
set_option maxHeartbeats 4000000 in
theorem c_inflif {l : Launch} {Z : State} {a0 : Array Value} {kn : Bool} (g : Gl Z a0) {ws : List Cond} {h0 : Heap} {ss : List Addr} (hO : Old Z Z.heap.size h0) {a b : Addr} {cs : List Int32} {cap : Nat} (M : Sbd Z h0 a b cs cap) {u : Addr} {ds : List Int32} (L : Lat Z h0 u ds) :
    Con l Z consts_1 kn ws (⟨"java/lang/AbstractStringBuilder", "inflateIfNeededFor", "(Ljava/lang/String;)V"⟩ : MethodName) jdk_68_method_71_code 2 none ({ frames := 1, cells := 0, slots := 0, locals := 13 } : Room) #[(.ref a), (.ref u)] h0 ss (rU fun h => h0 = h) := by
  have hw := g.1
  have hEL := g.2.1
  refine Con.of (plainFor_of_name pn_6) hO ?_
  intro p e s m below meth c T0 me W0
  refine Fi.entry (L := #[.val (.ref a), .val (.ref u)]) (by first | (simp [entryFrame, mkF, argsToLocals, Value.category, maxLocals]; done) | (simp [entryFrame, mkF, argsToLocals, Value.category]; done) | rfl) ?_
  obtain ⟨k, EA, FV, FC, FN, AB, EB, hcap, hc20, hC8⟩ := M
  obtain ⟨vb, ku, EX, UC, UV, AU, ul, u8⟩ := L
  obtain ⟨G, O2, P2⟩ := g.2.2.1
  refine W0.getS me (hw _ (List.mem_of_getElem? (i := 82) rfl)) O2 Via.refl d_jdk_68_method_71_0 ?_
  intro T1 W1
  show Fi p e below s Z _ _ _ _ T1 (mkF m 3 #[.val (.ref a), .val (.ref u)] [(.int G)])
  refine W1.ifN_eq me d_jdk_68_method_71_3 P2 ?_
  refine W1.aloadN me d_jdk_68_method_71_6 rfl rfl ?_
  show Fi p e below s Z _ _ _ _ T1 (mkF m 7 #[.val (.ref a), .val (.ref u)] [(.ref a)])
  refine W1.getF me (hw _ (List.mem_of_getElem? (i := 85) rfl)) FC Via.refl d_jdk_68_method_71_7 ?_
  intro T2 W2
  show Fi p e below s Z _ _ _ _ T2 (mkF m 10 #[.val (.ref a), .val (.ref u)] [(.int (0 : Int32))])
  refine W2.aloadN me d_jdk_68_method_71_10 rfl rfl ?_
  show Fi p e below s Z _ _ _ _ T2 (mkF m 11 #[.val (.ref a), .val (.ref u)] [(.ref u), (.int (0 : Int32))])
  refine W2.callV me hEL (hw _ (List.mem_of_getElem? (i := 125) rfl)) (hw _ (List.mem_of_getElem? (i := 104) rfl)) (fun hZ' => notFace_of_selects (args := #[]) (mvT (s := s.setVm _) hZ' (hw _ (List.mem_of_getElem? (i := 106) rfl)))) (hw _ (List.mem_of_getElem? (i := 106) rfl)) (hw _ (List.mem_of_getElem? (i := 105) rfl)) (hw _ (List.mem_of_getElem? (i := 6) rfl)) (hw _ (List.mem_of_getElem? (i := 107) rfl)) (a := u) (argsL := []) (rest := [(.int (0 : Int32))]) EX (c_coder (ss := []) g W2.old UC rfl) d_jdk_68_method_71_11 (by decide) (fun _ q => nomatch q) rfl (lenOf pd_4 rfl) (own_le rfl) (own_le rfl) (own_le rfl) (own_le rfl) rfl ?_
  intro T3 h3 v3 W3 z3 q3
  obtain ⟨sf3, X3, _, rfl, rfl, rfl⟩ := q3
  show Fi p e below s Z _ _ _ _ T3 (mkF m 14 #[.val (.ref a), .val (.ref u)] [(.int (0 : Int32)), (.int (0 : Int32))])
  show Fi p e below s Z _ _ _ _ T3 (mkF m 14 #[.val (.ref a), .val (.ref u)] [(.int (0 : Int32)), (.int (0 : Int32))])
  refine W3.icY_eq me d_jdk_68_method_71_14 (by decide) (pc' := 21) (by decide) (by decide) ?_
  show Fi p e below s Z _ _ _ _ T3 (mkF m 21 #[.val (.ref a), .val (.ref u)] [])
  show Fi p e below s Z _ _ _ _ T3 (mkF m 21 #[.val (.ref a), .val (.ref u)] [])
  exact W3.retU hEL me d_jdk_68_method_71_21 rfl (by decide) (by decide)

set_option maxRecDepth 65536 in
set_option maxHeartbeats 4000000 in
theorem c_getbytes {l : Launch} {Z : State} {a0 : Array Value} {kn : Bool} (g : Gl Z a0) {ws : List Cond} {h0 : Heap} {ss : List Addr} (hO : Old Z Z.heap.size h0) {u vb b : Addr} {kb : ClassId} {cs ds : List Int32} {N : Nat} (L : LatB Z h0 u vb ds) (AB : Arv Z h0 b kb .byte (Int32.ofNat N) (lb cs) (.int 0)) (hN : N < 2 ^ 20) (hfit : cs.length + ds.length ≤ N) (hS : b ∈ ss) (hz : Z.heap.size ≤ b) :
    Con l Z consts_1 kn ws (⟨"java/lang/String", "getBytes", "([BIB)V"⟩ : MethodName) jdk_42_method_147_code 4 none ({ frames := 1, cells := 0, slots := 0, locals := 18 } : Room) #[(.ref u), (.ref b), (.int (Int32.ofNat cs.length)), (.int (0 : Int32))] h0 ss (rU fun h => Keep h0 h [b] ∧ Arv Z h b kb .byte (Int32.ofNat N) (lb (cs ++ ds)) (.int 0)) := by
  have hw := g.1
  have hEL := g.2.1
  refine Con.of (plainFor_of_name pn_1) hO ?_
  intro p e s m below meth c T0 me W0
  refine Fi.entry (L := #[.val (.ref u), .val (.ref b), .val (.int (Int32.ofNat cs.length)), .val (.int (0 : Int32))]) (by first | (simp [entryFrame, mkF, argsToLocals, Value.category, maxLocals]; done) | (simp [entryFrame, mkF, argsToLocals, Value.category]; done) | rfl) ?_
  obtain ⟨ku, EX, UC, UV, AU, ul, u8⟩ := L
  refine W0.aloadN me d_jdk_42_method_147_0 rfl rfl ?_
  show Fi p e below s Z _ _ _ _ T0 (mkF m 1 #[.val (.ref u), .val (.ref b), .val (.int (Int32.ofNat cs.length)), .val (.int (0 : Int32))] [(.ref u)])
  refine W0.callV me hEL (hw _ (List.mem_of_getElem? (i := 103) rfl)) (hw _ (List.mem_of_getElem? (i := 104) rfl)) (fun hZ' => notFace_of_selects (args := #[]) (mvT (s := s.setVm _) hZ' (hw _ (List.mem_of_getElem? (i := 106) rfl)))) (hw _ (List.mem_of_getElem? (i := 106) rfl)) (hw _ (List.mem_of_getElem? (i := 105) rfl)) (hw _ (List.mem_of_getElem? (i := 6) rfl)) (hw _ (List.mem_of_getElem? (i := 107) rfl)) (a := u) (argsL := []) (rest := []) EX (c_coder (ss := []) g W0.old UC rfl) d_jdk_42_method_147_1 (by decide) (fun _ q => nomatch q) rfl (lenOf pd_4 rfl) (own_le rfl) (own_le rfl) (own_le rfl) (own_le rfl) rfl ?_
  intro T1 h1 v1 W1 z1 q1
  obtain ⟨sf1, X1, _, rfl, rfl, rfl⟩ := q1
  show Fi p e below s Z _ _ _ _ T1 (mkF m 4 #[.val (.ref u), .val (.ref b), .val (.int (Int32.ofNat cs.length)), .val (.int (0 : Int32))] [(.int (0 : Int32))])
  refine W1.iloadN me d_jdk_42_method_147_4 rfl ?_
  show Fi p e below s Z _ _ _ _ T1 (mkF m 5 #[.val (.ref u), .val (.ref b), .val (.int (Int32.ofNat cs.length)), .val (.int (0 : Int32))] [(.int (0 : Int32)), (.int (0 : Int32))])
  refine W1.icN_ne me d_jdk_42_method_147_5 (by decide) ?_
  show Fi p e below s Z _ _ _ _ T1 (mkF m 8 #[.val (.ref u), .val (.ref b), .val (.int (Int32.ofNat cs.length)), .val (.int (0 : Int32))] [])
  refine W1.aloadN me d_jdk_42_method_147_8 rfl rfl ?_
  show Fi p e below s Z _ _ _ _ T1 (mkF m 9 #[.val (.ref u), .val (.ref b), .val (.int (Int32.ofNat cs.length)), .val (.int (0 : Int32))] [(.ref u)])
  refine W1.getF me (hw _ (List.mem_of_getElem? (i := 32) rfl)) UV Via.refl d_jdk_42_method_147_9 ?_
  intro T2 W2
  show Fi p e below s Z _ _ _ _ T2 (mkF m 12 #[.val (.ref u), .val (.ref b), .val (.int (Int32.ofNat cs.length)), .val (.int (0 : Int32))] [(.ref vb)])
  refine W2.iconst me d_jdk_42_method_147_12 (v := 0) rfl ?_
  refine W2.aloadN me d_jdk_42_method_147_13 rfl rfl ?_
  refine W2.iloadN me d_jdk_42_method_147_14 rfl ?_
  refine W2.iloadN me d_jdk_42_method_147_15 rfl ?_
  show Fi p e below s Z _ _ _ _ T2 (mkF m 16 #[.val (.ref u), .val (.ref b), .val (.int (Int32.ofNat cs.length)), .val (.int (0 : Int32))] [(.int (0 : Int32)), (.int (Int32.ofNat cs.length)), (.ref b), (.int (0 : Int32)), (.ref vb)])
  refine W2.ishl me d_jdk_42_method_147_16 ?_
  rw [own_shl0]
  show Fi p e below s Z _ _ _ _ T2 (mkF m 17 #[.val (.ref u), .val (.ref b), .val (.int (Int32.ofNat cs.length)), .val (.int (0 : Int32))] [(.int (Int32.ofNat cs.length)), (.ref b), (.int (0 : Int32)), (.ref vb)])
  refine W2.aloadN me d_jdk_42_method_147_17 rfl rfl ?_
  show Fi p e below s Z _ _ _ _ T2 (mkF m 18 #[.val (.ref u), .val (.ref b), .val (.int (Int32.ofNat cs.length)), .val (.int (0 : Int32))] [(.ref u), (.int (Int32.ofNat cs.length)), (.ref b), (.int (0 : Int32)), (.ref vb)])
  refine W2.getF me (hw _ (List.mem_of_getElem? (i := 32) rfl)) UV Via.refl d_jdk_42_method_147_18 ?_
  intro T3 W3
  show Fi p e below s Z _ _ _ _ T3 (mkF m 21 #[.val (.ref u), .val (.ref b), .val (.int (Int32.ofNat cs.length)), .val (.int (0 : Int32))] [(.ref vb), (.int (Int32.ofNat cs.length)), (.ref b), (.int (0 : Int32)), (.ref vb)])
  refine W3.alen me AU d_jdk_42_method_147_21 ?_
  show Fi p e below s Z _ _ _ _ T3 (mkF m 22 #[.val (.ref u), .val (.ref b), .val (.int (Int32.ofNat cs.length)), .val (.int (0 : Int32))] [(.int (Int32.ofNat ds.length)), (.int (Int32.ofNat cs.length)), (.ref b), (.int (0 : Int32)), (.ref vb)])
  refine W3.acopy me (hw _ (List.mem_of_getElem? (i := 131) rfl)) (hw _ (List.mem_of_getElem? (i := 134) rfl)) (hw _ (List.mem_of_getElem? (i := 132) rfl)) (hw _ (List.mem_of_getElem? (i := 133) rfl)) AU (own_pad AB (N := N)) rfl (Or.inl hS) hz (by decide) (on_nneg (by omega)) (on_nneg (by omega)) (by show 0 + _ ≤ _; omega) (by rw [on_clamp (by omega), on_clamp (by omega), on_clamp (by omega)]; omega) (us := lb ds) (by rw [on_clamp (by omega)]; exact own_all ds) (by rw [on_clamp (by omega), on_clamp (by omega), own_padlen (by rw [lb_len]; omega)]; omega) d_jdk_42_method_147_22 rfl (own_le rfl) (own_le rfl) ?_
  intro T4 h4 W4 K4 A4
  show Fi p e below s Z _ _ _ _ T4 (mkF m 25 #[.val (.ref u), .val (.ref b), .val (.int (Int32.ofNat cs.length)), .val (.int (0 : Int32))] [])
  refine W4.goto me d_jdk_42_method_147_25 (pc' := 43) (by decide) (by decide) ?_
  show Fi p e below s Z _ _ _ _ T4 (mkF m 43 #[.val (.ref u), .val (.ref b), .val (.int (Int32.ofNat cs.length)), .val (.int (0 : Int32))] [])
  have A' : Arv Z h4 b kb .byte (Int32.ofNat N) (lb (cs ++ ds)) (.int 0) := own_laid A4 (by omega) hfit
  exact W4.retU hEL me d_jdk_42_method_147_43 ⟨K4, A'⟩ (by decide) (by decide)

set_option maxRecDepth 65536 in
set_option maxHeartbeats 4000000 in
theorem c_putat {l : Launch} {Z : State} {a0 : Array Value} {kn : Bool} (g : Gl Z a0) {ws : List Cond} {h0 : Heap} {ss : List Addr} (hO : Old Z Z.heap.size h0) {a b : Addr} {cs : List Int32} {cap : Nat} (M : Sbd Z h0 a b cs cap) {u vb : Addr} {ds : List Int32} (L : LatB Z h0 u vb ds) (hfit : cs.length + ds.length ≤ cap) (hS : b ∈ ss) (hz : Z.heap.size ≤ b) :
    Con l Z consts_1 kn ws (⟨"java/lang/AbstractStringBuilder", "putStringAt", "(ILjava/lang/String;)V"⟩ : MethodName) jdk_68_method_73_code 3 none ({ frames := 2, cells := 0, slots := 0, locals := 33 } : Room) #[(.ref a), (.int (Int32.ofNat cs.length)), (.ref u)] h0 ss (rU fun h => Keep h0 h [b] ∧ ∃ k, Arv Z h b k .byte (Int32.ofNat cap) (lb (cs ++ ds)) (.int 0)) := by
  have hw := g.1
  have hEL := g.2.1
  refine Con.of (plainFor_of_name pn_6) hO ?_
  intro p e s m below meth c T0 me W0
  refine Fi.entry (L := #[.val (.ref a), .val (.int (Int32.ofNat cs.length)), .val (.ref u)]) (by first | (simp [entryFrame, mkF, argsToLocals, Value.category, maxLocals]; done) | (simp [entryFrame, mkF, argsToLocals, Value.category]; done) | rfl) ?_
  have M' := M
  obtain ⟨k, EA, FV, FC, FN, AB, EB, hcap, hc20, hC8⟩ := M
  refine W0.aloadN me d_jdk_68_method_73_0 rfl rfl ?_
  refine W0.aloadN me d_jdk_68_method_73_1 rfl rfl ?_
  show Fi p e below s Z _ _ _ _ T0 (mkF m 2 #[.val (.ref a), .val (.int (Int32.ofNat cs.length)), .val (.ref u)] [(.ref u), (.ref a)])
  refine W0.callP me hEL (hw _ (List.mem_of_getElem? (i := 120) rfl)) (hw _ (List.mem_of_getElem? (i := 121) rfl)) (hw _ (List.mem_of_getElem? (i := 122) rfl)) (hw _ (List.mem_of_getElem? (i := 123) rfl)) (hw _ (List.mem_of_getElem? (i := 79) rfl)) (hw _ (List.mem_of_getElem? (i := 124) rfl)) (a := a) (argsL := [(.ref u)]) (rest := []) EA (c_inflif (ss := []) g W0.old M' L.lat) d_jdk_68_method_73_2 (by decide) (fun _ q => nomatch q) rfl (lenOf pd_15 rfl) (own_le rfl) (own_le rfl) (own_le rfl) (own_le rfl) rfl ?_
  intro T1 h1 v1 W1 z1 q1
  obtain ⟨sf1, X1, rfl, rfl⟩ := q1
  show Fi p e below s Z _ _ _ _ T1 (mkF m 5 #[.val (.ref a), .val (.int (Int32.ofNat cs.length)), .val (.ref u)] [])
  refine W1.aloadN me d_jdk_68_method_73_5 rfl rfl ?_
  refine W1.aloadN me d_jdk_68_method_73_6 rfl rfl ?_
  show Fi p e below s Z _ _ _ _ T1 (mkF m 7 #[.val (.ref a), .val (.int (Int32.ofNat cs.length)), .val (.ref u)] [(.ref a), (.ref u)])
  refine W1.getF me (hw _ (List.mem_of_getElem? (i := 83) rfl)) FV Via.refl d_jdk_68_method_73_7 ?_
  intro T2 W2
  show Fi p e below s Z _ _ _ _ T2 (mkF m 10 #[.val (.ref a), .val (.int (Int32.ofNat cs.length)), .val (.ref u)] [(.ref b), (.ref u)])
  refine W2.iloadN me d_jdk_68_method_73_10 rfl ?_
  refine W2.aloadN me d_jdk_68_method_73_11 rfl rfl ?_
  show Fi p e below s Z _ _ _ _ T2 (mkF m 12 #[.val (.ref a), .val (.int (Int32.ofNat cs.length)), .val (.ref u)] [(.ref a), (.int (Int32.ofNat cs.length)), (.ref b), (.ref u)])
  refine W2.getF me (hw _ (List.mem_of_getElem? (i := 85) rfl)) FC Via.refl d_jdk_68_method_73_12 ?_
  intro T3 W3
  show Fi p e below s Z _ _ _ _ T3 (mkF m 15 #[.val (.ref a), .val (.int (Int32.ofNat cs.length)), .val (.ref u)] [(.int (0 : Int32)), (.int (Int32.ofNat cs.length)), (.ref b), (.ref u)])
  refine W3.callV me hEL (hw _ (List.mem_of_getElem? (i := 126) rfl)) (hw _ (List.mem_of_getElem? (i := 127) rfl)) (fun hZ' => notFace_of_selects (args := #[]) (mvT (s := s.setVm _) hZ' (hw _ (List.mem_of_getElem? (i := 129) rfl)))) (hw _ (List.mem_of_getElem? (i := 129) rfl)) (hw _ (List.mem_of_getElem? (i := 128) rfl)) (hw _ (List.mem_of_getElem? (i := 6) rfl)) (hw _ (List.mem_of_getElem? (i := 130) rfl)) (a := u) (argsL := [(.ref b), (.int (Int32.ofNat cs.length)), (.int (0 : Int32))]) (rest := []) L.exa (c_getbytes g W3.old L AB hc20 hfit hS hz) d_jdk_68_method_73_15 (by decide) (fun _ q => q) rfl (lenOf pd_16 rfl) (own_le rfl) (own_le rfl) (own_le rfl) (own_le rfl) rfl ?_
  intro T4 h4 v4 W4 z4 q4
  obtain ⟨sf4, X4, rfl, K4, A4⟩ := q4
  show Fi p e below s Z _ _ _ _ T4 (mkF m 18 #[.val (.ref a), .val (.int (Int32.ofNat cs.length)), .val (.ref u)] [])
  exact W4.retU hEL me d_jdk_68_method_73_18 ⟨K4, k, A4⟩ (by decide) (by decide)

set_option maxRecDepth 65536 in
set_option maxHeartbeats 4000000 in
theorem c_asba0 {l : Launch} {Z : State} {a0 : Array Value} {kn : Bool} (g : Gl Z a0) {ws : List Cond} {h0 : Heap} {ss : List Addr} (hO : Old Z Z.heap.size h0) {a b : Addr} {cs : List Int32} {cap : Nat} (M : Sbd Z h0 a b cs cap) {u vb : Addr} {ds : List Int32} (L : LatB Z h0 u vb ds) (hfit : cs.length + ds.length ≤ cap) (hS : b ∈ ss) (hza : Z.heap.size ≤ a) (hzb : Z.heap.size ≤ b) :
    Con l Z consts_1 kn ws (⟨"java/lang/AbstractStringBuilder", "append", "(Ljava/lang/String;)Ljava/lang/AbstractStringBuilder;"⟩ : MethodName) jdk_68_method_22_code 3 (some (.object "java/lang/AbstractStringBuilder")) ({ frames := 3, cells := 0, slots := 0, locals := 47 } : Room) #[(.ref a), (.ref u)] h0 ss (rV fun v h => Keep h0 h [a, b] ∧ v = .ref a ∧ Sbd Z h a b (cs ++ ds) cap) := by
  have hw := g.1
  have hEL := g.2.1
  refine Con.of (plainFor_of_name pn_6) hO ?_
  intro p e s m below meth c T0 me W0
  refine Fi.entry (L := #[.val (.ref a), .val (.ref u), .unset]) (by first | (simp [entryFrame, mkF, argsToLocals, Value.category, maxLocals]; done) | (simp [entryFrame, mkF, argsToLocals, Value.category]; done) | rfl) ?_
  have n_value_coder : Jvm.RoadKit.slotOf Z "java/lang/AbstractStringBuilder" "value" "[B" ≠ Jvm.RoadKit.slotOf Z "java/lang/AbstractStringBuilder" "coder" "B" := slot_ne (Or.inl (hw _ (List.mem_of_getElem? (i := 84) rfl)) : Laid Z a0 "java/lang/StringBuilder" "java/lang/AbstractStringBuilder" "value" "[B") (Or.inl (hw _ (List.mem_of_getElem? (i := 86) rfl)) : Laid Z a0 "java/lang/StringBuilder" "java/lang/AbstractStringBuilder" "coder" "B") (by decide) (t := .array .byte) (t' := .byte) (by decide) (by decide)
  have n_value_count : Jvm.RoadKit.slotOf Z "java/lang/AbstractStringBuilder" "value" "[B" ≠ Jvm.RoadKit.slotOf Z "java/lang/AbstractStringBuilder" "count" "I" := slot_ne (Or.inl (hw _ (List.mem_of_getElem? (i := 84) rfl)) : Laid Z a0 "java/lang/StringBuilder" "java/lang/AbstractStringBuilder" "value" "[B") (Or.inl (hw _ (List.mem_of_getElem? (i := 109) rfl)) : Laid Z a0 "java/lang/StringBuilder" "java/lang/AbstractStringBuilder" "count" "I") (by decide) (t := .array .byte) (t' := .int) (by decide) (by decide)
  have n_coder_count : Jvm.RoadKit.slotOf Z "java/lang/AbstractStringBuilder" "coder" "B" ≠ Jvm.RoadKit.slotOf Z "java/lang/AbstractStringBuilder" "count" "I" := slot_ne (Or.inl (hw _ (List.mem_of_getElem? (i := 86) rfl)) : Laid Z a0 "java/lang/StringBuilder" "java/lang/AbstractStringBuilder" "coder" "B") (Or.inl (hw _ (List.mem_of_getElem? (i := 109) rfl)) : Laid Z a0 "java/lang/StringBuilder" "java/lang/AbstractStringBuilder" "count" "I") (by decide) (t := .byte) (t' := .int) (by decide) (by decide)
  have hl20 : ds.length < 2 ^ 20 := by obtain ⟨_, _, _, _, _, q, _⟩ := L; exact q
  refine W0.aloadN me d_jdk_68_method_22_0 rfl rfl ?_
  show Fi p e below s Z _ _ _ _ T0 (mkF m 1 #[.val (.ref a), .val (.ref u), .unset] [(.ref u)])
  refine W0.nonnullY me d_jdk_68_method_22_1 (pc' := 9) (by decide) (by decide) ?_
  show Fi p e below s Z _ _ _ _ T0 (mkF m 9 #[.val (.ref a), .val (.ref u), .unset] [])
  refine W0.aloadN me d_jdk_68_method_22_9 rfl rfl ?_
  show Fi p e below s Z _ _ _ _ T0 (mkF m 10 #[.val (.ref a), .val (.ref u), .unset] [(.ref u)])
  refine W0.callV me hEL (hw _ (List.mem_of_getElem? (i := 98) rfl)) (hw _ (List.mem_of_getElem? (i := 99) rfl)) (fun hZ' => notFace_of_selects (args := #[]) (mvT (s := s.setVm _) hZ' (hw _ (List.mem_of_getElem? (i := 101) rfl)))) (hw _ (List.mem_of_getElem? (i := 101) rfl)) (hw _ (List.mem_of_getElem? (i := 100) rfl)) (hw _ (List.mem_of_getElem? (i := 6) rfl)) (hw _ (List.mem_of_getElem? (i := 102) rfl)) (a := u) (argsL := []) (rest := []) L.exa (c_length (ss := []) g W0.old L.lat) d_jdk_68_method_22_10 (by decide) (fun _ q => nomatch q) rfl (lenOf pd_17 rfl) (own_le rfl) (own_le rfl) (own_le rfl) (own_le rfl) rfl ?_
  intro T1 h1 v1 W1 z1 q1
  obtain ⟨sf1, X1, _, rfl, rfl, rfl⟩ := q1
  show Fi p e below s Z _ _ _ _ T1 (mkF m 13 #[.val (.ref a), .val (.ref u), .unset] [(.int (Int32.ofNat ds.length))])
  refine W1.istoreN me d_jdk_68_method_22_13 (l' := #[.val (.ref a), .val (.ref u), .val (.int (Int32.ofNat ds.length))]) rfl ?_
  refine W1.aloadN me d_jdk_68_method_22_14 rfl rfl ?_
  refine W1.aloadN me d_jdk_68_method_22_15 rfl rfl ?_
  show Fi p e below s Z _ _ _ _ T1 (mkF m 16 #[.val (.ref a), .val (.ref u), .val (.int (Int32.ofNat ds.length))] [(.ref a), (.ref a)])
  have M' := M
  obtain ⟨k, EA, FV, FC, FN, AB, EB, hcap, hc20, hC8⟩ := M
  refine W1.getF me (hw _ (List.mem_of_getElem? (i := 108) rfl)) FN Via.refl d_jdk_68_method_22_16 ?_
  intro T2 W2
  show Fi p e below s Z _ _ _ _ T2 (mkF m 19 #[.val (.ref a), .val (.ref u), .val (.int (Int32.ofNat ds.length))] [(.int (Int32.ofNat cs.length)), (.ref a)])
  refine W2.iloadN me d_jdk_68_method_22_19 rfl ?_
  show Fi p e below s Z _ _ _ _ T2 (mkF m 20 #[.val (.ref a), .val (.ref u), .val (.int (Int32.ofNat ds.length))] [(.int (Int32.ofNat ds.length)), (.int (Int32.ofNat cs.length)), (.ref a)])
  refine W2.iadd me d_jdk_68_method_22_20 ?_
  rw [on_add]
  show Fi p e below s Z _ _ _ _ T2 (mkF m 21 #[.val (.ref a), .val (.ref u), .val (.int (Int32.ofNat ds.length))] [(.int (Int32.ofNat (cs.length + ds.length))), (.ref a)])
  refine W2.callP me hEL (hw _ (List.mem_of_getElem? (i := 110) rfl)) (hw _ (List.mem_of_getElem? (i := 111) rfl)) (hw _ (List.mem_of_getElem? (i := 112) rfl)) (hw _ (List.mem_of_getElem? (i := 113) rfl)) (hw _ (List.mem_of_getElem? (i := 79) rfl)) (hw _ (List.mem_of_getElem? (i := 114) rfl)) (a := a) (argsL := [(.int (Int32.ofNat (cs.length + ds.length)))]) (rest := []) EA (c_ens0 (ss := []) g W2.old M' hfit (by omega)) d_jdk_68_method_22_21 (by decide) (fun _ q => nomatch q) rfl (lenOf pd_11 rfl) (own_le rfl) (own_le rfl) (own_le rfl) (own_le rfl) rfl ?_
  intro T3 h3 v3 W3 z3 q3
  obtain ⟨sf3, X3, rfl, rfl⟩ := q3
  show Fi p e below s Z _ _ _ _ T3 (mkF m 24 #[.val (.ref a), .val (.ref u), .val (.int (Int32.ofNat ds.length))] [])
  refine W3.aloadN me d_jdk_68_method_22_24 rfl rfl ?_
  refine W3.aloadN me d_jdk_68_method_22_25 rfl rfl ?_
  show Fi p e below s Z _ _ _ _ T3 (mkF m 26 #[.val (.ref a), .val (.ref u), .val (.int (Int32.ofNat ds.length))] [(.ref a), (.ref a)])
  refine W3.getF me (hw _ (List.mem_of_getElem? (i := 108) rfl)) FN Via.refl d_jdk_68_method_22_26 ?_
  intro T4 W4
  show Fi p e below s Z _ _ _ _ T4 (mkF m 29 #[.val (.ref a), .val (.ref u), .val (.int (Int32.ofNat ds.length))] [(.int (Int32.ofNat cs.length)), (.ref a)])
  refine W4.aloadN me d_jdk_68_method_22_29 rfl rfl ?_
  show Fi p e below s Z _ _ _ _ T4 (mkF m 30 #[.val (.ref a), .val (.ref u), .val (.int (Int32.ofNat ds.length))] [(.ref u), (.int (Int32.ofNat cs.length)), (.ref a)])
  refine W4.callP me hEL (hw _ (List.mem_of_getElem? (i := 115) rfl)) (hw _ (List.mem_of_getElem? (i := 116) rfl)) (hw _ (List.mem_of_getElem? (i := 117) rfl)) (hw _ (List.mem_of_getElem? (i := 118) rfl)) (hw _ (List.mem_of_getElem? (i := 79) rfl)) (hw _ (List.mem_of_getElem? (i := 119) rfl)) (a := a) (argsL := [(.int (Int32.ofNat cs.length)), (.ref u)]) (rest := []) EA (c_putat g W4.old M' L hfit hS hzb) d_jdk_68_method_22_30 (by decide) (fun _ q => q) rfl (lenOf pd_18 rfl) (own_le rfl) (own_le rfl) (own_le rfl) (own_le rfl) rfl ?_
  intro T5 h5 v5 W5 z5 q5
  obtain ⟨sf5, X5, rfl, K5, k5, A5⟩ := q5
  show Fi p e below s Z _ _ _ _ T5 (mkF m 33 #[.val (.ref a), .val (.ref u), .val (.int (Int32.ofNat ds.length))] [])
  have hab : a ≠ b := EA.neArv AB (hw _ (List.mem_of_getElem? (i := 70) rfl))
  have EA2 := EA.keep K5
  have FV2 := FV.keep K5 (ninS hab nin0)
  have FC2 := FC.keep K5 (ninS hab nin0)
  have FN2 := FN.keep K5 (ninS hab nin0)
  refine W5.aloadN me d_jdk_68_method_22_33 rfl rfl ?_
  refine W5.dup me d_jdk_68_method_22_34 rfl ?_
  show Fi p e below s Z _ _ _ _ T5 (mkF m 35 #[.val (.ref a), .val (.ref u), .val (.int (Int32.ofNat ds.length))] [(.ref a), (.ref a)])
  refine W5.getF me (hw _ (List.mem_of_getElem? (i := 108) rfl)) FN2 Via.refl d_jdk_68_method_22_35 ?_
  intro T6 W6
  show Fi p e below s Z _ _ _ _ T6 (mkF m 38 #[.val (.ref a), .val (.ref u), .val (.int (Int32.ofNat ds.length))] [(.int (Int32.ofNat cs.length)), (.ref a)])
  refine W6.iloadN me d_jdk_68_method_22_38 rfl ?_
  show Fi p e below s Z _ _ _ _ T6 (mkF m 39 #[.val (.ref a), .val (.ref u), .val (.int (Int32.ofNat ds.length))] [(.int (Int32.ofNat ds.length)), (.int (Int32.ofNat cs.length)), (.ref a)])
  refine W6.iadd me d_jdk_68_method_22_39 ?_
  rw [on_add]
  show Fi p e below s Z _ _ _ _ T6 (mkF m 40 #[.val (.ref a), .val (.ref u), .val (.int (Int32.ofNat ds.length))] [(.int (Int32.ofNat (cs.length + ds.length))), (.ref a)])
  refine W6.putF me (hw _ (List.mem_of_getElem? (i := 108) rfl)) FN2 Via.refl EA2 (Or.inl (hw _ (List.mem_of_getElem? (i := 109) rfl))) (hw _ (List.mem_of_getElem? (i := 70) rfl)) (ty := .int) (by decide) rfl rfl (Or.inr (Or.inl ⟨"java/lang/StringBuilder", EA2, by decide, by decide⟩)) hza d_jdk_68_method_22_40 ?_
  intro T7 h7 W7 R7
  show Fi p e below s Z _ _ _ _ T7 (mkF m 43 #[.val (.ref a), .val (.ref u), .val (.int (Int32.ofNat ds.length))] [])
  refine W7.aloadN me d_jdk_68_method_22_43 rfl rfl ?_
  show Fi p e below s Z _ _ _ _ T7 (mkF m 44 #[.val (.ref a), .val (.ref u), .val (.int (Int32.ofNat ds.length))] [(.ref a)])
  have hlen : (cs ++ ds).length = cs.length + ds.length := List.length_append
  have S : Sbd Z h7 a b (cs ++ ds) cap := ⟨k5, EA2.wr R7, FV2.other R7 (Or.inr n_value_count), FC2.other R7 (Or.inr n_coder_count), by rw [hlen]; exact FN2.same R7, A5.other R7 hab.symm, (EB.keep K5).wr R7, by rw [hlen]; exact hfit, hc20, hC8.app (by obtain ⟨_, _, _, _, _, _, q⟩ := L; exact q)⟩
  have K : Keep h0 h7 [a, b] := (own_keep1 K5).wr R7 (Or.inl (List.mem_cons_self ..))
  exact W7.retA hEL me d_jdk_68_method_22_44 ⟨K, rfl, S⟩ (by decide) (by decide) rfl rfl rfl

set_option maxRecDepth 65536 in
set_option maxHeartbeats 4000000 in
theorem c_app0 {l : Launch} {Z : State} {a0 : Array Value} {kn : Bool} (g : Gl Z a0) {ws : List Cond} {h0 : Heap} {ss : List Addr} (hO : Old Z Z.heap.size h0) {a b : Addr} {cs : List Int32} {cap : Nat} (M : Sbd Z h0 a b cs cap) {u vb : Addr} {ds : List Int32} (L : LatB Z h0 u vb ds) (hfit : cs.length + ds.length ≤ cap) (hS : b ∈ ss) (hza : Z.heap.size ≤ a) (hzb : Z.heap.size ≤ b) :
    Con l Z consts_1 kn ws (⟨"java/lang/StringBuilder", "append", "(Ljava/lang/String;)Ljava/lang/StringBuilder;"⟩ : MethodName) jdk_67_method_7_code 2 (some (.object "java/lang/StringBuilder")) ({ frames := 4, cells := 0, slots := 0, locals := 61 } : Room) #[(.ref a), (.ref u)] h0 ss (rV fun v h => Keep h0 h [a, b] ∧ v = .ref a ∧ Sbd Z h a b (cs ++ ds) cap) := by
  have hw := g.1
  have hEL := g.2.1
  refine Con.of (plainFor_of_name pn_7) hO ?_
  intro p e s m below meth c T0 me W0
  refine Fi.entry (L := #[.val (.ref a), .val (.ref u)]) (by first | (simp [entryFrame, mkF, argsToLocals, Value.category, maxLocals]; done) | (simp [entryFrame, mkF, argsToLocals, Value.category]; done) | rfl) ?_
  refine W0.aloadN me d_jdk_67_method_7_0 rfl rfl ?_
  refine W0.aloadN me d_jdk_67_method_7_1 rfl rfl ?_
  show Fi p e below s Z _ _ _ _ T0 (mkF m 2 #[.val (.ref a), .val (.ref u)] [(.ref u), (.ref a)])
  refine W0.callU me hEL (hw _ (List.mem_of_getElem? (i := 93) rfl)) (hw _ (List.mem_of_getElem? (i := 94) rfl)) (hw _ (List.mem_of_getElem? (i := 95) rfl)) (hw _ (List.mem_of_getElem? (i := 113) rfl)) rfl (hw _ (List.mem_of_getElem? (i := 79) rfl)) (hw _ (List.mem_of_getElem? (i := 97) rfl)) (by decide) (a := a) (argsL := [(.ref u)]) (rest := []) M.exa (c_asba0 g W0.old M L hfit hS hza hzb) d_jdk_67_method_7_2 (by decide) (fun _ q => q) rfl (lenOf pd_19 rfl) (own_le rfl) (own_le rfl) (own_le rfl) (own_le rfl) rfl ?_
  intro T1 h1 v1 W1 z1 q1
  obtain ⟨sf1, X1, _, rfl, K1, rfl, M1⟩ := q1
  show Fi p e below s Z _ _ _ _ T1 (mkF m 5 #[.val (.ref a), .val (.ref u)] [(.ref a)])
  refine W1.pop me d_jdk_67_method_7_5 rfl ?_
  refine W1.aloadN me d_jdk_67_method_7_6 rfl rfl ?_
  show Fi p e below s Z _ _ _ _ T1 (mkF m 7 #[.val (.ref a), .val (.ref u)] [(.ref a)])
  exact W1.retA hEL me d_jdk_67_method_7_7 ⟨K1, rfl, M1⟩ (by decide) (by decide) rfl rfl rfl

set_option maxRecDepth 65536 in
set_option maxHeartbeats 4000000 in
theorem c_asba1 {l : Launch} {Z : State} {a0 : Array Value} {kn : Bool} (g : Gl Z a0) {ws : List Cond} {h0 : Heap} {ss : List Addr} (hO : Old Z Z.heap.size h0) {a b : Addr} {cs : List Int32} {cap : Nat} (M : Sbd Z h0 a b cs cap) {u vb : Addr} {ds : List Int32} (L : LatB Z h0 u vb ds) (hgr : cap < cs.length + ds.length) (hg2 : cs.length + ds.length ≤ cap + cap + 2) (hc : cap + (cap + 2) ≤ 40) (hza : Z.heap.size ≤ a) :
    Con l Z consts_1 kn ws (⟨"java/lang/AbstractStringBuilder", "append", "(Ljava/lang/String;)Ljava/lang/AbstractStringBuilder;"⟩ : MethodName) jdk_68_method_22_code 3 (some (.object "java/lang/AbstractStringBuilder")) ({ frames := 4, cells := 1, slots := 40, locals := 62 } : Room) #[(.ref a), (.ref u)] h0 ss (rVs fun v h sf => Keep h0 h [a, b] ∧ v = .ref a ∧ ∃ d, h0.size ≤ d ∧ sf d ∧ Sbd Z h a d (cs ++ ds) (cap + (cap + 2))) := by
  have hw := g.1
  have hEL := g.2.1
  refine Con.of (plainFor_of_name pn_6) hO ?_
  intro p e s m below meth c T0 me W0
  refine Fi.entry (L := #[.val (.ref a), .val (.ref u), .unset]) (by first | (simp [entryFrame, mkF, argsToLocals, Value.category, maxLocals]; done) | (simp [entryFrame, mkF, argsToLocals, Value.category]; done) | rfl) ?_
  have n_value_coder : Jvm.RoadKit.slotOf Z "java/lang/AbstractStringBuilder" "value" "[B" ≠ Jvm.RoadKit.slotOf Z "java/lang/AbstractStringBuilder" "coder" "B" := slot_ne (Or.inl (hw _ (List.mem_of_getElem? (i := 84) rfl)) : Laid Z a0 "java/lang/StringBuilder" "java/lang/AbstractStringBuilder" "value" "[B") (Or.inl (hw _ (List.mem_of_getElem? (i := 86) rfl)) : Laid Z a0 "java/lang/StringBuilder" "java/lang/AbstractStringBuilder" "coder" "B") (by decide) (t := .array .byte) (t' := .byte) (by decide) (by decide)
  have n_value_count : Jvm.RoadKit.slotOf Z "java/lang/AbstractStringBuilder" "value" "[B" ≠ Jvm.RoadKit.slotOf Z "java/lang/AbstractStringBuilder" "count" "I" := slot_ne (Or.inl (hw _ (List.mem_of_getElem? (i := 84) rfl)) : Laid Z a0 "java/lang/StringBuilder" "java/lang/AbstractStringBuilder" "value" "[B") (Or.inl (hw _ (List.mem_of_getElem? (i := 109) rfl)) : Laid Z a0 "java/lang/StringBuilder" "java/lang/AbstractStringBuilder" "count" "I") (by decide) (t := .array .byte) (t' := .int) (by decide) (by decide)
  have n_coder_count : Jvm.RoadKit.slotOf Z "java/lang/AbstractStringBuilder" "coder" "B" ≠ Jvm.RoadKit.slotOf Z "java/lang/AbstractStringBuilder" "count" "I" := slot_ne (Or.inl (hw _ (List.mem_of_getElem? (i := 86) rfl)) : Laid Z a0 "java/lang/StringBuilder" "java/lang/AbstractStringBuilder" "coder" "B") (Or.inl (hw _ (List.mem_of_getElem? (i := 109) rfl)) : Laid Z a0 "java/lang/StringBuilder" "java/lang/AbstractStringBuilder" "count" "I") (by decide) (t := .byte) (t' := .int) (by decide) (by decide)
  have hl20 : ds.length < 2 ^ 20 := by obtain ⟨_, _, _, _, _, q, _⟩ := L; exact q
  refine W0.aloadN me d_jdk_68_method_22_0 rfl rfl ?_
  show Fi p e below s Z _ _ _ _ T0 (mkF m 1 #[.val (.ref a), .val (.ref u), .unset] [(.ref u)])
  refine W0.nonnullY me d_jdk_68_method_22_1 (pc' := 9) (by decide) (by decide) ?_
  show Fi p e below s Z _ _ _ _ T0 (mkF m 9 #[.val (.ref a), .val (.ref u), .unset] [])
  refine W0.aloadN me d_jdk_68_method_22_9 rfl rfl ?_
  show Fi p e below s Z _ _ _ _ T0 (mkF m 10 #[.val (.ref a), .val (.ref u), .unset] [(.ref u)])
  refine W0.callV me hEL (hw _ (List.mem_of_getElem? (i := 98) rfl)) (hw _ (List.mem_of_getElem? (i := 99) rfl)) (fun hZ' => notFace_of_selects (args := #[]) (mvT (s := s.setVm _) hZ' (hw _ (List.mem_of_getElem? (i := 101) rfl)))) (hw _ (List.mem_of_getElem? (i := 101) rfl)) (hw _ (List.mem_of_getElem? (i := 100) rfl)) (hw _ (List.mem_of_getElem? (i := 6) rfl)) (hw _ (List.mem_of_getElem? (i := 102) rfl)) (a := u) (argsL := []) (rest := []) L.exa (c_length (ss := []) g W0.old L.lat) d_jdk_68_method_22_10 (by decide) (fun _ q => nomatch q) rfl (lenOf pd_17 rfl) (own_le rfl) (own_le rfl) (own_le rfl) (own_le rfl) rfl ?_
  intro T1 h1 v1 W1 z1 q1
  obtain ⟨sf1, X1, _, rfl, rfl, rfl⟩ := q1
  show Fi p e below s Z _ _ _ _ T1 (mkF m 13 #[.val (.ref a), .val (.ref u), .unset] [(.int (Int32.ofNat ds.length))])
  refine W1.istoreN me d_jdk_68_method_22_13 (l' := #[.val (.ref a), .val (.ref u), .val (.int (Int32.ofNat ds.length))]) rfl ?_
  refine W1.aloadN me d_jdk_68_method_22_14 rfl rfl ?_
  refine W1.aloadN me d_jdk_68_method_22_15 rfl rfl ?_
  show Fi p e below s Z _ _ _ _ T1 (mkF m 16 #[.val (.ref a), .val (.ref u), .val (.int (Int32.ofNat ds.length))] [(.ref a), (.ref a)])
  have M' := M
  obtain ⟨k, EA, FV, FC, FN, AB, EB, hcap, hc20, hC8⟩ := M
  refine W1.getF me (hw _ (List.mem_of_getElem? (i := 108) rfl)) FN Via.refl d_jdk_68_method_22_16 ?_
  intro T2 W2
  show Fi p e below s Z _ _ _ _ T2 (mkF m 19 #[.val (.ref a), .val (.ref u), .val (.int (Int32.ofNat ds.length))] [(.int (Int32.ofNat cs.length)), (.ref a)])
  refine W2.iloadN me d_jdk_68_method_22_19 rfl ?_
  show Fi p e below s Z _ _ _ _ T2 (mkF m 20 #[.val (.ref a), .val (.ref u), .val (.int (Int32.ofNat ds.length))] [(.int (Int32.ofNat ds.length)), (.int (Int32.ofNat cs.length)), (.ref a)])
  refine W2.iadd me d_jdk_68_method_22_20 ?_
  rw [on_add]
  show Fi p e below s Z _ _ _ _ T2 (mkF m 21 #[.val (.ref a), .val (.ref u), .val (.int (Int32.ofNat ds.length))] [(.int (Int32.ofNat (cs.length + ds.length))), (.ref a)])
  refine W2.callP me hEL (hw _ (List.mem_of_getElem? (i := 110) rfl)) (hw _ (List.mem_of_getElem? (i := 111) rfl)) (hw _ (List.mem_of_getElem? (i := 112) rfl)) (hw _ (List.mem_of_getElem? (i := 113) rfl)) (hw _ (List.mem_of_getElem? (i := 79) rfl)) (hw _ (List.mem_of_getElem? (i := 114) rfl)) (a := a) (argsL := [(.int (Int32.ofNat (cs.length + ds.length)))]) (rest := []) EA (c_ens1 (ss := []) g W2.old M' (n := cs.length + ds.length) (by omega) (by omega) hc hza) d_jdk_68_method_22_21 (by decide) (fun _ q => nomatch q) rfl (lenOf pd_11 rfl) (own_le rfl) (own_le rfl) (own_le rfl) (own_le rfl) rfl ?_
  intro T3 h3 v3 W3 z3 q3
  obtain ⟨sf3, X3, rfl, K3, d3, y3, s3, M3⟩ := q3
  show Fi p e below s Z _ _ _ _ T3 (mkF m 24 #[.val (.ref a), .val (.ref u), .val (.int (Int32.ofNat ds.length))] [])
  replace W3 := X3 [d3] (allS s3 all0)
  have hS2 : d3 ∈ [d3] ++ ss := List.mem_cons_self ..
  have hzd : Z.heap.size ≤ d3 := by have := hO.2.1; omega
  have hua : u ≠ a := Exa.ne L.exa EA (by decide)
  have hva : vb ≠ a := by obtain ⟨_, _, _, _, q, _⟩ := L; exact (EA.neArv q (hw _ (List.mem_of_getElem? (i := 70) rfl))).symm
  have L2 := L.keep K3 (ninS hua nin0) (ninS hva nin0)
  have M2 := M3
  obtain ⟨k2, EA2, FV2, FC2, FN2, AB2, EB2, hcap2, hc202, -⟩ := M3
  refine W3.aloadN me d_jdk_68_method_22_24 rfl rfl ?_
  refine W3.aloadN me d_jdk_68_method_22_25 rfl rfl ?_
  show Fi p e below s Z _ _ _ _ T3 (mkF m 26 #[.val (.ref a), .val (.ref u), .val (.int (Int32.ofNat ds.length))] [(.ref a), (.ref a)])
  refine W3.getF me (hw _ (List.mem_of_getElem? (i := 108) rfl)) FN2 Via.refl d_jdk_68_method_22_26 ?_
  intro T4 W4
  show Fi p e below s Z _ _ _ _ T4 (mkF m 29 #[.val (.ref a), .val (.ref u), .val (.int (Int32.ofNat ds.length))] [(.int (Int32.ofNat cs.length)), (.ref a)])
  refine W4.aloadN me d_jdk_68_method_22_29 rfl rfl ?_
  show Fi p e below s Z _ _ _ _ T4 (mkF m 30 #[.val (.ref a), .val (.ref u), .val (.int (Int32.ofNat ds.length))] [(.ref u), (.int (Int32.ofNat cs.length)), (.ref a)])
  refine W4.callP me hEL (hw _ (List.mem_of_getElem? (i := 115) rfl)) (hw _ (List.mem_of_getElem? (i := 116) rfl)) (hw _ (List.mem_of_getElem? (i := 117) rfl)) (hw _ (List.mem_of_getElem? (i := 118) rfl)) (hw _ (List.mem_of_getElem? (i := 79) rfl)) (hw _ (List.mem_of_getElem? (i := 119) rfl)) (a := a) (argsL := [(.int (Int32.ofNat cs.length)), (.ref u)]) (rest := []) EA2 (c_putat g W4.old M2 L2 (by omega) hS2 hzd) d_jdk_68_method_22_30 (by decide) (fun _ q => q) rfl (lenOf pd_18 rfl) (own_le rfl) (own_le rfl) (own_le rfl) (own_le rfl) rfl ?_
  intro T5 h5 v5 W5 z5 q5
  obtain ⟨sf5, X5, rfl, K5, k5, A5⟩ := q5
  show Fi p e below s Z _ _ _ _ T5 (mkF m 33 #[.val (.ref a), .val (.ref u), .val (.int (Int32.ofNat ds.length))] [])
  have hab : a ≠ d3 := EA2.neArv AB2 (hw _ (List.mem_of_getElem? (i := 70) rfl))
  have EA3 := EA2.keep K5
  have FV3 := FV2.keep K5 (ninS hab nin0)
  have FC3 := FC2.keep K5 (ninS hab nin0)
  have FN3 := FN2.keep K5 (ninS hab nin0)
  refine W5.aloadN me d_jdk_68_method_22_33 rfl rfl ?_
  refine W5.dup me d_jdk_68_method_22_34 rfl ?_
  show Fi p e below s Z _ _ _ _ T5 (mkF m 35 #[.val (.ref a), .val (.ref u), .val (.int (Int32.ofNat ds.length))] [(.ref a), (.ref a)])
  refine W5.getF me (hw _ (List.mem_of_getElem? (i := 108) rfl)) FN3 Via.refl d_jdk_68_method_22_35 ?_
  intro T6 W6
  show Fi p e below s Z _ _ _ _ T6 (mkF m 38 #[.val (.ref a), .val (.ref u), .val (.int (Int32.ofNat ds.length))] [(.int (Int32.ofNat cs.length)), (.ref a)])
  refine W6.iloadN me d_jdk_68_method_22_38 rfl ?_
  show Fi p e below s Z _ _ _ _ T6 (mkF m 39 #[.val (.ref a), .val (.ref u), .val (.int (Int32.ofNat ds.length))] [(.int (Int32.ofNat ds.length)), (.int (Int32.ofNat cs.length)), (.ref a)])
  refine W6.iadd me d_jdk_68_method_22_39 ?_
  rw [on_add]
  show Fi p e below s Z _ _ _ _ T6 (mkF m 40 #[.val (.ref a), .val (.ref u), .val (.int (Int32.ofNat ds.length))] [(.int (Int32.ofNat (cs.length + ds.length))), (.ref a)])
  refine W6.putF me (hw _ (List.mem_of_getElem? (i := 108) rfl)) FN3 Via.refl EA3 (Or.inl (hw _ (List.mem_of_getElem? (i := 109) rfl))) (hw _ (List.mem_of_getElem? (i := 70) rfl)) (ty := .int) (by decide) rfl rfl (Or.inr (Or.inl ⟨"java/lang/StringBuilder", EA3, by decide, by decide⟩)) hza d_jdk_68_method_22_40 ?_
  intro T7 h7 W7 R7
  show Fi p e below s Z _ _ _ _ T7 (mkF m 43 #[.val (.ref a), .val (.ref u), .val (.int (Int32.ofNat ds.length))] [])
  refine W7.aloadN me d_jdk_68_method_22_43 rfl rfl ?_
  show Fi p e below s Z _ _ _ _ T7 (mkF m 44 #[.val (.ref a), .val (.ref u), .val (.int (Int32.ofNat ds.length))] [(.ref a)])
  have hlen : (cs ++ ds).length = cs.length + ds.length := List.length_append
  have S : Sbd Z h7 a d3 (cs ++ ds) (cap + (cap + 2)) := ⟨k5, EA3.wr R7, FV3.other R7 (Or.inr n_value_count), FC3.other R7 (Or.inr n_coder_count), by rw [hlen]; exact FN3.same R7, A5.other R7 hab.symm, (EB2.keep K5).wr R7, by rw [hlen]; omega, hc202, hC8.app (by obtain ⟨_, _, _, _, _, _, q⟩ := L; exact q)⟩
  have K : Keep h0 h7 [a, b] := own_keep2 K3 K5 R7 y3
  exact W7.retAs hEL me d_jdk_68_method_22_44 (fun sf q => ⟨K, rfl, d3, y3, q _ (List.mem_cons_self ..), S⟩) (by decide) (by decide) rfl rfl rfl

set_option maxRecDepth 65536 in
set_option maxHeartbeats 4000000 in
theorem c_app1 {l : Launch} {Z : State} {a0 : Array Value} {kn : Bool} (g : Gl Z a0) {ws : List Cond} {h0 : Heap} {ss : List Addr} (hO : Old Z Z.heap.size h0) {a b : Addr} {cs : List Int32} {cap : Nat} (M : Sbd Z h0 a b cs cap) {u vb : Addr} {ds : List Int32} (L : LatB Z h0 u vb ds) (hgr : cap < cs.length + ds.length) (hg2 : cs.length + ds.length ≤ cap + cap + 2) (hc : cap + (cap + 2) ≤ 40) (hza : Z.heap.size ≤ a) :
    Con l Z consts_1 kn ws (⟨"java/lang/StringBuilder", "append", "(Ljava/lang/String;)Ljava/lang/StringBuilder;"⟩ : MethodName) jdk_67_method_7_code 2 (some (.object "java/lang/StringBuilder")) ({ frames := 5, cells := 1, slots := 40, locals := 76 } : Room) #[(.ref a), (.ref u)] h0 ss (rVs fun v h sf => Keep h0 h [a, b] ∧ v = .ref a ∧ ∃ d, h0.size ≤ d ∧ sf d ∧ Sbd Z h a d (cs ++ ds) (cap + (cap + 2))) := by
  have hw := g.1
  have hEL := g.2.1
  refine Con.of (plainFor_of_name pn_7) hO ?_
  intro p e s m below meth c T0 me W0
  refine Fi.entry (L := #[.val (.ref a), .val (.ref u)]) (by first | (simp [entryFrame, mkF, argsToLocals, Value.category, maxLocals]; done) | (simp [entryFrame, mkF, argsToLocals, Value.category]; done) | rfl) ?_
  refine W0.aloadN me d_jdk_67_method_7_0 rfl rfl ?_
  refine W0.aloadN me d_jdk_67_method_7_1 rfl rfl ?_
  show Fi p e below s Z _ _ _ _ T0 (mkF m 2 #[.val (.ref a), .val (.ref u)] [(.ref u), (.ref a)])
  refine W0.callU me hEL (hw _ (List.mem_of_getElem? (i := 93) rfl)) (hw _ (List.mem_of_getElem? (i := 94) rfl)) (hw _ (List.mem_of_getElem? (i := 95) rfl)) (hw _ (List.mem_of_getElem? (i := 113) rfl)) rfl (hw _ (List.mem_of_getElem? (i := 79) rfl)) (hw _ (List.mem_of_getElem? (i := 97) rfl)) (by decide) (a := a) (argsL := [(.ref u)]) (rest := []) M.exa (c_asba1 (ss := []) g W0.old M L hgr hg2 hc hza) d_jdk_67_method_7_2 (by decide) (fun _ q => nomatch q) rfl (lenOf pd_19 rfl) (own_le rfl) (own_le rfl) (own_le rfl) (own_le rfl) rfl ?_
  intro T1 h1 v1 W1 z1 q1
  obtain ⟨sf1, X1, _, rfl, K1, rfl, d1, y1, s1, M1⟩ := q1
  show Fi p e below s Z _ _ _ _ T1 (mkF m 5 #[.val (.ref a), .val (.ref u)] [(.ref a)])
  refine W1.pop me d_jdk_67_method_7_5 rfl ?_
  refine W1.aloadN me d_jdk_67_method_7_6 rfl rfl ?_
  show Fi p e below s Z _ _ _ _ T1 (mkF m 7 #[.val (.ref a), .val (.ref u)] [(.ref a)])
  exact (X1 [d1] (allS s1 all0)).retAs hEL me d_jdk_67_method_7_7 (fun sf q => ⟨K1, rfl, d1, y1, q _ (List.mem_cons_self ..), M1⟩) (by decide) (by decide) rfl rfl rfl

set_option maxRecDepth 65536 in
set_option maxHeartbeats 4000000 in
theorem c_getval {l : Launch} {Z : State} {a0 : Array Value} {kn : Bool} (g : Gl Z a0) {ws : List Cond} {h0 : Heap} {ss : List Addr} (hO : Old Z Z.heap.size h0) {a b : Addr} {cs : List Int32} {cap : Nat} (M : Sbd Z h0 a b cs cap) :
    Con l Z consts_1 kn ws (⟨"java/lang/AbstractStringBuilder", "getValue", "()[B"⟩ : MethodName) jdk_68_method_64_code 1 (some (.array .byte)) ({ frames := 0, cells := 0, slots := 0, locals := 0 } : Room) #[(.ref a)] h0 ss (rV fun v h => h0 = h ∧ v = (.ref b)) := by
  have hw := g.1
  have hEL := g.2.1
  refine Con.of (plainFor_of_name pn_6) hO ?_
  intro p e s m below meth c T0 me W0
  refine Fi.entry (L := #[.val (.ref a)]) (by first | (simp [entryFrame, mkF, argsToLocals, Value.category, maxLocals]; done) | (simp [entryFrame, mkF, argsToLocals, Value.category]; done) | rfl) ?_
  obtain ⟨k, EA, FV, FC, FN, AB, EB, hcap, hc20, hC8⟩ := M
  refine W0.aloadN me d_jdk_68_method_64_0 rfl rfl ?_
  show Fi p e below s Z _ _ _ _ T0 (mkF m 1 #[.val (.ref a)] [(.ref a)])
  refine W0.getF me (hw _ (List.mem_of_getElem? (i := 83) rfl)) FV Via.refl d_jdk_68_method_64_1 ?_
  intro T1 W1
  show Fi p e below s Z _ _ _ _ T1 (mkF m 4 #[.val (.ref a)] [(.ref b)])
  exact W1.retA hEL me d_jdk_68_method_64_4 ⟨rfl, rfl⟩ (by decide) (by decide) rfl rfl rfl

set_option maxRecDepth 65536 in
set_option maxHeartbeats 4000000 in
theorem c_asblen {l : Launch} {Z : State} {a0 : Array Value} {kn : Bool} (g : Gl Z a0) {ws : List Cond} {h0 : Heap} {ss : List Addr} (hO : Old Z Z.heap.size h0) {a b : Addr} {cs : List Int32} {cap : Nat} (M : Sbd Z h0 a b cs cap) :
    Con l Z consts_1 kn ws (⟨"java/lang/AbstractStringBuilder", "length", "()I"⟩ : MethodName) jdk_68_method_6_code 1 (some .int) ({ frames := 0, cells := 0, slots := 0, locals := 0 } : Room) #[(.ref a)] h0 ss (rV fun v h => h0 = h ∧ v = (.int (Int32.ofNat cs.length))) := by
  have hw := g.1
  have hEL := g.2.1
  refine Con.of (plainFor_of_name pn_6) hO ?_
  intro p e s m below meth c T0 me W0
  refine Fi.entry (L := #[.val (.ref a)]) (by first | (simp [entryFrame, mkF, argsToLocals, Value.category, maxLocals]; done) | (simp [entryFrame, mkF, argsToLocals, Value.category]; done) | rfl) ?_
  obtain ⟨k, EA, FV, FC, FN, AB, EB, hcap, hc20, hC8⟩ := M
  refine W0.aloadN me d_jdk_68_method_6_0 rfl rfl ?_
  show Fi p e below s Z _ _ _ _ T0 (mkF m 1 #[.val (.ref a)] [(.ref a)])
  refine W0.getF me (hw _ (List.mem_of_getElem? (i := 108) rfl)) FN Via.refl d_jdk_68_method_6_1 ?_
  intro T1 W1
  show Fi p e below s Z _ _ _ _ T1 (mkF m 4 #[.val (.ref a)] [(.int (Int32.ofNat cs.length))])
  exact W1.retI hEL me d_jdk_68_method_6_4 ⟨rfl, rfl⟩ (by decide) (by decide)

set_option maxRecDepth 65536 in
set_option maxHeartbeats 4000000 in
theorem c_sblen {l : Launch} {Z : State} {a0 : Array Value} {kn : Bool} (g : Gl Z a0) {ws : List Cond} {h0 : Heap} {ss : List Addr} (hO : Old Z Z.heap.size h0) {a b : Addr} {cs : List Int32} {cap : Nat} (M : Sbd Z h0 a b cs cap) :
    Con l Z consts_1 kn ws (⟨"java/lang/StringBuilder", "length", "()I"⟩ : MethodName) jdk_67_method_93_code 1 (some .int) ({ frames := 1, cells := 0, slots := 0, locals := 12 } : Room) #[(.ref a)] h0 ss (rV fun v h => h0 = h ∧ v = .int (Int32.ofNat cs.length)) := by
  have hw := g.1
  have hEL := g.2.1
  refine Con.of (plainFor_of_name pn_7) hO ?_
  intro p e s m below meth c T0 me W0
  refine Fi.entry (L := #[.val (.ref a)]) (by first | (simp [entryFrame, mkF, argsToLocals, Value.category, maxLocals]; done) | (simp [entryFrame, mkF, argsToLocals, Value.category]; done) | rfl) ?_
  refine W0.aloadN me d_jdk_67_method_93_0 rfl rfl ?_
  show Fi p e below s Z _ _ _ _ T0 (mkF m 1 #[.val (.ref a)] [(.ref a)])
  refine W0.callU me hEL (hw _ (List.mem_of_getElem? (i := 183) rfl)) (hw _ (List.mem_of_getElem? (i := 179) rfl)) (hw _ (List.mem_of_getElem? (i := 95) rfl)) (hw _ (List.mem_of_getElem? (i := 113) rfl)) rfl (hw _ (List.mem_of_getElem? (i := 79) rfl)) (hw _ (List.mem_of_getElem? (i := 184) rfl)) (by decide) (a := a) (argsL := []) (rest := []) M.exa (c_asblen (ss := []) g W0.old M) d_jdk_67_method_93_1 (by decide) (fun _ q => nomatch q) rfl (lenOf pd_17 rfl) (own_le rfl) (own_le rfl) (own_le rfl) (own_le rfl) rfl ?_
  intro T1 h1 v1 W1 z1 q1
  obtain ⟨sf1, X1, _, rfl, rfl, rfl⟩ := q1
  show Fi p e below s Z _ _ _ _ T1 (mkF m 4 #[.val (.ref a)] [(.int (Int32.ofNat cs.length))])
  exact W1.retI hEL me d_jdk_67_method_93_4 ⟨rfl, rfl⟩ (by decide) (by decide)

set_option maxRecDepth 65536 in
set_option maxHeartbeats 4000000 in
theorem c_asblat {l : Launch} {Z : State} {a0 : Array Value} {kn : Bool} (g : Gl Z a0) {ws : List Cond} {h0 : Heap} {ss : List Addr} (hO : Old Z Z.heap.size h0) {a b : Addr} {cs : List Int32} {cap : Nat} (M : Sbd Z h0 a b cs cap) :
    Con l Z consts_1 kn ws (⟨"java/lang/AbstractStringBuilder", "isLatin1", "()Z"⟩ : MethodName) jdk_68_method_68_code 1 (some .boolean) ({ frames := 0, cells := 0, slots := 0, locals := 0 } : Room) #[(.ref a)] h0 ss (rV fun v h => h0 = h ∧ v = .int 1) := by
  have hw := g.1
  have hEL := g.2.1
  refine Con.of (plainFor_of_name pn_6) hO ?_
  intro p e s m below meth c T0 me W0
  refine Fi.entry (L := #[.val (.ref a)]) (by first | (simp [entryFrame, mkF, argsToLocals, Value.category, maxLocals]; done) | (simp [entryFrame, mkF, argsToLocals, Value.category]; done) | rfl) ?_
  obtain ⟨k, EA, FV, FC, FN, AB, EB, hcap, hc20, hC8⟩ := M
  obtain ⟨G, O2, P2⟩ := g.2.2.1
  refine W0.getS me (hw _ (List.mem_of_getElem? (i := 82) rfl)) O2 Via.refl d_jdk_68_method_68_0 ?_
  intro T1 W1
  show Fi p e below s Z _ _ _ _ T1 (mkF m 3 #[.val (.ref a)] [(.int G)])
  refine W1.ifN_eq me d_jdk_68_method_68_3 P2 ?_
  refine W1.aloadN me d_jdk_68_method_68_6 rfl rfl ?_
  show Fi p e below s Z _ _ _ _ T1 (mkF m 7 #[.val (.ref a)] [(.ref a)])
  refine W1.getF me (hw _ (List.mem_of_getElem? (i := 85) rfl)) FC Via.refl d_jdk_68_method_68_7 ?_
  intro T2 W2
  show Fi p e below s Z _ _ _ _ T2 (mkF m 10 #[.val (.ref a)] [(.int (0 : Int32))])
  show Fi p e below s Z _ _ _ _ T2 (mkF m 10 #[.val (.ref a)] [(.int (0 : Int32))])
  refine W2.ifN_ne me d_jdk_68_method_68_10 (by decide) ?_
  show Fi p e below s Z _ _ _ _ T2 (mkF m 13 #[.val (.ref a)] [])
  refine W2.iconst me d_jdk_68_method_68_13 (v := 1) rfl ?_
  refine W2.goto me d_jdk_68_method_68_14 (pc' := 18) (by decide) (by decide) ?_
  show Fi p e below s Z _ _ _ _ T2 (mkF m 18 #[.val (.ref a)] [(.int (1 : Int32))])
  exact W2.retN hEL me (Or.inl rfl) d_jdk_68_method_68_18 ⟨rfl, rfl⟩ (by decide) (by decide)

set_option maxRecDepth 65536 in
set_option maxHeartbeats 4000000 in
theorem c_init150 {l : Launch} {Z : State} {a0 : Array Value} {kn : Bool} (g : Gl Z a0) {ws : List Cond} {h0 : Heap} {ss : List Addr} (hO : Old Z Z.heap.size h0) {a b : Addr} {cs : List Int32} {cap : Nat} (M : Sbd Z h0 a b cs cap) {x : Addr} {vv vc : Value} (EX : Exa Z h0 x "java/lang/String") (XV : Fld Z h0 x "java/lang/String" "value" "[B" vv) (XC : Fld Z h0 x "java/lang/String" "coder" "B" vc) (hS : x ∈ ss) (hz : Z.heap.size ≤ x) (hle : cs.length ≤ 40) (hlt : cs.length < cap) :
    Con l Z consts_1 kn ws (⟨"java/lang/String", "<init>", "(Ljava/lang/AbstractStringBuilder;Ljava/lang/Void;)V"⟩ : MethodName) jdk_42_method_150_code 5 none ({ frames := 3, cells := 1, slots := 40, locals := 49 } : Room) #[(.ref x), (.ref a), .null] h0 ss (rU fun h => Keep h0 h [x] ∧ Lat Z h x cs) := by
  have hw := g.1
  have hEL := g.2.1
  refine Con.of (plainFor_of_name pn_1) hO ?_
  intro p e s m below meth c T0 me W0
  refine Fi.entry (L := #[.val (.ref x), .val (.ref a), .val .null, .unset, .unset]) (by first | (simp [entryFrame, mkF, argsToLocals, Value.category, maxLocals]; done) | (simp [entryFrame, mkF, argsToLocals, Value.category]; done) | rfl) ?_
  have hLV : Laid Z a0 "java/lang/String" "java/lang/String" "value" "[B" := Or.inr (hw _ (List.mem_of_getElem? (i := 33) rfl))
  have hLC : Laid Z a0 "java/lang/String" "java/lang/String" "coder" "B" := Or.inr (hw _ (List.mem_of_getElem? (i := 31) rfl))
  have hvc : Jvm.RoadKit.slotOf Z "java/lang/String" "value" "[B" ≠ Jvm.RoadKit.slotOf Z "java/lang/String" "coder" "B" := slot_ne hLV hLC (by decide) (t := .array .byte) (t' := .byte) (by decide) (by decide)
  have hxlt := own_lt EX.lt
  refine W0.aloadN me d_jdk_42_method_150_0 rfl rfl ?_
  show Fi p e below s Z _ _ _ _ T0 (mkF m 1 #[.val (.ref x), .val (.ref a), .val .null, .unset, .unset] [(.ref x)])
  refine W0.initO me (hw _ (List.mem_of_getElem? (i := 15) rfl)) (hw _ (List.mem_of_getElem? (i := 16) rfl)) (hw _ (List.mem_of_getElem? (i := 17) rfl)) d_jdk_42_method_150_1 rfl (own_le rfl) (own_le rfl) ?_
  intro T1 W1
  show Fi p e below s Z _ _ _ _ T1 (mkF m 4 #[.val (.ref x), .val (.ref a), .val .null, .unset, .unset] [])
  refine W1.aloadN me d_jdk_42_method_150_4 rfl rfl ?_
  show Fi p e below s Z _ _ _ _ T1 (mkF m 5 #[.val (.ref x), .val (.ref a), .val .null, .unset, .unset] [(.ref a)])
  refine W1.callV me hEL (hw _ (List.mem_of_getElem? (i := 172) rfl)) (hw _ (List.mem_of_getElem? (i := 173) rfl)) (fun hZ' => notFace_of_selects (args := #[]) (mvT (s := s.setVm _) hZ' (hw _ (List.mem_of_getElem? (i := 175) rfl)))) (hw _ (List.mem_of_getElem? (i := 175) rfl)) (hw _ (List.mem_of_getElem? (i := 174) rfl)) (hw _ (List.mem_of_getElem? (i := 79) rfl)) (hw _ (List.mem_of_getElem? (i := 176) rfl)) (a := a) (argsL := []) (rest := []) M.exa (c_getval (ss := []) g W1.old M) d_jdk_42_method_150_5 (by decide) (fun _ q => nomatch q) rfl (lenOf pd_20 rfl) (own_le rfl) (own_le rfl) (own_le rfl) (own_le rfl) rfl ?_
  intro T2 h2 v2 W2 z2 q2
  obtain ⟨sf2, X2, _, rfl, rfl, rfl⟩ := q2
  show Fi p e below s Z _ _ _ _ T2 (mkF m 8 #[.val (.ref x), .val (.ref a), .val .null, .unset, .unset] [(.ref b)])
  refine W2.astoreN me d_jdk_42_method_150_8 (l' := #[.val (.ref x), .val (.ref a), .val .null, .val (.ref b), .unset]) rfl rfl ?_
  refine W2.aloadN me d_jdk_42_method_150_9 rfl rfl ?_
  show Fi p e below s Z _ _ _ _ T2 (mkF m 10 #[.val (.ref x), .val (.ref a), .val .null, .val (.ref b), .unset] [(.ref a)])
  refine W2.callV me hEL (hw _ (List.mem_of_getElem? (i := 177) rfl)) (hw _ (List.mem_of_getElem? (i := 178) rfl)) (fun hZ' => nf_of_sel (y' := ⟨"java/lang/AbstractStringBuilder", "length", "()I"⟩) (hw _ (List.mem_of_getElem? (i := 113) rfl)) rfl hZ') (hw _ (List.mem_of_getElem? (i := 180) rfl)) (hw _ (List.mem_of_getElem? (i := 181) rfl)) (hw _ (List.mem_of_getElem? (i := 71) rfl)) (hw _ (List.mem_of_getElem? (i := 182) rfl)) (a := a) (argsL := []) (rest := []) M.exa (c_sblen (ss := []) g W2.old M) d_jdk_42_method_150_10 (by decide) (fun _ q => nomatch q) rfl (lenOf pd_17 rfl) (own_le rfl) (own_le rfl) (own_le rfl) (own_le rfl) rfl ?_
  intro T3 h3 v3 W3 z3 q3
  obtain ⟨sf3, X3, _, rfl, rfl, rfl⟩ := q3
  show Fi p e below s Z _ _ _ _ T3 (mkF m 13 #[.val (.ref x), .val (.ref a), .val .null, .val (.ref b), .unset] [(.int (Int32.ofNat cs.length))])
  refine W3.istore me d_jdk_42_method_150_13 (l' := #[.val (.ref x), .val (.ref a), .val .null, .val (.ref b), .val (.int (Int32.ofNat cs.length))]) rfl ?_
  refine W3.aloadN me d_jdk_42_method_150_15 rfl rfl ?_
  show Fi p e below s Z _ _ _ _ T3 (mkF m 16 #[.val (.ref x), .val (.ref a), .val .null, .val (.ref b), .val (.int (Int32.ofNat cs.length))] [(.ref a)])
  refine W3.callV me hEL (hw _ (List.mem_of_getElem? (i := 185) rfl)) (hw _ (List.mem_of_getElem? (i := 186) rfl)) (fun hZ' => notFace_of_selects (args := #[]) (mvT (s := s.setVm _) hZ' (hw _ (List.mem_of_getElem? (i := 188) rfl)))) (hw _ (List.mem_of_getElem? (i := 188) rfl)) (hw _ (List.mem_of_getElem? (i := 187) rfl)) (hw _ (List.mem_of_getElem? (i := 79) rfl)) (hw _ (List.mem_of_getElem? (i := 189) rfl)) (a := a) (argsL := []) (rest := []) M.exa (c_asblat (ss := []) g W3.old M) d_jdk_42_method_150_16 (by decide) (fun _ q => nomatch q) rfl (lenOf pd_7 rfl) (own_le rfl) (own_le rfl) (own_le rfl) (own_le rfl) rfl ?_
  intro T4 h4 v4 W4 z4 q4
  obtain ⟨sf4, X4, _, rfl, rfl, rfl⟩ := q4
  show Fi p e below s Z _ _ _ _ T4 (mkF m 19 #[.val (.ref x), .val (.ref a), .val .null, .val (.ref b), .val (.int (Int32.ofNat cs.length))] [(.int (1 : Int32))])
  show Fi p e below s Z _ _ _ _ T4 (mkF m 19 #[.val (.ref x), .val (.ref a), .val .null, .val (.ref b), .val (.int (Int32.ofNat cs.length))] [(.int (1 : Int32))])
  refine W4.ifN_eq me d_jdk_42_method_150_19 (by decide) ?_
  show Fi p e below s Z _ _ _ _ T4 (mkF m 22 #[.val (.ref x), .val (.ref a), .val .null, .val (.ref b), .val (.int (Int32.ofNat cs.length))] [])
  refine W4.aloadN me d_jdk_42_method_150_22 rfl rfl ?_
  refine W4.iconst me d_jdk_42_method_150_23 (v := 0) rfl ?_
  show Fi p e below s Z _ _ _ _ T4 (mkF m 24 #[.val (.ref x), .val (.ref a), .val .null, .val (.ref b), .val (.int (Int32.ofNat cs.length))] [(.int (0 : Int32)), (.ref x)])
  have M' := M
  obtain ⟨k, EA, FV, FC, FN, AB, EB, hcap, hc20, hC8⟩ := M
  refine W4.putF me (hw _ (List.mem_of_getElem? (i := 30) rfl)) XC Via.refl EX (Or.inr ⟨(hw _ (List.mem_of_getElem? (i := 31) rfl)), rfl, rfl⟩) (hw _ (List.mem_of_getElem? (i := 5) rfl)) (ty := .byte) (by decide) rfl rfl (Or.inl hS) hz d_jdk_42_method_150_24 ?_
  intro T5 h5 W5 R5
  show Fi p e below s Z _ _ _ _ T5 (mkF m 27 #[.val (.ref x), .val (.ref a), .val .null, .val (.ref b), .val (.int (Int32.ofNat cs.length))] [])
  refine W5.aloadN me d_jdk_42_method_150_27 rfl rfl ?_
  refine W5.aloadN me d_jdk_42_method_150_28 rfl rfl ?_
  refine W5.iconst me d_jdk_42_method_150_29 (v := 0) rfl ?_
  refine W5.iload me d_jdk_42_method_150_30 rfl ?_
  show Fi p e below s Z _ _ _ _ T5 (mkF m 32 #[.val (.ref x), .val (.ref a), .val .null, .val (.ref b), .val (.int (Int32.ofNat cs.length))] [(.int (Int32.ofNat cs.length)), (.int (0 : Int32)), (.ref b), (.ref x)])
  have hbx : b ≠ x := (EX.neArv AB (hw _ (List.mem_of_getElem? (i := 5) rfl))).symm
  have AB2 := AB.other R5 hbx
  have EB2 := EB.wr R5
  have hfull : cs.length ≠ cap := by omega
  have hsub : sub cs 0 cs.length = cs := sub_all cs
  refine W5.callS me hEL (hw _ (List.mem_of_getElem? (i := 190) rfl)) (hw _ (List.mem_of_getElem? (i := 191) rfl)) (hw _ (List.mem_of_getElem? (i := 153) rfl)) (hw _ (List.mem_of_getElem? (i := 192) rfl)) (argsL := [(.ref b), (.int (0 : Int32)), (.int (Int32.ofNat cs.length))]) (rest := [(.ref x)]) (c_cr (ss := []) g W5.old (f := 0) (n := cs.length) (t := cs.length) (Nat.zero_add _).symm AB2 hc20 hcap (by omega) (by omega) (Or.inr (by omega))) d_jdk_42_method_150_32 (by decide) (fun _ q => nomatch q) rfl (lenOf pd_10 rfl) (own_le rfl) (own_le rfl) (own_le rfl) (own_le rfl) rfl ?_
  intro T6 h6 v6 W6 z6 q6
  obtain ⟨sf6, X6, _, rfl, E6, d6, k6, rfl, y6, A6⟩ := q6
  show Fi p e below s Z _ _ _ _ T6 (mkF m 35 #[.val (.ref x), .val (.ref a), .val .null, .val (.ref b), .val (.int (Int32.ofNat cs.length))] [(.ref d6), (.ref x)])
  rw [hsub] at A6
  refine W6.putF me (hw _ (List.mem_of_getElem? (i := 32) rfl)) ((XV.other R5 (Or.inr hvc)).ext E6) Via.refl ((EX.wr R5).ext E6) (Or.inr ⟨(hw _ (List.mem_of_getElem? (i := 33) rfl)), rfl, rfl⟩) (hw _ (List.mem_of_getElem? (i := 5) rfl)) (ty := (.array .byte)) (by decide) rfl rfl (Or.inl hS) hz d_jdk_42_method_150_35 ?_
  intro T7 h7 W7 R7
  show Fi p e below s Z _ _ _ _ T7 (mkF m 38 #[.val (.ref x), .val (.ref a), .val .null, .val (.ref b), .val (.int (Int32.ofNat cs.length))] [])
  refine W7.goto me d_jdk_42_method_150_38 (pc' := 97) (by decide) (by decide) ?_
  show Fi p e below s Z _ _ _ _ T7 (mkF m 97 #[.val (.ref x), .val (.ref a), .val .null, .val (.ref b), .val (.int (Int32.ofNat cs.length))] [])
  have hs5 : h0.size = h5.size := R5.size.symm
  have hdx : d6 ≠ x := own_en (by omega)
  have K : Keep h0 h7 [x] := (((Keep.refl _ [x]).wr R5 (Or.inl (List.mem_singleton.mpr rfl))).ext E6).wr R7 (Or.inl (List.mem_singleton.mpr rfl))
  exact W7.retU hEL me d_jdk_42_method_150_97 ⟨K, d6, k6, ((EX.wr R5).ext E6).wr R7, ((XC.same R5).ext E6).other R7 (Or.inr hvc.symm), ((XV.other R5 (Or.inr hvc)).ext E6).same R7, A6.other R7 hdx, by omega, hC8⟩ (by decide) (by decide)

set_option maxRecDepth 65536 in
set_option maxHeartbeats 4000000 in
theorem c_init53 {l : Launch} {Z : State} {a0 : Array Value} {kn : Bool} (g : Gl Z a0) {ws : List Cond} {h0 : Heap} {ss : List Addr} (hO : Old Z Z.heap.size h0) {a b : Addr} {cs : List Int32} {cap : Nat} (M : Sbd Z h0 a b cs cap) {x : Addr} {vv vc : Value} (EX : Exa Z h0 x "java/lang/String") (XV : Fld Z h0 x "java/lang/String" "value" "[B" vv) (XC : Fld Z h0 x "java/lang/String" "coder" "B" vc) (hS : x ∈ ss) (hz : Z.heap.size ≤ x) (hle : cs.length ≤ 40) (hlt : cs.length < cap) :
    Con l Z consts_1 kn ws (⟨"java/lang/String", "<init>", "(Ljava/lang/StringBuilder;)V"⟩ : MethodName) jdk_42_method_53_code 2 none ({ frames := 4, cells := 1, slots := 40, locals := 65 } : Room) #[(.ref x), (.ref a)] h0 ss (rU fun h => Keep h0 h [x] ∧ Lat Z h x cs) := by
  have hw := g.1
  have hEL := g.2.1
  refine Con.of (plainFor_of_name pn_1) hO ?_
  intro p e s m below meth c T0 me W0
  refine Fi.entry (L := #[.val (.ref x), .val (.ref a)]) (by first | (simp [entryFrame, mkF, argsToLocals, Value.category, maxLocals]; done) | (simp [entryFrame, mkF, argsToLocals, Value.category]; done) | rfl) ?_
  refine W0.aloadN me d_jdk_42_method_53_0 rfl rfl ?_
  refine W0.aloadN me d_jdk_42_method_53_1 rfl rfl ?_
  refine W0.aconstNull me d_jdk_42_method_53_2 ?_
  show Fi p e below s Z _ _ _ _ T0 (mkF m 3 #[.val (.ref x), .val (.ref a)] [.null, (.ref a), (.ref x)])
  refine W0.callI me hEL (hw _ (List.mem_of_getElem? (i := 169) rfl)) (hw _ (List.mem_of_getElem? (i := 170) rfl)) (hw _ (List.mem_of_getElem? (i := 6) rfl)) (hw _ (List.mem_of_getElem? (i := 171) rfl)) rfl (a := x) (argsL := [(.ref a), .null]) (rest := []) (c_init150 g W0.old M EX XV XC hS hz hle hlt) d_jdk_42_method_53_3 (by decide) (fun _ q => q) rfl (lenOf pd_21 rfl) (own_le rfl) (own_le rfl) (own_le rfl) (own_le rfl) rfl ?_
  intro T1 h1 v1 W1 z1 q1
  obtain ⟨sf1, X1, rfl, K1, L1⟩ := q1
  show Fi p e below s Z _ _ _ _ T1 (mkF m 6 #[.val (.ref x), .val (.ref a)] [])
  exact W1.retU hEL me d_jdk_42_method_53_6 ⟨K1, L1⟩ (by decide) (by decide)

set_option maxRecDepth 65536 in
set_option maxHeartbeats 4000000 in
theorem c_tostr {l : Launch} {Z : State} {a0 : Array Value} {kn : Bool} (g : Gl Z a0) {ws : List Cond} {h0 : Heap} {ss : List Addr} (hO : Old Z Z.heap.size h0) {a b : Addr} {cs : List Int32} {cap : Nat} (M : Sbd Z h0 a b cs cap) (hle : cs.length ≤ 40) (hlt : cs.length < cap) :
    Con l Z consts_1 kn ws (⟨"java/lang/StringBuilder", "toString", "()Ljava/lang/String;"⟩ : MethodName) jdk_67_method_42_code 1 (some (.object "java/lang/String")) ({ frames := 5, cells := 2, slots := 44, locals := 79 } : Room) #[(.ref a)] h0 ss (rV fun v h => Ext h0 h ∧ ∃ d, v = .ref d ∧ Lat Z h d cs) := by
  have hw := g.1
  have hEL := g.2.1
  refine Con.of (plainFor_of_name pn_7) hO ?_
  intro p e s m below meth c T0 me W0
  refine Fi.entry (L := #[.val (.ref a)]) (by first | (simp [entryFrame, mkF, argsToLocals, Value.category, maxLocals]; done) | (simp [entryFrame, mkF, argsToLocals, Value.category]; done) | rfl) ?_
  refine W0.newO me (hw _ (List.mem_of_getElem? (i := 165) rfl)) (hw _ (List.mem_of_getElem? (i := 5) rfl)) (hw _ (List.mem_of_getElem? (i := 6) rfl)) d_jdk_67_method_42_0 (own_le rfl) (own_le rfl) ?_
  intro T1 h1 a1 g1 W1 E1 A1 D1 U1
  show Fi p e below s Z _ _ _ _ T1 (mkF m 3 #[.val (.ref a)] [(.ref a1)])
  refine W1.dup me d_jdk_67_method_42_3 rfl ?_
  refine W1.aloadN me d_jdk_67_method_42_4 rfl rfl ?_
  show Fi p e below s Z _ _ _ _ T1 (mkF m 5 #[.val (.ref a)] [(.ref a), (.ref a1), (.ref a1)])
  refine W1.callI me hEL (hw _ (List.mem_of_getElem? (i := 166) rfl)) (hw _ (List.mem_of_getElem? (i := 167) rfl)) (hw _ (List.mem_of_getElem? (i := 6) rfl)) (hw _ (List.mem_of_getElem? (i := 168) rfl)) rfl (a := a1) (argsL := [(.ref a)]) (rest := [(.ref a1)]) (c_init53 g W1.old (M.ext E1) A1 (D1 (Or.inr (hw _ (List.mem_of_getElem? (i := 33) rfl))) (ty := .array .byte) (by decide)) (D1 (Or.inr (hw _ (List.mem_of_getElem? (i := 31) rfl))) (ty := .byte) (by decide)) (List.mem_cons_self ..) (by have := hO.2.1; omega) hle hlt) d_jdk_67_method_42_5 (by decide) (fun _ q => q) rfl (lenOf pd_22 rfl) (own_le rfl) (own_le rfl) (own_le rfl) (own_le rfl) rfl ?_
  intro T2 h2 v2 W2 z2 q2
  obtain ⟨sf2, X2, rfl, K2, L2⟩ := q2
  show Fi p e below s Z _ _ _ _ T2 (mkF m 8 #[.val (.ref a)] [(.ref a1)])
  exact W2.retA hEL me d_jdk_67_method_42_8 ⟨own_xk E1 K2 (allS (by omega) all0), a1, rfl, L2⟩ (by decide) (by decide) rfl rfl rfl

set_option maxRecDepth 65536 in
set_option maxHeartbeats 4000000 in
theorem c_draw {l : Launch} {Z : State} {a0 : Array Value} {kn : Bool} (g : Gl Z a0) {ws : List Cond} {h0 : Heap} {ss : List Addr} (hO : Old Z Z.heap.size h0) {x : Int32} {n : Nat} (hn : n ≤ 3) :
    Con l Z consts_1 kn ws (⟨"com/example/cadi/cadi/AliasToStringPinLaw", "draw", "(II)Ljava/lang/String;"⟩ : MethodName) method_3_code 5 (some (.object "java/lang/String")) ({ frames := 4, cells := 6, slots := 15, locals := 66 } : Room) #[(.int x), (.int (Int32.ofNat n))] h0 ss (rV fun v h => Ext h0 h ∧ ∃ a cs, v = .ref a ∧ Lat Z h a cs ∧ cs.length ≤ 3) := by
  have hw := g.1
  have hEL := g.2.1
  refine Con.of (plainFor_of_name pn_9) hO ?_
  intro p e s m below meth c T0 me W0
  refine Fi.entry (L := #[.val (.int x), .val (.int (Int32.ofNat n)), .unset, .unset, .unset]) (by first | (simp [entryFrame, mkF, argsToLocals, Value.category, maxLocals]; done) | (simp [entryFrame, mkF, argsToLocals, Value.category]; done) | rfl) ?_
  refine W0.iloadN me d_method_3_0 rfl ?_
  refine W0.sipush me d_method_3_1 (v := 255) rfl ?_
  refine W0.iand me d_method_3_4 ?_
  refine W0.i2c me d_method_3_5 ?_
  show Fi p e below s Z _ _ _ _ T0 (mkF m 6 #[.val (.int x), .val (.int (Int32.ofNat n)), .unset, .unset, .unset] [(.int ((x &&& (255 : Int32)).toUInt32.toUInt16.toUInt32.toInt32))])
  obtain ⟨c0, hc0⟩ : ∃ z, z = ((x &&& (255 : Int32)).toUInt32.toUInt16.toUInt32.toInt32) := ⟨_, rfl⟩
  rw [← hc0]
  have qc0 : ¬ c0 < 0 ∧ ¬ (255 : Int32) < c0 := hc0 ▸ c255 x
  show Fi p e below s Z _ _ _ _ T0 (mkF m 6 #[.val (.int x), .val (.int (Int32.ofNat n)), .unset, .unset, .unset] [(.int c0)])
  refine W0.istoreN me d_method_3_6 (l' := #[.val (.int x), .val (.int (Int32.ofNat n)), .val (.int c0), .unset, .unset]) rfl ?_
  refine W0.iloadN me d_method_3_7 rfl ?_
  refine W0.bipush me d_method_3_8 (v := 8) rfl ?_
  refine W0.iushr me d_method_3_10 ?_
  refine W0.sipush me d_method_3_11 (v := 255) rfl ?_
  refine W0.iand me d_method_3_14 ?_
  refine W0.i2c me d_method_3_15 ?_
  show Fi p e below s Z _ _ _ _ T0 (mkF m 16 #[.val (.int x), .val (.int (Int32.ofNat n)), .val (.int c0), .unset, .unset] [(.int (((XT.ushr x (8 : Int32)) &&& (255 : Int32)).toUInt32.toUInt16.toUInt32.toInt32))])
  obtain ⟨c1, hc1⟩ : ∃ z, z = (((XT.ushr x (8 : Int32)) &&& (255 : Int32)).toUInt32.toUInt16.toUInt32.toInt32) := ⟨_, rfl⟩
  rw [← hc1]
  have qc1 : ¬ c1 < 0 ∧ ¬ (255 : Int32) < c1 := hc1 ▸ c255 (XT.ushr x (8 : Int32))
  show Fi p e below s Z _ _ _ _ T0 (mkF m 16 #[.val (.int x), .val (.int (Int32.ofNat n)), .val (.int c0), .unset, .unset] [(.int c1)])
  refine W0.istoreN me d_method_3_16 (l' := #[.val (.int x), .val (.int (Int32.ofNat n)), .val (.int c0), .val (.int c1), .unset]) rfl ?_
  refine W0.iloadN me d_method_3_17 rfl ?_
  refine W0.bipush me d_method_3_18 (v := 16) rfl ?_
  refine W0.iushr me d_method_3_20 ?_
  refine W0.sipush me d_method_3_21 (v := 255) rfl ?_
  refine W0.iand me d_method_3_24 ?_
  refine W0.i2c me d_method_3_25 ?_
  show Fi p e below s Z _ _ _ _ T0 (mkF m 26 #[.val (.int x), .val (.int (Int32.ofNat n)), .val (.int c0), .val (.int c1), .unset] [(.int (((XT.ushr x (16 : Int32)) &&& (255 : Int32)).toUInt32.toUInt16.toUInt32.toInt32))])
  obtain ⟨c2, hc2⟩ : ∃ z, z = (((XT.ushr x (16 : Int32)) &&& (255 : Int32)).toUInt32.toUInt16.toUInt32.toInt32) := ⟨_, rfl⟩
  rw [← hc2]
  have qc2 : ¬ c2 < 0 ∧ ¬ (255 : Int32) < c2 := hc2 ▸ c255 (XT.ushr x (16 : Int32))
  show Fi p e below s Z _ _ _ _ T0 (mkF m 26 #[.val (.int x), .val (.int (Int32.ofNat n)), .val (.int c0), .val (.int c1), .unset] [(.int c2)])
  refine W0.istore me d_method_3_26 (l' := #[.val (.int x), .val (.int (Int32.ofNat n)), .val (.int c0), .val (.int c1), .val (.int c2)]) rfl ?_
  refine W0.iloadN me d_method_3_28 rfl ?_
  show Fi p e below s Z _ _ _ _ T0 (mkF m 29 #[.val (.int x), .val (.int (Int32.ofNat n)), .val (.int c0), .val (.int c1), .val (.int c2)] [(.int (Int32.ofNat n))])
  rcases own_0123 hn with rfl | rfl | rfl | rfl
  ·
    show Fi p e below s Z _ _ _ _ T0 (mkF m 29 #[.val (.int x), .val (.int (0 : Int32)), .val (.int c0), .val (.int c1), .val (.int c2)] [(.int (0 : Int32))])
    show Fi p e below s Z _ _ _ _ T0 (mkF m 29 #[.val (.int x), .val (.int (0 : Int32)), .val (.int c0), .val (.int c1), .val (.int c2)] [(.int (0 : Int32))])
    refine W0.ifN_ne me d_method_3_29 (by decide) ?_
    show Fi p e below s Z _ _ _ _ T0 (mkF m 32 #[.val (.int x), .val (.int (0 : Int32)), .val (.int c0), .val (.int c1), .val (.int c2)] [])
    show Fi p e below s Z _ _ _ _ T0 (mkF m 32 #[.val (.int x), .val (.int (0 : Int32)), .val (.int c0), .val (.int c1), .val (.int c2)] [])
    refine W0.newO me (hw _ (List.mem_of_getElem? (i := 4) rfl)) (hw _ (List.mem_of_getElem? (i := 5) rfl)) (hw _ (List.mem_of_getElem? (i := 6) rfl)) d_method_3_32 (own_le rfl) (own_le rfl) ?_
    intro T1 h1 a1 g1 W1 E1 A1 D1 U1
    show Fi p e below s Z _ _ _ _ T1 (mkF m 35 #[.val (.int x), .val (.int (0 : Int32)), .val (.int c0), .val (.int c1), .val (.int c2)] [(.ref a1)])
    refine W1.dup me d_method_3_35 rfl ?_
    refine W1.iconst me d_method_3_36 (v := 0) rfl ?_
    show Fi p e below s Z _ _ _ _ T1 (mkF m 37 #[.val (.int x), .val (.int (0 : Int32)), .val (.int c0), .val (.int c1), .val (.int c2)] [(.int (0 : Int32)), (.ref a1), (.ref a1)])
    have hz1 : Z.heap.size ≤ a1 := by have := W0.old.2.1; omega
    refine W1.newA me (hw _ (List.mem_of_getElem? (i := 7) rfl)) d_method_3_37 (by decide) (cap := 0) (by decide) (own_le rfl) (own_le rfl) (own_le rfl) ?_
    intro T2 h2 a2 k2 g2 W2 E2 A2
    show Fi p e below s Z _ _ _ _ T2 (mkF m 39 #[.val (.int x), .val (.int (0 : Int32)), .val (.int c0), .val (.int c1), .val (.int c2)] [(.ref a2), (.ref a1), (.ref a1)])
    have hz2 : Z.heap.size ≤ a2 := by have := W0.old.2.1; have := E1.1; omega
    show Fi p e below s Z _ _ _ _ T2 (mkF m 39 #[.val (.int x), .val (.int (0 : Int32)), .val (.int c0), .val (.int c1), .val (.int c2)] [(.ref a2), (.ref a1), (.ref a1)])
    refine W2.callI me hEL (hw _ (List.mem_of_getElem? (i := 8) rfl)) (hw _ (List.mem_of_getElem? (i := 9) rfl)) (hw _ (List.mem_of_getElem? (i := 6) rfl)) (hw _ (List.mem_of_getElem? (i := 10) rfl)) rfl (a := a1) (argsL := [(.ref a2)]) (rest := [(.ref a1)]) (c_init3 g W2.old (cs := []) (A1.ext E2) ((D1 (Or.inr (hw _ (List.mem_of_getElem? (i := 33) rfl))) (ty := .array .byte) (by decide)).ext E2) ((D1 (Or.inr (hw _ (List.mem_of_getElem? (i := 31) rfl))) (ty := .byte) (by decide)).ext E2) A2 (List.mem_cons_of_mem _ (List.mem_cons_self ..)) hz1 C8.nil (own_le rfl)) d_method_3_39 (by decide) (fun _ q => q) rfl (lenOf pd_23 rfl) (own_le rfl) (own_le rfl) (own_le rfl) (own_le rfl) rfl ?_
    intro T3 h3 v3 W3 z3 q3
    obtain ⟨sf3, X3, rfl, K3, L3⟩ := q3
    show Fi p e below s Z _ _ _ _ T3 (mkF m 42 #[.val (.int x), .val (.int (0 : Int32)), .val (.int c0), .val (.int c1), .val (.int c2)] [(.ref a1)])
    have F3 := own_xk (own_xt E1 E2) K3 (allS (by omega) all0)
    exact W3.retA hEL me d_method_3_42 ⟨F3, a1, _, rfl, L3, own_le rfl⟩ (by decide) (by decide) rfl rfl rfl
  ·
    show Fi p e below s Z _ _ _ _ T0 (mkF m 29 #[.val (.int x), .val (.int (1 : Int32)), .val (.int c0), .val (.int c1), .val (.int c2)] [(.int (1 : Int32))])
    show Fi p e below s Z _ _ _ _ T0 (mkF m 29 #[.val (.int x), .val (.int (1 : Int32)), .val (.int c0), .val (.int c1), .val (.int c2)] [(.int (1 : Int32))])
    refine W0.ifY_ne me d_method_3_29 (by decide) (pc' := 43) (by decide) (by decide) ?_
    show Fi p e below s Z _ _ _ _ T0 (mkF m 43 #[.val (.int x), .val (.int (1 : Int32)), .val (.int c0), .val (.int c1), .val (.int c2)] [])
    refine W0.iloadN me d_method_3_43 rfl ?_
    refine W0.iconst me d_method_3_44 (v := 1) rfl ?_
    show Fi p e below s Z _ _ _ _ T0 (mkF m 45 #[.val (.int x), .val (.int (1 : Int32)), .val (.int c0), .val (.int c1), .val (.int c2)] [(.int (1 : Int32)), (.int (1 : Int32))])
    refine W0.icN_ne me d_method_3_45 (by decide) ?_
    show Fi p e below s Z _ _ _ _ T0 (mkF m 48 #[.val (.int x), .val (.int (1 : Int32)), .val (.int c0), .val (.int c1), .val (.int c2)] [])
    show Fi p e below s Z _ _ _ _ T0 (mkF m 48 #[.val (.int x), .val (.int (1 : Int32)), .val (.int c0), .val (.int c1), .val (.int c2)] [])
    refine W0.newO me (hw _ (List.mem_of_getElem? (i := 4) rfl)) (hw _ (List.mem_of_getElem? (i := 5) rfl)) (hw _ (List.mem_of_getElem? (i := 6) rfl)) d_method_3_48 (own_le rfl) (own_le rfl) ?_
    intro T4 h4 a4 g4 W4 E4 A4 D4 U4
    show Fi p e below s Z _ _ _ _ T4 (mkF m 51 #[.val (.int x), .val (.int (1 : Int32)), .val (.int c0), .val (.int c1), .val (.int c2)] [(.ref a4)])
    refine W4.dup me d_method_3_51 rfl ?_
    refine W4.iconst me d_method_3_52 (v := 1) rfl ?_
    show Fi p e below s Z _ _ _ _ T4 (mkF m 53 #[.val (.int x), .val (.int (1 : Int32)), .val (.int c0), .val (.int c1), .val (.int c2)] [(.int (1 : Int32)), (.ref a4), (.ref a4)])
    have hz4 : Z.heap.size ≤ a4 := by have := W0.old.2.1; omega
    refine W4.newA me (hw _ (List.mem_of_getElem? (i := 7) rfl)) d_method_3_53 (by decide) (cap := 1) (by decide) (own_le rfl) (own_le rfl) (own_le rfl) ?_
    intro T5 h5 a5 k5 g5 W5 E5 A5
    show Fi p e below s Z _ _ _ _ T5 (mkF m 55 #[.val (.int x), .val (.int (1 : Int32)), .val (.int c0), .val (.int c1), .val (.int c2)] [(.ref a5), (.ref a4), (.ref a4)])
    have hz5 : Z.heap.size ≤ a5 := by have := W0.old.2.1; have := E4.1; omega
    refine W5.dup me d_method_3_55 rfl ?_
    refine W5.iconst me d_method_3_56 (v := 0) rfl ?_
    refine W5.iloadN me d_method_3_57 rfl ?_
    show Fi p e below s Z _ _ _ _ T5 (mkF m 58 #[.val (.int x), .val (.int (1 : Int32)), .val (.int c0), .val (.int c1), .val (.int c2)] [(.int c0), (.int (0 : Int32)), (.ref a5), (.ref a5), (.ref a4), (.ref a4)])
    refine W5.castoreP me A5 (up16 qc0) d_method_3_58 (i := 0) rfl (by decide) (by decide) hz5 ?_
    intro T6 h6 W6 R6 A6
    show Fi p e below s Z _ _ _ _ T6 (mkF m 59 #[.val (.int x), .val (.int (1 : Int32)), .val (.int c0), .val (.int c1), .val (.int c2)] [(.ref a5), (.ref a4), (.ref a4)])
    have E6 := own_xw E5 (by omega) R6
    show Fi p e below s Z _ _ _ _ T6 (mkF m 59 #[.val (.int x), .val (.int (1 : Int32)), .val (.int c0), .val (.int c1), .val (.int c2)] [(.ref a5), (.ref a4), (.ref a4)])
    refine W6.callI me hEL (hw _ (List.mem_of_getElem? (i := 8) rfl)) (hw _ (List.mem_of_getElem? (i := 9) rfl)) (hw _ (List.mem_of_getElem? (i := 6) rfl)) (hw _ (List.mem_of_getElem? (i := 10) rfl)) rfl (a := a4) (argsL := [(.ref a5)]) (rest := [(.ref a4)]) (c_init3 g W6.old (cs := [c0]) (A4.ext E6) ((D4 (Or.inr (hw _ (List.mem_of_getElem? (i := 33) rfl))) (ty := .array .byte) (by decide)).ext E6) ((D4 (Or.inr (hw _ (List.mem_of_getElem? (i := 31) rfl))) (ty := .byte) (by decide)).ext E6) A6 (List.mem_cons_of_mem _ (List.mem_cons_self ..)) hz4 (C8.cons qc0 C8.nil) (own_le rfl)) d_method_3_59 (by decide) (fun _ q => q) rfl (lenOf pd_23 rfl) (own_le rfl) (own_le rfl) (own_le rfl) (own_le rfl) rfl ?_
    intro T7 h7 v7 W7 z7 q7
    obtain ⟨sf7, X7, rfl, K7, L7⟩ := q7
    show Fi p e below s Z _ _ _ _ T7 (mkF m 62 #[.val (.int x), .val (.int (1 : Int32)), .val (.int c0), .val (.int c1), .val (.int c2)] [(.ref a4)])
    have F7 := own_xk (own_xt E4 E6) K7 (allS (by omega) all0)
    exact W7.retA hEL me d_method_3_62 ⟨F7, a4, _, rfl, L7, own_le rfl⟩ (by decide) (by decide) rfl rfl rfl
  ·
    show Fi p e below s Z _ _ _ _ T0 (mkF m 29 #[.val (.int x), .val (.int (2 : Int32)), .val (.int c0), .val (.int c1), .val (.int c2)] [(.int (2 : Int32))])
    show Fi p e below s Z _ _ _ _ T0 (mkF m 29 #[.val (.int x), .val (.int (2 : Int32)), .val (.int c0), .val (.int c1), .val (.int c2)] [(.int (2 : Int32))])
    refine W0.ifY_ne me d_method_3_29 (by decide) (pc' := 43) (by decide) (by decide) ?_
    show Fi p e below s Z _ _ _ _ T0 (mkF m 43 #[.val (.int x), .val (.int (2 : Int32)), .val (.int c0), .val (.int c1), .val (.int c2)] [])
    refine W0.iloadN me d_method_3_43 rfl ?_
    refine W0.iconst me d_method_3_44 (v := 1) rfl ?_
    show Fi p e below s Z _ _ _ _ T0 (mkF m 45 #[.val (.int x), .val (.int (2 : Int32)), .val (.int c0), .val (.int c1), .val (.int c2)] [(.int (1 : Int32)), (.int (2 : Int32))])
    refine W0.icY_ne me d_method_3_45 (by decide) (pc' := 63) (by decide) (by decide) ?_
    show Fi p e below s Z _ _ _ _ T0 (mkF m 63 #[.val (.int x), .val (.int (2 : Int32)), .val (.int c0), .val (.int c1), .val (.int c2)] [])
    refine W0.iloadN me d_method_3_63 rfl ?_
    refine W0.iconst me d_method_3_64 (v := 2) rfl ?_
    show Fi p e below s Z _ _ _ _ T0 (mkF m 65 #[.val (.int x), .val (.int (2 : Int32)), .val (.int c0), .val (.int c1), .val (.int c2)] [(.int (2 : Int32)), (.int (2 : Int32))])
    refine W0.icN_ne me d_method_3_65 (by decide) ?_
    show Fi p e below s Z _ _ _ _ T0 (mkF m 68 #[.val (.int x), .val (.int (2 : Int32)), .val (.int c0), .val (.int c1), .val (.int c2)] [])
    show Fi p e below s Z _ _ _ _ T0 (mkF m 68 #[.val (.int x), .val (.int (2 : Int32)), .val (.int c0), .val (.int c1), .val (.int c2)] [])
    refine W0.newO me (hw _ (List.mem_of_getElem? (i := 4) rfl)) (hw _ (List.mem_of_getElem? (i := 5) rfl)) (hw _ (List.mem_of_getElem? (i := 6) rfl)) d_method_3_68 (own_le rfl) (own_le rfl) ?_
    intro T8 h8 a8 g8 W8 E8 A8 D8 U8
    show Fi p e below s Z _ _ _ _ T8 (mkF m 71 #[.val (.int x), .val (.int (2 : Int32)), .val (.int c0), .val (.int c1), .val (.int c2)] [(.ref a8)])
    refine W8.dup me d_method_3_71 rfl ?_
    refine W8.iconst me d_method_3_72 (v := 2) rfl ?_
    show Fi p e below s Z _ _ _ _ T8 (mkF m 73 #[.val (.int x), .val (.int (2 : Int32)), .val (.int c0), .val (.int c1), .val (.int c2)] [(.int (2 : Int32)), (.ref a8), (.ref a8)])
    have hz8 : Z.heap.size ≤ a8 := by have := W0.old.2.1; omega
    refine W8.newA me (hw _ (List.mem_of_getElem? (i := 7) rfl)) d_method_3_73 (by decide) (cap := 2) (by decide) (own_le rfl) (own_le rfl) (own_le rfl) ?_
    intro T9 h9 a9 k9 g9 W9 E9 A9
    show Fi p e below s Z _ _ _ _ T9 (mkF m 75 #[.val (.int x), .val (.int (2 : Int32)), .val (.int c0), .val (.int c1), .val (.int c2)] [(.ref a9), (.ref a8), (.ref a8)])
    have hz9 : Z.heap.size ≤ a9 := by have := W0.old.2.1; have := E8.1; omega
    refine W9.dup me d_method_3_75 rfl ?_
    refine W9.iconst me d_method_3_76 (v := 0) rfl ?_
    refine W9.iloadN me d_method_3_77 rfl ?_
    show Fi p e below s Z _ _ _ _ T9 (mkF m 78 #[.val (.int x), .val (.int (2 : Int32)), .val (.int c0), .val (.int c1), .val (.int c2)] [(.int c0), (.int (0 : Int32)), (.ref a9), (.ref a9), (.ref a8), (.ref a8)])
    refine W9.castoreP me A9 (up16 qc0) d_method_3_78 (i := 0) rfl (by decide) (by decide) hz9 ?_
    intro T10 h10 W10 R10 A10
    show Fi p e below s Z _ _ _ _ T10 (mkF m 79 #[.val (.int x), .val (.int (2 : Int32)), .val (.int c0), .val (.int c1), .val (.int c2)] [(.ref a9), (.ref a8), (.ref a8)])
    have E10 := own_xw E9 (by omega) R10
    refine W10.dup me d_method_3_79 rfl ?_
    refine W10.iconst me d_method_3_80 (v := 1) rfl ?_
    refine W10.iloadN me d_method_3_81 rfl ?_
    show Fi p e below s Z _ _ _ _ T10 (mkF m 82 #[.val (.int x), .val (.int (2 : Int32)), .val (.int c0), .val (.int c1), .val (.int c2)] [(.int c1), (.int (1 : Int32)), (.ref a9), (.ref a9), (.ref a8), (.ref a8)])
    refine W10.castoreP me A10 (up16 qc1) d_method_3_82 (i := 1) rfl (by decide) (by decide) hz9 ?_
    intro T11 h11 W11 R11 A11
    show Fi p e below s Z _ _ _ _ T11 (mkF m 83 #[.val (.int x), .val (.int (2 : Int32)), .val (.int c0), .val (.int c1), .val (.int c2)] [(.ref a9), (.ref a8), (.ref a8)])
    have E11 := own_xw E10 (by omega) R11
    show Fi p e below s Z _ _ _ _ T11 (mkF m 83 #[.val (.int x), .val (.int (2 : Int32)), .val (.int c0), .val (.int c1), .val (.int c2)] [(.ref a9), (.ref a8), (.ref a8)])
    refine W11.callI me hEL (hw _ (List.mem_of_getElem? (i := 8) rfl)) (hw _ (List.mem_of_getElem? (i := 9) rfl)) (hw _ (List.mem_of_getElem? (i := 6) rfl)) (hw _ (List.mem_of_getElem? (i := 10) rfl)) rfl (a := a8) (argsL := [(.ref a9)]) (rest := [(.ref a8)]) (c_init3 g W11.old (cs := [c0, c1]) (A8.ext E11) ((D8 (Or.inr (hw _ (List.mem_of_getElem? (i := 33) rfl))) (ty := .array .byte) (by decide)).ext E11) ((D8 (Or.inr (hw _ (List.mem_of_getElem? (i := 31) rfl))) (ty := .byte) (by decide)).ext E11) A11 (List.mem_cons_of_mem _ (List.mem_cons_self ..)) hz8 (C8.cons qc0 (C8.cons qc1 C8.nil)) (own_le rfl)) d_method_3_83 (by decide) (fun _ q => q) rfl (lenOf pd_23 rfl) (own_le rfl) (own_le rfl) (own_le rfl) (own_le rfl) rfl ?_
    intro T12 h12 v12 W12 z12 q12
    obtain ⟨sf12, X12, rfl, K12, L12⟩ := q12
    show Fi p e below s Z _ _ _ _ T12 (mkF m 86 #[.val (.int x), .val (.int (2 : Int32)), .val (.int c0), .val (.int c1), .val (.int c2)] [(.ref a8)])
    have F12 := own_xk (own_xt E8 E11) K12 (allS (by omega) all0)
    exact W12.retA hEL me d_method_3_86 ⟨F12, a8, _, rfl, L12, own_le rfl⟩ (by decide) (by decide) rfl rfl rfl
  ·
    show Fi p e below s Z _ _ _ _ T0 (mkF m 29 #[.val (.int x), .val (.int (3 : Int32)), .val (.int c0), .val (.int c1), .val (.int c2)] [(.int (3 : Int32))])
    show Fi p e below s Z _ _ _ _ T0 (mkF m 29 #[.val (.int x), .val (.int (3 : Int32)), .val (.int c0), .val (.int c1), .val (.int c2)] [(.int (3 : Int32))])
    refine W0.ifY_ne me d_method_3_29 (by decide) (pc' := 43) (by decide) (by decide) ?_
    show Fi p e below s Z _ _ _ _ T0 (mkF m 43 #[.val (.int x), .val (.int (3 : Int32)), .val (.int c0), .val (.int c1), .val (.int c2)] [])
    refine W0.iloadN me d_method_3_43 rfl ?_
    refine W0.iconst me d_method_3_44 (v := 1) rfl ?_
    show Fi p e below s Z _ _ _ _ T0 (mkF m 45 #[.val (.int x), .val (.int (3 : Int32)), .val (.int c0), .val (.int c1), .val (.int c2)] [(.int (1 : Int32)), (.int (3 : Int32))])
    refine W0.icY_ne me d_method_3_45 (by decide) (pc' := 63) (by decide) (by decide) ?_
    show Fi p e below s Z _ _ _ _ T0 (mkF m 63 #[.val (.int x), .val (.int (3 : Int32)), .val (.int c0), .val (.int c1), .val (.int c2)] [])
    refine W0.iloadN me d_method_3_63 rfl ?_
    refine W0.iconst me d_method_3_64 (v := 2) rfl ?_
    show Fi p e below s Z _ _ _ _ T0 (mkF m 65 #[.val (.int x), .val (.int (3 : Int32)), .val (.int c0), .val (.int c1), .val (.int c2)] [(.int (2 : Int32)), (.int (3 : Int32))])
    refine W0.icY_ne me d_method_3_65 (by decide) (pc' := 87) (by decide) (by decide) ?_
    show Fi p e below s Z _ _ _ _ T0 (mkF m 87 #[.val (.int x), .val (.int (3 : Int32)), .val (.int c0), .val (.int c1), .val (.int c2)] [])
    show Fi p e below s Z _ _ _ _ T0 (mkF m 87 #[.val (.int x), .val (.int (3 : Int32)), .val (.int c0), .val (.int c1), .val (.int c2)] [])
    refine W0.newO me (hw _ (List.mem_of_getElem? (i := 4) rfl)) (hw _ (List.mem_of_getElem? (i := 5) rfl)) (hw _ (List.mem_of_getElem? (i := 6) rfl)) d_method_3_87 (own_le rfl) (own_le rfl) ?_
    intro T13 h13 a13 g13 W13 E13 A13 D13 U13
    show Fi p e below s Z _ _ _ _ T13 (mkF m 90 #[.val (.int x), .val (.int (3 : Int32)), .val (.int c0), .val (.int c1), .val (.int c2)] [(.ref a13)])
    refine W13.dup me d_method_3_90 rfl ?_
    refine W13.iconst me d_method_3_91 (v := 3) rfl ?_
    show Fi p e below s Z _ _ _ _ T13 (mkF m 92 #[.val (.int x), .val (.int (3 : Int32)), .val (.int c0), .val (.int c1), .val (.int c2)] [(.int (3 : Int32)), (.ref a13), (.ref a13)])
    have hz13 : Z.heap.size ≤ a13 := by have := W0.old.2.1; omega
    refine W13.newA me (hw _ (List.mem_of_getElem? (i := 7) rfl)) d_method_3_92 (by decide) (cap := 3) (by decide) (own_le rfl) (own_le rfl) (own_le rfl) ?_
    intro T14 h14 a14 k14 g14 W14 E14 A14
    show Fi p e below s Z _ _ _ _ T14 (mkF m 94 #[.val (.int x), .val (.int (3 : Int32)), .val (.int c0), .val (.int c1), .val (.int c2)] [(.ref a14), (.ref a13), (.ref a13)])
    have hz14 : Z.heap.size ≤ a14 := by have := W0.old.2.1; have := E13.1; omega
    refine W14.dup me d_method_3_94 rfl ?_
    refine W14.iconst me d_method_3_95 (v := 0) rfl ?_
    refine W14.iloadN me d_method_3_96 rfl ?_
    show Fi p e below s Z _ _ _ _ T14 (mkF m 97 #[.val (.int x), .val (.int (3 : Int32)), .val (.int c0), .val (.int c1), .val (.int c2)] [(.int c0), (.int (0 : Int32)), (.ref a14), (.ref a14), (.ref a13), (.ref a13)])
    refine W14.castoreP me A14 (up16 qc0) d_method_3_97 (i := 0) rfl (by decide) (by decide) hz14 ?_
    intro T15 h15 W15 R15 A15
    show Fi p e below s Z _ _ _ _ T15 (mkF m 98 #[.val (.int x), .val (.int (3 : Int32)), .val (.int c0), .val (.int c1), .val (.int c2)] [(.ref a14), (.ref a13), (.ref a13)])
    have E15 := own_xw E14 (by omega) R15
    refine W15.dup me d_method_3_98 rfl ?_
    refine W15.iconst me d_method_3_99 (v := 1) rfl ?_
    refine W15.iloadN me d_method_3_100 rfl ?_
    show Fi p e below s Z _ _ _ _ T15 (mkF m 101 #[.val (.int x), .val (.int (3 : Int32)), .val (.int c0), .val (.int c1), .val (.int c2)] [(.int c1), (.int (1 : Int32)), (.ref a14), (.ref a14), (.ref a13), (.ref a13)])
    refine W15.castoreP me A15 (up16 qc1) d_method_3_101 (i := 1) rfl (by decide) (by decide) hz14 ?_
    intro T16 h16 W16 R16 A16
    show Fi p e below s Z _ _ _ _ T16 (mkF m 102 #[.val (.int x), .val (.int (3 : Int32)), .val (.int c0), .val (.int c1), .val (.int c2)] [(.ref a14), (.ref a13), (.ref a13)])
    have E16 := own_xw E15 (by omega) R16
    refine W16.dup me d_method_3_102 rfl ?_
    refine W16.iconst me d_method_3_103 (v := 2) rfl ?_
    refine W16.iload me d_method_3_104 rfl ?_
    show Fi p e below s Z _ _ _ _ T16 (mkF m 106 #[.val (.int x), .val (.int (3 : Int32)), .val (.int c0), .val (.int c1), .val (.int c2)] [(.int c2), (.int (2 : Int32)), (.ref a14), (.ref a14), (.ref a13), (.ref a13)])
    refine W16.castoreP me A16 (up16 qc2) d_method_3_106 (i := 2) rfl (by decide) (by decide) hz14 ?_
    intro T17 h17 W17 R17 A17
    show Fi p e below s Z _ _ _ _ T17 (mkF m 107 #[.val (.int x), .val (.int (3 : Int32)), .val (.int c0), .val (.int c1), .val (.int c2)] [(.ref a14), (.ref a13), (.ref a13)])
    have E17 := own_xw E16 (by omega) R17
    show Fi p e below s Z _ _ _ _ T17 (mkF m 107 #[.val (.int x), .val (.int (3 : Int32)), .val (.int c0), .val (.int c1), .val (.int c2)] [(.ref a14), (.ref a13), (.ref a13)])
    refine W17.callI me hEL (hw _ (List.mem_of_getElem? (i := 8) rfl)) (hw _ (List.mem_of_getElem? (i := 9) rfl)) (hw _ (List.mem_of_getElem? (i := 6) rfl)) (hw _ (List.mem_of_getElem? (i := 10) rfl)) rfl (a := a13) (argsL := [(.ref a14)]) (rest := [(.ref a13)]) (c_init3 g W17.old (cs := [c0, c1, c2]) (A13.ext E17) ((D13 (Or.inr (hw _ (List.mem_of_getElem? (i := 33) rfl))) (ty := .array .byte) (by decide)).ext E17) ((D13 (Or.inr (hw _ (List.mem_of_getElem? (i := 31) rfl))) (ty := .byte) (by decide)).ext E17) A17 (List.mem_cons_of_mem _ (List.mem_cons_self ..)) hz13 (C8.cons qc0 (C8.cons qc1 (C8.cons qc2 C8.nil))) (own_le rfl)) d_method_3_107 (by decide) (fun _ q => q) rfl (lenOf pd_23 rfl) (own_le rfl) (own_le rfl) (own_le rfl) (own_le rfl) rfl ?_
    intro T18 h18 v18 W18 z18 q18
    obtain ⟨sf18, X18, rfl, K18, L18⟩ := q18
    show Fi p e below s Z _ _ _ _ T18 (mkF m 110 #[.val (.int x), .val (.int (3 : Int32)), .val (.int c0), .val (.int c1), .val (.int c2)] [(.ref a13)])
    have F18 := own_xk (own_xt E13 E17) K18 (allS (by omega) all0)
    exact W18.retA hEL me d_method_3_110 ⟨F18, a13, _, rfl, L18, own_le rfl⟩ (by decide) (by decide) rfl rfl rfl

set_option maxRecDepth 65536 in
set_option maxHeartbeats 4000000 in
theorem c_rec {l : Launch} {Z : State} {a0 : Array Value} {kn : Bool} (g : Gl Z a0) {ws : List Cond} {h0 : Heap} {ss : List Addr} (hO : Old Z Z.heap.size h0) {x : Addr} :
    Con l Z consts_1 kn ws (⟨"java/lang/Record", "<init>", "()V"⟩ : MethodName) jdk_30_method_1_code 1 none ({ frames := 1, cells := 0, slots := 0, locals := 12 } : Room) #[(.ref x)] h0 ss (rU fun h => h0 = h) := by
  have hw := g.1
  have hEL := g.2.1
  refine Con.of (plainFor_of_name pn_10) hO ?_
  intro p e s m below meth c T0 me W0
  refine Fi.entry (L := #[.val (.ref x)]) (by first | (simp [entryFrame, mkF, argsToLocals, Value.category, maxLocals]; done) | (simp [entryFrame, mkF, argsToLocals, Value.category]; done) | rfl) ?_
  refine W0.aloadN me d_jdk_30_method_1_0 rfl rfl ?_
  show Fi p e below s Z _ _ _ _ T0 (mkF m 1 #[.val (.ref x)] [(.ref x)])
  refine W0.initO me (hw _ (List.mem_of_getElem? (i := 51) rfl)) (hw _ (List.mem_of_getElem? (i := 16) rfl)) (hw _ (List.mem_of_getElem? (i := 17) rfl)) d_jdk_30_method_1_1 rfl (own_le rfl) (own_le rfl) ?_
  intro T1 W1
  show Fi p e below s Z _ _ _ _ T1 (mkF m 4 #[.val (.ref x)] [])
  exact W1.retU hEL me d_jdk_30_method_1_4 rfl (by decide) (by decide)

set_option maxRecDepth 65536 in
set_option maxHeartbeats 4000000 in
theorem c_orig {l : Launch} {Z : State} {a0 : Array Value} {kn : Bool} (g : Gl Z a0) {ws : List Cond} {h0 : Heap} {ss : List Addr} (hO : Old Z Z.heap.size h0) {x u : Addr} {vv : Value} (EX : Exa Z h0 x "com/example/cadi/cadi/Origin") (FP : Fld Z h0 x "com/example/cadi/cadi/Origin" "place" "Ljava/lang/String;" vv) (hz : Z.heap.size ≤ x) :
    Con l Z consts_1 kn ws (⟨"com/example/cadi/cadi/Origin", "<init>", "(Ljava/lang/String;)V"⟩ : MethodName) prog_35_method_1_code 2 none ({ frames := 2, cells := 0, slots := 0, locals := 24 } : Room) #[(.ref x), (.ref u)] h0 ss (rU fun h => Keep h0 h [x]) := by
  have hw := g.1
  have hEL := g.2.1
  refine Con.of (plainFor_of_name pn_11) hO ?_
  intro p e s m below meth c T0 me W0
  refine Fi.entry (L := #[.val (.ref x), .val (.ref u)]) (by first | (simp [entryFrame, mkF, argsToLocals, Value.category, maxLocals]; done) | (simp [entryFrame, mkF, argsToLocals, Value.category]; done) | rfl) ?_
  refine W0.aloadN me d_prog_35_method_1_0 rfl rfl ?_
  show Fi p e below s Z _ _ _ _ T0 (mkF m 1 #[.val (.ref x), .val (.ref u)] [(.ref x)])
  refine W0.callI me hEL (hw _ (List.mem_of_getElem? (i := 46) rfl)) (hw _ (List.mem_of_getElem? (i := 47) rfl)) (hw _ (List.mem_of_getElem? (i := 49) rfl)) (hw _ (List.mem_of_getElem? (i := 50) rfl)) rfl (a := x) (argsL := []) (rest := []) (c_rec (ss := []) g W0.old) d_prog_35_method_1_1 (by decide) (fun _ q => nomatch q) rfl (lenOf pd_24 rfl) (own_le rfl) (own_le rfl) (own_le rfl) (own_le rfl) rfl ?_
  intro T1 h1 v1 W1 z1 q1
  obtain ⟨sf1, X1, rfl, rfl⟩ := q1
  show Fi p e below s Z _ _ _ _ T1 (mkF m 4 #[.val (.ref x), .val (.ref u)] [])
  refine W1.aloadN me d_prog_35_method_1_4 rfl rfl ?_
  refine W1.aloadN me d_prog_35_method_1_5 rfl rfl ?_
  show Fi p e below s Z _ _ _ _ T1 (mkF m 6 #[.val (.ref x), .val (.ref u)] [(.ref u), (.ref x)])
  refine W1.putF me (hw _ (List.mem_of_getElem? (i := 52) rfl)) FP Via.refl EX (Or.inr ⟨(hw _ (List.mem_of_getElem? (i := 53) rfl)), rfl, rfl⟩) (hw _ (List.mem_of_getElem? (i := 41) rfl)) (ty := (.object "java/lang/String")) (by decide) rfl rfl (Or.inr (Or.inl ⟨"com/example/cadi/cadi/Origin", EX, by decide, by decide⟩)) hz d_prog_35_method_1_6 ?_
  intro T2 h2 W2 R2
  show Fi p e below s Z _ _ _ _ T2 (mkF m 9 #[.val (.ref x), .val (.ref u)] [])
  exact W2.retU hEL me d_prog_35_method_1_9 (Keep.of_wr R2) (by decide) (by decide)

set_option maxRecDepth 65536 in
set_option maxHeartbeats 4000000 in
theorem c_alias {l : Launch} {Z : State} {a0 : Array Value} {kn : Bool} (g : Gl Z a0) {ws : List Cond} {h0 : Heap} {ss : List Addr} (hO : Old Z Z.heap.size h0) {x u v y : Addr} {v1 v2 v3 : Value} (EX : Exa Z h0 x "com/example/cadi/cadi/Alias") (Fname : Fld Z h0 x "com/example/cadi/cadi/Alias" "name" "Ljava/lang/String;" v1) (Falias : Fld Z h0 x "com/example/cadi/cadi/Alias" "alias" "Ljava/lang/String;" v2) (Forigin : Fld Z h0 x "com/example/cadi/cadi/Alias" "origin" "Lcom/example/cadi/cadi/Origin;" v3) (hz : Z.heap.size ≤ x) :
    Con l Z consts_1 kn ws (⟨"com/example/cadi/cadi/Alias", "<init>", "(Ljava/lang/String;Ljava/lang/String;Lcom/example/cadi/cadi/Origin;)V"⟩ : MethodName) prog_1_method_1_code 4 none ({ frames := 2, cells := 0, slots := 0, locals := 24 } : Room) #[(.ref x), (.ref u), (.ref v), (.ref y)] h0 ss (rU fun h => Keep h0 h [x] ∧ Exa Z h x "com/example/cadi/cadi/Alias" ∧ Fld Z h x "com/example/cadi/cadi/Alias" "name" "Ljava/lang/String;" (.ref u) ∧ Fld Z h x "com/example/cadi/cadi/Alias" "alias" "Ljava/lang/String;" (.ref v)) := by
  have hw := g.1
  have hEL := g.2.1
  refine Con.of (plainFor_of_name pn_12) hO ?_
  intro p e s m below meth c T0 me W0
  refine Fi.entry (L := #[.val (.ref x), .val (.ref u), .val (.ref v), .val (.ref y)]) (by first | (simp [entryFrame, mkF, argsToLocals, Value.category, maxLocals]; done) | (simp [entryFrame, mkF, argsToLocals, Value.category]; done) | rfl) ?_
  refine W0.aloadN me d_prog_1_method_1_0 rfl rfl ?_
  show Fi p e below s Z _ _ _ _ T0 (mkF m 1 #[.val (.ref x), .val (.ref u), .val (.ref v), .val (.ref y)] [(.ref x)])
  have n_name_alias : Jvm.RoadKit.slotOf Z "com/example/cadi/cadi/Alias" "name" "Ljava/lang/String;" ≠ Jvm.RoadKit.slotOf Z "com/example/cadi/cadi/Alias" "alias" "Ljava/lang/String;" := slot_ne (Or.inr (hw _ (List.mem_of_getElem? (i := 59) rfl)) : Laid Z a0 "com/example/cadi/cadi/Alias" "com/example/cadi/cadi/Alias" "name" "Ljava/lang/String;") (Or.inr (hw _ (List.mem_of_getElem? (i := 61) rfl)) : Laid Z a0 "com/example/cadi/cadi/Alias" "com/example/cadi/cadi/Alias" "alias" "Ljava/lang/String;") (by decide) (t := (.object "java/lang/String")) (t' := (.object "java/lang/String")) (by decide) (by decide)
  have n_name_origin : Jvm.RoadKit.slotOf Z "com/example/cadi/cadi/Alias" "name" "Ljava/lang/String;" ≠ Jvm.RoadKit.slotOf Z "com/example/cadi/cadi/Alias" "origin" "Lcom/example/cadi/cadi/Origin;" := slot_ne (Or.inr (hw _ (List.mem_of_getElem? (i := 59) rfl)) : Laid Z a0 "com/example/cadi/cadi/Alias" "com/example/cadi/cadi/Alias" "name" "Ljava/lang/String;") (Or.inr (hw _ (List.mem_of_getElem? (i := 63) rfl)) : Laid Z a0 "com/example/cadi/cadi/Alias" "com/example/cadi/cadi/Alias" "origin" "Lcom/example/cadi/cadi/Origin;") (by decide) (t := (.object "java/lang/String")) (t' := (.object "com/example/cadi/cadi/Origin")) (by decide) (by decide)
  have n_alias_origin : Jvm.RoadKit.slotOf Z "com/example/cadi/cadi/Alias" "alias" "Ljava/lang/String;" ≠ Jvm.RoadKit.slotOf Z "com/example/cadi/cadi/Alias" "origin" "Lcom/example/cadi/cadi/Origin;" := slot_ne (Or.inr (hw _ (List.mem_of_getElem? (i := 61) rfl)) : Laid Z a0 "com/example/cadi/cadi/Alias" "com/example/cadi/cadi/Alias" "alias" "Ljava/lang/String;") (Or.inr (hw _ (List.mem_of_getElem? (i := 63) rfl)) : Laid Z a0 "com/example/cadi/cadi/Alias" "com/example/cadi/cadi/Alias" "origin" "Lcom/example/cadi/cadi/Origin;") (by decide) (t := (.object "java/lang/String")) (t' := (.object "com/example/cadi/cadi/Origin")) (by decide) (by decide)
  refine W0.callI me hEL (hw _ (List.mem_of_getElem? (i := 57) rfl)) (hw _ (List.mem_of_getElem? (i := 47) rfl)) (hw _ (List.mem_of_getElem? (i := 49) rfl)) (hw _ (List.mem_of_getElem? (i := 50) rfl)) rfl (a := x) (argsL := []) (rest := []) (c_rec (ss := []) g W0.old) d_prog_1_method_1_1 (by decide) (fun _ q => nomatch q) rfl (lenOf pd_24 rfl) (own_le rfl) (own_le rfl) (own_le rfl) (own_le rfl) rfl ?_
  intro T1 h1 v1 W1 z1 q1
  obtain ⟨sf1, X1, rfl, rfl⟩ := q1
  show Fi p e below s Z _ _ _ _ T1 (mkF m 4 #[.val (.ref x), .val (.ref u), .val (.ref v), .val (.ref y)] [])
  refine W1.aloadN me d_prog_1_method_1_4 rfl rfl ?_
  refine W1.aloadN me d_prog_1_method_1_5 rfl rfl ?_
  show Fi p e below s Z _ _ _ _ T1 (mkF m 6 #[.val (.ref x), .val (.ref u), .val (.ref v), .val (.ref y)] [(.ref u), (.ref x)])
  refine W1.putF me (hw _ (List.mem_of_getElem? (i := 58) rfl)) Fname Via.refl EX (Or.inr ⟨(hw _ (List.mem_of_getElem? (i := 59) rfl)), rfl, rfl⟩) (hw _ (List.mem_of_getElem? (i := 38) rfl)) (ty := (.object "java/lang/String")) (by decide) rfl rfl (Or.inr (Or.inl ⟨"com/example/cadi/cadi/Alias", EX, by decide, by decide⟩)) hz d_prog_1_method_1_6 ?_
  intro T2 h2 W2 R2
  show Fi p e below s Z _ _ _ _ T2 (mkF m 9 #[.val (.ref x), .val (.ref u), .val (.ref v), .val (.ref y)] [])
  refine W2.aloadN me d_prog_1_method_1_9 rfl rfl ?_
  refine W2.aloadN me d_prog_1_method_1_10 rfl rfl ?_
  show Fi p e below s Z _ _ _ _ T2 (mkF m 11 #[.val (.ref x), .val (.ref u), .val (.ref v), .val (.ref y)] [(.ref v), (.ref x)])
  have EX2 := EX.wr R2
  have Fname2 := Fname.same R2
  have Falias2 := Falias.other R2 (Or.inr n_name_alias.symm)
  have Forigin2 := Forigin.other R2 (Or.inr n_name_origin.symm)
  have K2 : Keep h0 h2 [x] := Keep.of_wr R2
  refine W2.putF me (hw _ (List.mem_of_getElem? (i := 60) rfl)) Falias2 Via.refl EX2 (Or.inr ⟨(hw _ (List.mem_of_getElem? (i := 61) rfl)), rfl, rfl⟩) (hw _ (List.mem_of_getElem? (i := 38) rfl)) (ty := (.object "java/lang/String")) (by decide) rfl rfl (Or.inr (Or.inl ⟨"com/example/cadi/cadi/Alias", EX2, by decide, by decide⟩)) hz d_prog_1_method_1_11 ?_
  intro T3 h3 W3 R3
  show Fi p e below s Z _ _ _ _ T3 (mkF m 14 #[.val (.ref x), .val (.ref u), .val (.ref v), .val (.ref y)] [])
  refine W3.aloadN me d_prog_1_method_1_14 rfl rfl ?_
  refine W3.aloadN me d_prog_1_method_1_15 rfl rfl ?_
  show Fi p e below s Z _ _ _ _ T3 (mkF m 16 #[.val (.ref x), .val (.ref u), .val (.ref v), .val (.ref y)] [(.ref y), (.ref x)])
  have EX3 := EX2.wr R3
  have Fname3 := Fname2.other R3 (Or.inr n_name_alias)
  have Falias3 := Falias2.same R3
  have Forigin3 := Forigin2.other R3 (Or.inr n_alias_origin.symm)
  have K3 : Keep h0 h3 [x] := K2.wr R3 (Or.inl (List.mem_cons_self ..))
  refine W3.putF me (hw _ (List.mem_of_getElem? (i := 62) rfl)) Forigin3 Via.refl EX3 (Or.inr ⟨(hw _ (List.mem_of_getElem? (i := 63) rfl)), rfl, rfl⟩) (hw _ (List.mem_of_getElem? (i := 38) rfl)) (ty := (.object "com/example/cadi/cadi/Origin")) (by decide) rfl rfl (Or.inr (Or.inl ⟨"com/example/cadi/cadi/Alias", EX3, by decide, by decide⟩)) hz d_prog_1_method_1_16 ?_
  intro T4 h4 W4 R4
  show Fi p e below s Z _ _ _ _ T4 (mkF m 19 #[.val (.ref x), .val (.ref u), .val (.ref v), .val (.ref y)] [])
  show Fi p e below s Z _ _ _ _ T4 (mkF m 19 #[.val (.ref x), .val (.ref u), .val (.ref v), .val (.ref y)] [])
  have EX4 := EX3.wr R4
  have Fname4 := Fname3.other R4 (Or.inr n_name_origin)
  have Falias4 := Falias3.other R4 (Or.inr n_alias_origin)
  have Forigin4 := Forigin3.same R4
  have K4 : Keep h0 h4 [x] := K3.wr R4 (Or.inl (List.mem_cons_self ..))
  exact W4.retU hEL me d_prog_1_method_1_19 ⟨K4, EX4, Fname4, Falias4⟩ (by decide) (by decide)

set_option maxRecDepth 65536 in
set_option maxHeartbeats 4000000 in
theorem c_atos {l : Launch} {Z : State} {a0 : Array Value} {kn : Bool} (g : Gl Z a0) {ws : List Cond} {h0 : Heap} {ss : List Addr} (hO : Old Z Z.heap.size h0) {x u ub v vb : Addr} {ns as : List Int32} (FN : Fld Z h0 x "com/example/cadi/cadi/Alias" "name" "Ljava/lang/String;" (.ref u)) (FA : Fld Z h0 x "com/example/cadi/cadi/Alias" "alias" "Ljava/lang/String;" (.ref v)) (LN : LatB Z h0 u ub ns) (hn : ns.length ≤ 3) (LA : LatB Z h0 v vb as) (ha : as.length ≤ 3) :
    Con l Z consts_1 kn ws (⟨"com/example/cadi/cadi/Alias", "toString", "()Ljava/lang/String;"⟩ : MethodName) prog_1_method_3_code 1 (some (.object "java/lang/String")) ({ frames := 6, cells := 11, slots := 216, locals := 91 } : Room) #[(.ref x)] h0 ss (rV fun v h => Ext h0 h ∧ ∃ d, v = .ref d ∧ Lat Z h d ([(60 : Int32), (97 : Int32), (108 : Int32), (105 : Int32), (97 : Int32), (115 : Int32), (32 : Int32), (110 : Int32), (97 : Int32), (109 : Int32), (101 : Int32), (61 : Int32), (34 : Int32)] ++ ns ++ [(34 : Int32), (32 : Int32), (97 : Int32), (108 : Int32), (105 : Int32), (97 : Int32), (115 : Int32), (61 : Int32), (34 : Int32)] ++ as ++ [(34 : Int32), (47 : Int32), (62 : Int32)])) := by
  have hw := g.1
  have hEL := g.2.1
  refine Con.of (plainFor_of_name pn_12) hO ?_
  intro p e s m below meth c T0 me W0
  refine Fi.entry (L := #[.val (.ref x)]) (by first | (simp [entryFrame, mkF, argsToLocals, Value.category, maxLocals]; done) | (simp [entryFrame, mkF, argsToLocals, Value.category]; done) | rfl) ?_
  refine W0.newO me (hw _ (List.mem_of_getElem? (i := 69) rfl)) (hw _ (List.mem_of_getElem? (i := 70) rfl)) (hw _ (List.mem_of_getElem? (i := 71) rfl)) d_prog_1_method_3_0 (own_le rfl) (own_le rfl) ?_
  intro T1 h1 a1 g1 W1 E1 A1 D1 U1
  show Fi p e below s Z _ _ _ _ T1 (mkF m 3 #[.val (.ref x)] [(.ref a1)])
  refine W1.dup me d_prog_1_method_3_3 rfl ?_
  show Fi p e below s Z _ _ _ _ T1 (mkF m 4 #[.val (.ref x)] [(.ref a1), (.ref a1)])
  have hza : Z.heap.size ≤ a1 := by have := hO.2.1; omega
  refine W1.callI me hEL (hw _ (List.mem_of_getElem? (i := 72) rfl)) (hw _ (List.mem_of_getElem? (i := 73) rfl)) (hw _ (List.mem_of_getElem? (i := 71) rfl)) (hw _ (List.mem_of_getElem? (i := 74) rfl)) rfl (a := a1) (argsL := []) (rest := [(.ref a1)]) (c_sbinit (ss := []) g W1.old A1 (D1 (Or.inl (hw _ (List.mem_of_getElem? (i := 84) rfl))) (ty := .array .byte) (by decide)) (D1 (Or.inl (hw _ (List.mem_of_getElem? (i := 86) rfl))) (ty := .byte) (by decide)) (D1 (Or.inl (hw _ (List.mem_of_getElem? (i := 109) rfl))) (ty := .int) (by decide)) hza) d_prog_1_method_3_4 (by decide) (fun _ q => nomatch q) rfl (lenOf pd_24 rfl) (own_le rfl) (own_le rfl) (own_le rfl) (own_le rfl) rfl ?_
  intro T2 h2 v2 W2 z2 q2
  obtain ⟨sf2, X2, rfl, K2, d2, y2, s2, M2⟩ := q2
  show Fi p e below s Z _ _ _ _ T2 (mkF m 7 #[.val (.ref x)] [(.ref a1)])
  replace W2 := X2 [d2] (allS s2 all0)
  have hsz2 := E1.1
  have hzb : Z.heap.size ≤ d2 := by have := hO.2.1; omega
  have ga : h0.size ≤ a1 := by omega
  have gd : h0.size ≤ d2 := by omega
  have EE2 := own_xk E1 K2 (allS ga all0)
  show Fi p e below s Z _ _ _ _ T2 (mkF m 7 #[.val (.ref x)] [(.ref a1)])
  refine W2.ldcS me hEL (List.mem_of_getElem? (i := 0) rfl) (hw _ (List.mem_of_getElem? (i := 87) rfl)) (stratoms g) (vs := [.int (60 : Int32), .int (97 : Int32), .int (108 : Int32), .int (105 : Int32), .int (97 : Int32), .int (115 : Int32), .int (32 : Int32), .int (110 : Int32), .int (97 : Int32), .int (109 : Int32), .int (101 : Int32), .int (61 : Int32), .int (34 : Int32)]) (z := 13) ⟨by decide, by decide⟩ (by decide) (by decide) d_prog_1_method_3_7 (n := 52) (by decide) (by decide) (by decide) (by decide) ?_
  intro T3 h3 a3 b3 k3 W3 E3 A3 C3 V3 B3 N3
  show Fi p e below s Z _ _ _ _ T3 (mkF m 9 #[.val (.ref x)] [(.ref a3), (.ref a1)])
  have LL3 : LatB Z h3 a3 b3 [(60 : Int32), (97 : Int32), (108 : Int32), (105 : Int32), (97 : Int32), (115 : Int32), (32 : Int32), (110 : Int32), (97 : Int32), (109 : Int32), (101 : Int32), (61 : Int32), (34 : Int32)] := ⟨k3, A3, C3, V3, B3, own_le rfl, (by decide : ∀ c ∈ ([(60 : Int32), (97 : Int32), (108 : Int32), (105 : Int32), (97 : Int32), (115 : Int32), (32 : Int32), (110 : Int32), (97 : Int32), (109 : Int32), (101 : Int32), (61 : Int32), (34 : Int32)] : List Int32), ¬ c < 0 ∧ ¬ (255 : Int32) < c)⟩
  have MM3 := M2.ext E3
  have EE3 := own_xt EE2 E3
  refine W3.callV me hEL (hw _ (List.mem_of_getElem? (i := 88) rfl)) (hw _ (List.mem_of_getElem? (i := 89) rfl)) (fun hZ' => notFace_of_selects (args := #[]) (mvT (s := s.setVm _) hZ' (hw _ (List.mem_of_getElem? (i := 91) rfl)))) (hw _ (List.mem_of_getElem? (i := 91) rfl)) (hw _ (List.mem_of_getElem? (i := 90) rfl)) (hw _ (List.mem_of_getElem? (i := 71) rfl)) (hw _ (List.mem_of_getElem? (i := 92) rfl)) (a := a1) (argsL := [(.ref a3)]) (rest := []) MM3.exa (c_app0 g W3.old MM3 LL3 (by simp only [List.length_append, List.length_nil, List.length_cons, List.nil_append]; omega) (List.mem_cons_self ..) hza hzb) d_prog_1_method_3_9 (by decide) (fun _ q => q) rfl (lenOf pd_25 rfl) (own_le rfl) (own_le rfl) (own_le rfl) (own_le rfl) rfl ?_
  intro T4 h4 v4 W4 z4 q4
  obtain ⟨sf4, X4, _, rfl, K4, rfl, M4⟩ := q4
  show Fi p e below s Z _ _ _ _ T4 (mkF m 12 #[.val (.ref x)] [(.ref a1)])
  have EE4 := own_xk EE3 K4 (allS ga (allS gd all0))
  refine W4.aloadN me d_prog_1_method_3_12 rfl rfl ?_
  show Fi p e below s Z _ _ _ _ T4 (mkF m 13 #[.val (.ref x)] [(.ref x), (.ref a1)])
  refine W4.getF me (hw _ (List.mem_of_getElem? (i := 58) rfl)) (FN.ext EE4) Via.refl d_prog_1_method_3_13 ?_
  intro T5 W5
  show Fi p e below s Z _ _ _ _ T5 (mkF m 16 #[.val (.ref x)] [(.ref u), (.ref a1)])
  refine W5.callV me hEL (hw _ (List.mem_of_getElem? (i := 88) rfl)) (hw _ (List.mem_of_getElem? (i := 89) rfl)) (fun hZ' => notFace_of_selects (args := #[]) (mvT (s := s.setVm _) hZ' (hw _ (List.mem_of_getElem? (i := 91) rfl)))) (hw _ (List.mem_of_getElem? (i := 91) rfl)) (hw _ (List.mem_of_getElem? (i := 90) rfl)) (hw _ (List.mem_of_getElem? (i := 71) rfl)) (hw _ (List.mem_of_getElem? (i := 92) rfl)) (a := a1) (argsL := [(.ref u)]) (rest := []) M4.exa (c_app0 g W5.old M4 (LN.ext EE4) (by simp only [List.length_append, List.length_nil, List.length_cons, List.nil_append]; omega) (List.mem_cons_self ..) hza hzb) d_prog_1_method_3_16 (by decide) (fun _ q => q) rfl (lenOf pd_25 rfl) (own_le rfl) (own_le rfl) (own_le rfl) (own_le rfl) rfl ?_
  intro T6 h6 v6 W6 z6 q6
  obtain ⟨sf6, X6, _, rfl, K6, rfl, M6⟩ := q6
  show Fi p e below s Z _ _ _ _ T6 (mkF m 19 #[.val (.ref x)] [(.ref a1)])
  have EE6 := own_xk EE4 K6 (allS ga (allS gd all0))
  show Fi p e below s Z _ _ _ _ T6 (mkF m 19 #[.val (.ref x)] [(.ref a1)])
  refine W6.ldcS me hEL (List.mem_of_getElem? (i := 1) rfl) (hw _ (List.mem_of_getElem? (i := 135) rfl)) (stratoms g) (vs := [.int (34 : Int32), .int (32 : Int32), .int (97 : Int32), .int (108 : Int32), .int (105 : Int32), .int (97 : Int32), .int (115 : Int32), .int (61 : Int32), .int (34 : Int32)]) (z := 9) ⟨by decide, by decide⟩ (by decide) (by decide) d_prog_1_method_3_19 (n := 36) (by decide) (by decide) (by decide) (by decide) ?_
  intro T7 h7 a7 b7 k7 W7 E7 A7 C7 V7 B7 N7
  show Fi p e below s Z _ _ _ _ T7 (mkF m 21 #[.val (.ref x)] [(.ref a7), (.ref a1)])
  have LL7 : LatB Z h7 a7 b7 [(34 : Int32), (32 : Int32), (97 : Int32), (108 : Int32), (105 : Int32), (97 : Int32), (115 : Int32), (61 : Int32), (34 : Int32)] := ⟨k7, A7, C7, V7, B7, own_le rfl, (by decide : ∀ c ∈ ([(34 : Int32), (32 : Int32), (97 : Int32), (108 : Int32), (105 : Int32), (97 : Int32), (115 : Int32), (61 : Int32), (34 : Int32)] : List Int32), ¬ c < 0 ∧ ¬ (255 : Int32) < c)⟩
  have MM7 := M6.ext E7
  have EE7 := own_xt EE6 E7
  refine W7.callV me hEL (hw _ (List.mem_of_getElem? (i := 88) rfl)) (hw _ (List.mem_of_getElem? (i := 89) rfl)) (fun hZ' => notFace_of_selects (args := #[]) (mvT (s := s.setVm _) hZ' (hw _ (List.mem_of_getElem? (i := 91) rfl)))) (hw _ (List.mem_of_getElem? (i := 91) rfl)) (hw _ (List.mem_of_getElem? (i := 90) rfl)) (hw _ (List.mem_of_getElem? (i := 71) rfl)) (hw _ (List.mem_of_getElem? (i := 92) rfl)) (a := a1) (argsL := [(.ref a7)]) (rest := []) MM7.exa (c_app1 (ss := []) g W7.old MM7 LL7 (by simp only [List.length_append, List.length_nil, List.length_cons, List.nil_append]; omega) (by simp only [List.length_append, List.length_nil, List.length_cons, List.nil_append]; omega) (by decide) hza) d_prog_1_method_3_21 (by decide) (fun _ q => nomatch q) rfl (lenOf pd_25 rfl) (own_le rfl) (own_le rfl) (own_le rfl) (own_le rfl) rfl ?_
  intro T8 h8 v8 W8 z8 q8
  obtain ⟨sf8, X8, _, rfl, K8, rfl, d8, y8, s8, M8⟩ := q8
  show Fi p e below s Z _ _ _ _ T8 (mkF m 24 #[.val (.ref x)] [(.ref a1)])
  replace W8 := X8 [d8] (allS s8 all0)
  have hsz8 := EE7.1
  have EE8 := own_xk EE7 K8 (allS ga (allS gd all0))
  have gd8 : h0.size ≤ d8 := Nat.le_trans hsz8 y8
  have hzb8 : Z.heap.size ≤ d8 := by have := hO.2.1; omega
  refine W8.aloadN me d_prog_1_method_3_24 rfl rfl ?_
  show Fi p e below s Z _ _ _ _ T8 (mkF m 25 #[.val (.ref x)] [(.ref x), (.ref a1)])
  refine W8.getF me (hw _ (List.mem_of_getElem? (i := 60) rfl)) (FA.ext EE8) Via.refl d_prog_1_method_3_25 ?_
  intro T9 W9
  show Fi p e below s Z _ _ _ _ T9 (mkF m 28 #[.val (.ref x)] [(.ref v), (.ref a1)])
  refine W9.callV me hEL (hw _ (List.mem_of_getElem? (i := 88) rfl)) (hw _ (List.mem_of_getElem? (i := 89) rfl)) (fun hZ' => notFace_of_selects (args := #[]) (mvT (s := s.setVm _) hZ' (hw _ (List.mem_of_getElem? (i := 91) rfl)))) (hw _ (List.mem_of_getElem? (i := 91) rfl)) (hw _ (List.mem_of_getElem? (i := 90) rfl)) (hw _ (List.mem_of_getElem? (i := 71) rfl)) (hw _ (List.mem_of_getElem? (i := 92) rfl)) (a := a1) (argsL := [(.ref v)]) (rest := []) M8.exa (c_app0 g W9.old M8 (LA.ext EE8) (by simp only [List.length_append, List.length_nil, List.length_cons, List.nil_append]; omega) (List.mem_cons_self ..) hza hzb8) d_prog_1_method_3_28 (by decide) (fun _ q => q) rfl (lenOf pd_25 rfl) (own_le rfl) (own_le rfl) (own_le rfl) (own_le rfl) rfl ?_
  intro T10 h10 v10 W10 z10 q10
  obtain ⟨sf10, X10, _, rfl, K10, rfl, M10⟩ := q10
  show Fi p e below s Z _ _ _ _ T10 (mkF m 31 #[.val (.ref x)] [(.ref a1)])
  have EE10 := own_xk EE8 K10 (allS ga (allS gd8 all0))
  show Fi p e below s Z _ _ _ _ T10 (mkF m 31 #[.val (.ref x)] [(.ref a1)])
  refine W10.ldcS me hEL (List.mem_of_getElem? (i := 2) rfl) (hw _ (List.mem_of_getElem? (i := 159) rfl)) (stratoms g) (vs := [.int (34 : Int32), .int (47 : Int32), .int (62 : Int32)]) (z := 3) ⟨by decide, by decide⟩ (by decide) (by decide) d_prog_1_method_3_31 (n := 12) (by decide) (by decide) (by decide) (by decide) ?_
  intro T11 h11 a11 b11 k11 W11 E11 A11 C11 V11 B11 N11
  show Fi p e below s Z _ _ _ _ T11 (mkF m 33 #[.val (.ref x)] [(.ref a11), (.ref a1)])
  have LL11 : LatB Z h11 a11 b11 [(34 : Int32), (47 : Int32), (62 : Int32)] := ⟨k11, A11, C11, V11, B11, own_le rfl, (by decide : ∀ c ∈ ([(34 : Int32), (47 : Int32), (62 : Int32)] : List Int32), ¬ c < 0 ∧ ¬ (255 : Int32) < c)⟩
  have MM11 := M10.ext E11
  have EE11 := own_xt EE10 E11
  refine W11.callV me hEL (hw _ (List.mem_of_getElem? (i := 88) rfl)) (hw _ (List.mem_of_getElem? (i := 89) rfl)) (fun hZ' => notFace_of_selects (args := #[]) (mvT (s := s.setVm _) hZ' (hw _ (List.mem_of_getElem? (i := 91) rfl)))) (hw _ (List.mem_of_getElem? (i := 91) rfl)) (hw _ (List.mem_of_getElem? (i := 90) rfl)) (hw _ (List.mem_of_getElem? (i := 71) rfl)) (hw _ (List.mem_of_getElem? (i := 92) rfl)) (a := a1) (argsL := [(.ref a11)]) (rest := []) MM11.exa (c_app0 g W11.old MM11 LL11 (by simp only [List.length_append, List.length_nil, List.length_cons, List.nil_append]; omega) (List.mem_cons_self ..) hza hzb8) d_prog_1_method_3_33 (by decide) (fun _ q => q) rfl (lenOf pd_25 rfl) (own_le rfl) (own_le rfl) (own_le rfl) (own_le rfl) rfl ?_
  intro T12 h12 v12 W12 z12 q12
  obtain ⟨sf12, X12, _, rfl, K12, rfl, M12⟩ := q12
  show Fi p e below s Z _ _ _ _ T12 (mkF m 36 #[.val (.ref x)] [(.ref a1)])
  have EE12 := own_xk EE11 K12 (allS ga (allS gd8 all0))
  show Fi p e below s Z _ _ _ _ T12 (mkF m 36 #[.val (.ref x)] [(.ref a1)])
  refine W12.callV me hEL (hw _ (List.mem_of_getElem? (i := 160) rfl)) (hw _ (List.mem_of_getElem? (i := 161) rfl)) (fun hZ' => notFace_of_selects (args := #[]) (mvT (s := s.setVm _) hZ' (hw _ (List.mem_of_getElem? (i := 163) rfl)))) (hw _ (List.mem_of_getElem? (i := 163) rfl)) (hw _ (List.mem_of_getElem? (i := 162) rfl)) (hw _ (List.mem_of_getElem? (i := 71) rfl)) (hw _ (List.mem_of_getElem? (i := 164) rfl)) (a := a1) (argsL := []) (rest := []) M12.exa (c_tostr (ss := []) g W12.old M12 (by simp only [List.length_append, List.length_nil, List.length_cons, List.nil_append]; omega) (by simp only [List.length_append, List.length_nil, List.length_cons, List.nil_append]; omega)) d_prog_1_method_3_36 (by decide) (fun _ q => nomatch q) rfl (lenOf pd_26 rfl) (own_le rfl) (own_le rfl) (own_le rfl) (own_le rfl) rfl ?_
  intro T13 h13 v13 W13 z13 q13
  obtain ⟨sf13, X13, _, rfl, E13, d13, rfl, L13⟩ := q13
  show Fi p e below s Z _ _ _ _ T13 (mkF m 39 #[.val (.ref x)] [(.ref d13)])
  exact W13.retA hEL me d_prog_1_method_3_39 ⟨own_xt EE12 E13, d13, rfl, L13⟩ (by decide) (by decide) rfl rfl rfl

set_option maxRecDepth 65536 in
set_option maxHeartbeats 4000000 in
theorem c_at {l : Launch} {Z : State} {a0 : Array Value} {kn : Bool} (g : Gl Z a0) {ws : List Cond} {h0 : Heap} {ss : List Addr} (hO : Old Z Z.heap.size h0) {a d : Addr} {cs ds : List Int32} {o k : Nat} (L : Lat Z h0 a cs) (M : Lat Z h0 d ds) (hk : k < 20) (hq : k < ds.length → o + k < cs.length ∧ cs.getD (o + k) 0 = ds.getD k 0) :
    Con l Z consts_1 kn ws (⟨"com/example/cadi/cadi/AliasToStringPinLaw", "at", "(Ljava/lang/String;ILjava/lang/String;I)Z"⟩ : MethodName) method_5_code 4 (some .boolean) ({ frames := 4, cells := 0, slots := 0, locals := 54 } : Room) #[(.ref a), (.int (Int32.ofNat o)), (.ref d), (.int (Int32.ofNat k))] h0 ss (rV fun v h => h0 = h ∧ v = .int 1) := by
  have hw := g.1
  have hEL := g.2.1
  refine Con.of (plainFor_of_name pn_9) hO ?_
  intro p e s m below meth c T0 me W0
  refine Fi.entry (L := #[.val (.ref a), .val (.int (Int32.ofNat o)), .val (.ref d), .val (.int (Int32.ofNat k))]) (by first | (simp [entryFrame, mkF, argsToLocals, Value.category, maxLocals]; done) | (simp [entryFrame, mkF, argsToLocals, Value.category]; done) | rfl) ?_
  have hl20 : cs.length < 2 ^ 20 := by obtain ⟨_, _, _, _, _, _, q, _⟩ := L; exact q
  have hd20 : ds.length < 2 ^ 20 := by obtain ⟨_, _, _, _, _, _, q, _⟩ := M; exact q
  refine W0.iloadN me d_method_5_0 rfl ?_
  refine W0.aloadN me d_method_5_1 rfl rfl ?_
  show Fi p e below s Z _ _ _ _ T0 (mkF m 2 #[.val (.ref a), .val (.int (Int32.ofNat o)), .val (.ref d), .val (.int (Int32.ofNat k))] [(.ref d), (.int (Int32.ofNat k))])
  refine W0.callV me hEL (hw _ (List.mem_of_getElem? (i := 199) rfl)) (hw _ (List.mem_of_getElem? (i := 99) rfl)) (fun hZ' => notFace_of_selects (args := #[]) (mvT (s := s.setVm _) hZ' (hw _ (List.mem_of_getElem? (i := 101) rfl)))) (hw _ (List.mem_of_getElem? (i := 101) rfl)) (hw _ (List.mem_of_getElem? (i := 100) rfl)) (hw _ (List.mem_of_getElem? (i := 6) rfl)) (hw _ (List.mem_of_getElem? (i := 102) rfl)) (a := d) (argsL := []) (rest := [(.int (Int32.ofNat k))]) M.exa (c_length (ss := []) g W0.old M) d_method_5_2 (by decide) (fun _ q => nomatch q) rfl (lenOf pd_17 rfl) (own_le rfl) (own_le rfl) (own_le rfl) (own_le rfl) rfl ?_
  intro T1 h1 v1 W1 z1 q1
  obtain ⟨sf1, X1, _, rfl, rfl, rfl⟩ := q1
  show Fi p e below s Z _ _ _ _ T1 (mkF m 5 #[.val (.ref a), .val (.int (Int32.ofNat o)), .val (.ref d), .val (.int (Int32.ofNat k))] [(.int (Int32.ofNat ds.length)), (.int (Int32.ofNat k))])
  by_cases hkd : k < ds.length
  ·
    show Fi p e below s Z _ _ _ _ T1 (mkF m 5 #[.val (.ref a), .val (.int (Int32.ofNat o)), .val (.ref d), .val (.int (Int32.ofNat k))] [(.int (Int32.ofNat ds.length)), (.int (Int32.ofNat k))])
    obtain ⟨hlt, heq⟩ := hq hkd
    refine W1.icN_ge me d_method_5_5 (on_lt hkd (by omega)) ?_
    show Fi p e below s Z _ _ _ _ T1 (mkF m 8 #[.val (.ref a), .val (.int (Int32.ofNat o)), .val (.ref d), .val (.int (Int32.ofNat k))] [])
    refine W1.iloadN me d_method_5_8 rfl ?_
    refine W1.iloadN me d_method_5_9 rfl ?_
    show Fi p e below s Z _ _ _ _ T1 (mkF m 10 #[.val (.ref a), .val (.int (Int32.ofNat o)), .val (.ref d), .val (.int (Int32.ofNat k))] [(.int (Int32.ofNat k)), (.int (Int32.ofNat o))])
    refine W1.iadd me d_method_5_10 ?_
    rw [on_add]
    show Fi p e below s Z _ _ _ _ T1 (mkF m 11 #[.val (.ref a), .val (.int (Int32.ofNat o)), .val (.ref d), .val (.int (Int32.ofNat k))] [(.int (Int32.ofNat (o + k)))])
    refine W1.aloadN me d_method_5_11 rfl rfl ?_
    show Fi p e below s Z _ _ _ _ T1 (mkF m 12 #[.val (.ref a), .val (.int (Int32.ofNat o)), .val (.ref d), .val (.int (Int32.ofNat k))] [(.ref a), (.int (Int32.ofNat (o + k)))])
    refine W1.callV me hEL (hw _ (List.mem_of_getElem? (i := 199) rfl)) (hw _ (List.mem_of_getElem? (i := 99) rfl)) (fun hZ' => notFace_of_selects (args := #[]) (mvT (s := s.setVm _) hZ' (hw _ (List.mem_of_getElem? (i := 101) rfl)))) (hw _ (List.mem_of_getElem? (i := 101) rfl)) (hw _ (List.mem_of_getElem? (i := 100) rfl)) (hw _ (List.mem_of_getElem? (i := 6) rfl)) (hw _ (List.mem_of_getElem? (i := 102) rfl)) (a := a) (argsL := []) (rest := [(.int (Int32.ofNat (o + k)))]) L.exa (c_length (ss := []) g W1.old L) d_method_5_12 (by decide) (fun _ q => nomatch q) rfl (lenOf pd_17 rfl) (own_le rfl) (own_le rfl) (own_le rfl) (own_le rfl) rfl ?_
    intro T2 h2 v2 W2 z2 q2
    obtain ⟨sf2, X2, _, rfl, rfl, rfl⟩ := q2
    show Fi p e below s Z _ _ _ _ T2 (mkF m 15 #[.val (.ref a), .val (.int (Int32.ofNat o)), .val (.ref d), .val (.int (Int32.ofNat k))] [(.int (Int32.ofNat cs.length)), (.int (Int32.ofNat (o + k)))])
    refine W2.icN_ge me d_method_5_15 (on_lt hlt (by omega)) ?_
    show Fi p e below s Z _ _ _ _ T2 (mkF m 18 #[.val (.ref a), .val (.int (Int32.ofNat o)), .val (.ref d), .val (.int (Int32.ofNat k))] [])
    refine W2.aloadN me d_method_5_18 rfl rfl ?_
    refine W2.iloadN me d_method_5_19 rfl ?_
    refine W2.iloadN me d_method_5_20 rfl ?_
    show Fi p e below s Z _ _ _ _ T2 (mkF m 21 #[.val (.ref a), .val (.int (Int32.ofNat o)), .val (.ref d), .val (.int (Int32.ofNat k))] [(.int (Int32.ofNat k)), (.int (Int32.ofNat o)), (.ref a)])
    refine W2.iadd me d_method_5_21 ?_
    rw [on_add]
    show Fi p e below s Z _ _ _ _ T2 (mkF m 22 #[.val (.ref a), .val (.int (Int32.ofNat o)), .val (.ref d), .val (.int (Int32.ofNat k))] [(.int (Int32.ofNat (o + k))), (.ref a)])
    show Fi p e below s Z _ _ _ _ T2 (mkF m 22 #[.val (.ref a), .val (.int (Int32.ofNat o)), .val (.ref d), .val (.int (Int32.ofNat k))] [(.int (Int32.ofNat (o + k))), (.ref a)])
    refine W2.callV me hEL (hw _ (List.mem_of_getElem? (i := 207) rfl)) (hw _ (List.mem_of_getElem? (i := 208) rfl)) (fun hZ' => notFace_of_selects (args := #[]) (mvT (s := s.setVm _) hZ' (hw _ (List.mem_of_getElem? (i := 210) rfl)))) (hw _ (List.mem_of_getElem? (i := 210) rfl)) (hw _ (List.mem_of_getElem? (i := 209) rfl)) (hw _ (List.mem_of_getElem? (i := 6) rfl)) (hw _ (List.mem_of_getElem? (i := 211) rfl)) (a := a) (argsL := [(.int (Int32.ofNat (o + k)))]) (rest := []) L.exa (c_charat (ss := []) g W2.old L hlt) d_method_5_22 (by decide) (fun _ q => nomatch q) rfl (lenOf pd_27 rfl) (own_le rfl) (own_le rfl) (own_le rfl) (own_le rfl) rfl ?_
    intro T3 h3 v3 W3 z3 q3
    obtain ⟨sf3, X3, _, rfl, rfl, rfl⟩ := q3
    show Fi p e below s Z _ _ _ _ T3 (mkF m 25 #[.val (.ref a), .val (.int (Int32.ofNat o)), .val (.ref d), .val (.int (Int32.ofNat k))] [(.int (cs.getD (o + k) 0))])
    refine W3.aloadN me d_method_5_25 rfl rfl ?_
    refine W3.iloadN me d_method_5_26 rfl ?_
    show Fi p e below s Z _ _ _ _ T3 (mkF m 27 #[.val (.ref a), .val (.int (Int32.ofNat o)), .val (.ref d), .val (.int (Int32.ofNat k))] [(.int (Int32.ofNat k)), (.ref d), (.int (cs.getD (o + k) 0))])
    refine W3.callV me hEL (hw _ (List.mem_of_getElem? (i := 207) rfl)) (hw _ (List.mem_of_getElem? (i := 208) rfl)) (fun hZ' => notFace_of_selects (args := #[]) (mvT (s := s.setVm _) hZ' (hw _ (List.mem_of_getElem? (i := 210) rfl)))) (hw _ (List.mem_of_getElem? (i := 210) rfl)) (hw _ (List.mem_of_getElem? (i := 209) rfl)) (hw _ (List.mem_of_getElem? (i := 6) rfl)) (hw _ (List.mem_of_getElem? (i := 211) rfl)) (a := d) (argsL := [(.int (Int32.ofNat k))]) (rest := [(.int (cs.getD (o + k) 0))]) M.exa (c_charat (ss := []) g W3.old M hkd) d_method_5_27 (by decide) (fun _ q => nomatch q) rfl (lenOf pd_27 rfl) (own_le rfl) (own_le rfl) (own_le rfl) (own_le rfl) rfl ?_
    intro T4 h4 v4 W4 z4 q4
    obtain ⟨sf4, X4, _, rfl, rfl, rfl⟩ := q4
    show Fi p e below s Z _ _ _ _ T4 (mkF m 30 #[.val (.ref a), .val (.int (Int32.ofNat o)), .val (.ref d), .val (.int (Int32.ofNat k))] [(.int (ds.getD k 0)), (.int (cs.getD (o + k) 0))])
    refine W4.icN_ne me d_method_5_30 heq ?_
    show Fi p e below s Z _ _ _ _ T4 (mkF m 33 #[.val (.ref a), .val (.int (Int32.ofNat o)), .val (.ref d), .val (.int (Int32.ofNat k))] [])
    refine W4.iconst me d_method_5_33 (v := 1) rfl ?_
    refine W4.goto me d_method_5_34 (pc' := 38) (by decide) (by decide) ?_
    show Fi p e below s Z _ _ _ _ T4 (mkF m 38 #[.val (.ref a), .val (.int (Int32.ofNat o)), .val (.ref d), .val (.int (Int32.ofNat k))] [(.int (1 : Int32))])
    exact W4.retN hEL me (Or.inl rfl) d_method_5_38 ⟨rfl, rfl⟩ (by decide) (by decide)
  ·
    show Fi p e below s Z _ _ _ _ T1 (mkF m 5 #[.val (.ref a), .val (.int (Int32.ofNat o)), .val (.ref d), .val (.int (Int32.ofNat k))] [(.int (Int32.ofNat ds.length)), (.int (Int32.ofNat k))])
    refine W1.icY_ge me d_method_5_5 (on_nlt (by omega) (by omega)) (pc' := 33) (by decide) (by decide) ?_
    show Fi p e below s Z _ _ _ _ T1 (mkF m 33 #[.val (.ref a), .val (.int (Int32.ofNat o)), .val (.ref d), .val (.int (Int32.ofNat k))] [])
    refine W1.iconst me d_method_5_33 (v := 1) rfl ?_
    refine W1.goto me d_method_5_34 (pc' := 38) (by decide) (by decide) ?_
    show Fi p e below s Z _ _ _ _ T1 (mkF m 38 #[.val (.ref a), .val (.int (Int32.ofNat o)), .val (.ref d), .val (.int (Int32.ofNat k))] [(.int (1 : Int32))])
    exact W1.retN hEL me (Or.inl rfl) d_method_5_38 ⟨rfl, rfl⟩ (by decide) (by decide)

set_option maxRecDepth 65536 in
set_option maxHeartbeats 4000000 in
theorem c_lit {l : Launch} {Z : State} {a0 : Array Value} {kn : Bool} (g : Gl Z a0) {ws : List Cond} {h0 : Heap} {ss : List Addr} (hO : Old Z Z.heap.size h0) {a d : Addr} {cs ds : List Int32} {o : Nat} (L : Lat Z h0 a cs) (M : Lat Z h0 d ds) (hq : ∀ k, k < ds.length → o + k < cs.length ∧ cs.getD (o + k) 0 = ds.getD k 0) :
    Con l Z consts_1 kn ws (⟨"com/example/cadi/cadi/AliasToStringPinLaw", "lit", "(Ljava/lang/String;ILjava/lang/String;)Z"⟩ : MethodName) method_4_code 3 (some .boolean) ({ frames := 5, cells := 0, slots := 0, locals := 69 } : Room) #[(.ref a), (.int (Int32.ofNat o)), (.ref d)] h0 ss (rV fun v h => h0 = h ∧ v = .int 1) := by
  have hw := g.1
  have hEL := g.2.1
  refine Con.of (plainFor_of_name pn_9) hO ?_
  intro p e s m below meth c T0 me W0
  refine Fi.entry (L := #[.val (.ref a), .val (.int (Int32.ofNat o)), .val (.ref d)]) (by first | (simp [entryFrame, mkF, argsToLocals, Value.category, maxLocals]; done) | (simp [entryFrame, mkF, argsToLocals, Value.category]; done) | rfl) ?_
  refine W0.aloadN me d_method_4_0 rfl rfl ?_
  refine W0.iloadN me d_method_4_1 rfl ?_
  refine W0.aloadN me d_method_4_2 rfl rfl ?_
  refine W0.iconst me d_method_4_3 (v := 0) rfl ?_
  show Fi p e below s Z _ _ _ _ T0 (mkF m 4 #[.val (.ref a), .val (.int (Int32.ofNat o)), .val (.ref d)] [(.int (0 : Int32)), (.ref d), (.int (Int32.ofNat o)), (.ref a)])
  refine W0.callS me hEL (hw _ (List.mem_of_getElem? (i := 204) rfl)) (hw _ (List.mem_of_getElem? (i := 205) rfl)) (hw _ (List.mem_of_getElem? (i := 2) rfl)) (hw _ (List.mem_of_getElem? (i := 206) rfl)) (argsL := [(.ref a), (.int (Int32.ofNat o)), (.ref d), (.int (0 : Int32))]) (rest := []) (c_at (ss := []) g W0.old (k := 0) L M (by decide) (hq 0)) d_method_4_4 (by decide) (fun _ q => nomatch q) rfl (lenOf pd_28 rfl) (own_le rfl) (own_le rfl) (own_le rfl) (own_le rfl) rfl ?_
  intro T1 h1 v1 W1 z1 q1
  obtain ⟨sf1, X1, _, rfl, rfl, rfl⟩ := q1
  show Fi p e below s Z _ _ _ _ T1 (mkF m 7 #[.val (.ref a), .val (.int (Int32.ofNat o)), .val (.ref d)] [(.int (1 : Int32))])
  refine W1.ifN_eq me d_method_4_7 (by decide) ?_
  show Fi p e below s Z _ _ _ _ T1 (mkF m 10 #[.val (.ref a), .val (.int (Int32.ofNat o)), .val (.ref d)] [])
  refine W1.aloadN me d_method_4_10 rfl rfl ?_
  refine W1.iloadN me d_method_4_11 rfl ?_
  refine W1.aloadN me d_method_4_12 rfl rfl ?_
  refine W1.iconst me d_method_4_13 (v := 1) rfl ?_
  show Fi p e below s Z _ _ _ _ T1 (mkF m 14 #[.val (.ref a), .val (.int (Int32.ofNat o)), .val (.ref d)] [(.int (1 : Int32)), (.ref d), (.int (Int32.ofNat o)), (.ref a)])
  refine W1.callS me hEL (hw _ (List.mem_of_getElem? (i := 204) rfl)) (hw _ (List.mem_of_getElem? (i := 205) rfl)) (hw _ (List.mem_of_getElem? (i := 2) rfl)) (hw _ (List.mem_of_getElem? (i := 206) rfl)) (argsL := [(.ref a), (.int (Int32.ofNat o)), (.ref d), (.int (1 : Int32))]) (rest := []) (c_at (ss := []) g W1.old (k := 1) L M (by decide) (hq 1)) d_method_4_14 (by decide) (fun _ q => nomatch q) rfl (lenOf pd_28 rfl) (own_le rfl) (own_le rfl) (own_le rfl) (own_le rfl) rfl ?_
  intro T2 h2 v2 W2 z2 q2
  obtain ⟨sf2, X2, _, rfl, rfl, rfl⟩ := q2
  show Fi p e below s Z _ _ _ _ T2 (mkF m 17 #[.val (.ref a), .val (.int (Int32.ofNat o)), .val (.ref d)] [(.int (1 : Int32))])
  refine W2.ifN_eq me d_method_4_17 (by decide) ?_
  show Fi p e below s Z _ _ _ _ T2 (mkF m 20 #[.val (.ref a), .val (.int (Int32.ofNat o)), .val (.ref d)] [])
  refine W2.aloadN me d_method_4_20 rfl rfl ?_
  refine W2.iloadN me d_method_4_21 rfl ?_
  refine W2.aloadN me d_method_4_22 rfl rfl ?_
  refine W2.iconst me d_method_4_23 (v := 2) rfl ?_
  show Fi p e below s Z _ _ _ _ T2 (mkF m 24 #[.val (.ref a), .val (.int (Int32.ofNat o)), .val (.ref d)] [(.int (2 : Int32)), (.ref d), (.int (Int32.ofNat o)), (.ref a)])
  refine W2.callS me hEL (hw _ (List.mem_of_getElem? (i := 204) rfl)) (hw _ (List.mem_of_getElem? (i := 205) rfl)) (hw _ (List.mem_of_getElem? (i := 2) rfl)) (hw _ (List.mem_of_getElem? (i := 206) rfl)) (argsL := [(.ref a), (.int (Int32.ofNat o)), (.ref d), (.int (2 : Int32))]) (rest := []) (c_at (ss := []) g W2.old (k := 2) L M (by decide) (hq 2)) d_method_4_24 (by decide) (fun _ q => nomatch q) rfl (lenOf pd_28 rfl) (own_le rfl) (own_le rfl) (own_le rfl) (own_le rfl) rfl ?_
  intro T3 h3 v3 W3 z3 q3
  obtain ⟨sf3, X3, _, rfl, rfl, rfl⟩ := q3
  show Fi p e below s Z _ _ _ _ T3 (mkF m 27 #[.val (.ref a), .val (.int (Int32.ofNat o)), .val (.ref d)] [(.int (1 : Int32))])
  refine W3.ifN_eq me d_method_4_27 (by decide) ?_
  show Fi p e below s Z _ _ _ _ T3 (mkF m 30 #[.val (.ref a), .val (.int (Int32.ofNat o)), .val (.ref d)] [])
  refine W3.aloadN me d_method_4_30 rfl rfl ?_
  refine W3.iloadN me d_method_4_31 rfl ?_
  refine W3.aloadN me d_method_4_32 rfl rfl ?_
  refine W3.iconst me d_method_4_33 (v := 3) rfl ?_
  show Fi p e below s Z _ _ _ _ T3 (mkF m 34 #[.val (.ref a), .val (.int (Int32.ofNat o)), .val (.ref d)] [(.int (3 : Int32)), (.ref d), (.int (Int32.ofNat o)), (.ref a)])
  refine W3.callS me hEL (hw _ (List.mem_of_getElem? (i := 204) rfl)) (hw _ (List.mem_of_getElem? (i := 205) rfl)) (hw _ (List.mem_of_getElem? (i := 2) rfl)) (hw _ (List.mem_of_getElem? (i := 206) rfl)) (argsL := [(.ref a), (.int (Int32.ofNat o)), (.ref d), (.int (3 : Int32))]) (rest := []) (c_at (ss := []) g W3.old (k := 3) L M (by decide) (hq 3)) d_method_4_34 (by decide) (fun _ q => nomatch q) rfl (lenOf pd_28 rfl) (own_le rfl) (own_le rfl) (own_le rfl) (own_le rfl) rfl ?_
  intro T4 h4 v4 W4 z4 q4
  obtain ⟨sf4, X4, _, rfl, rfl, rfl⟩ := q4
  show Fi p e below s Z _ _ _ _ T4 (mkF m 37 #[.val (.ref a), .val (.int (Int32.ofNat o)), .val (.ref d)] [(.int (1 : Int32))])
  refine W4.ifN_eq me d_method_4_37 (by decide) ?_
  show Fi p e below s Z _ _ _ _ T4 (mkF m 40 #[.val (.ref a), .val (.int (Int32.ofNat o)), .val (.ref d)] [])
  refine W4.aloadN me d_method_4_40 rfl rfl ?_
  refine W4.iloadN me d_method_4_41 rfl ?_
  refine W4.aloadN me d_method_4_42 rfl rfl ?_
  refine W4.iconst me d_method_4_43 (v := 4) rfl ?_
  show Fi p e below s Z _ _ _ _ T4 (mkF m 44 #[.val (.ref a), .val (.int (Int32.ofNat o)), .val (.ref d)] [(.int (4 : Int32)), (.ref d), (.int (Int32.ofNat o)), (.ref a)])
  refine W4.callS me hEL (hw _ (List.mem_of_getElem? (i := 204) rfl)) (hw _ (List.mem_of_getElem? (i := 205) rfl)) (hw _ (List.mem_of_getElem? (i := 2) rfl)) (hw _ (List.mem_of_getElem? (i := 206) rfl)) (argsL := [(.ref a), (.int (Int32.ofNat o)), (.ref d), (.int (4 : Int32))]) (rest := []) (c_at (ss := []) g W4.old (k := 4) L M (by decide) (hq 4)) d_method_4_44 (by decide) (fun _ q => nomatch q) rfl (lenOf pd_28 rfl) (own_le rfl) (own_le rfl) (own_le rfl) (own_le rfl) rfl ?_
  intro T5 h5 v5 W5 z5 q5
  obtain ⟨sf5, X5, _, rfl, rfl, rfl⟩ := q5
  show Fi p e below s Z _ _ _ _ T5 (mkF m 47 #[.val (.ref a), .val (.int (Int32.ofNat o)), .val (.ref d)] [(.int (1 : Int32))])
  refine W5.ifN_eq me d_method_4_47 (by decide) ?_
  show Fi p e below s Z _ _ _ _ T5 (mkF m 50 #[.val (.ref a), .val (.int (Int32.ofNat o)), .val (.ref d)] [])
  refine W5.aloadN me d_method_4_50 rfl rfl ?_
  refine W5.iloadN me d_method_4_51 rfl ?_
  refine W5.aloadN me d_method_4_52 rfl rfl ?_
  refine W5.iconst me d_method_4_53 (v := 5) rfl ?_
  show Fi p e below s Z _ _ _ _ T5 (mkF m 54 #[.val (.ref a), .val (.int (Int32.ofNat o)), .val (.ref d)] [(.int (5 : Int32)), (.ref d), (.int (Int32.ofNat o)), (.ref a)])
  refine W5.callS me hEL (hw _ (List.mem_of_getElem? (i := 204) rfl)) (hw _ (List.mem_of_getElem? (i := 205) rfl)) (hw _ (List.mem_of_getElem? (i := 2) rfl)) (hw _ (List.mem_of_getElem? (i := 206) rfl)) (argsL := [(.ref a), (.int (Int32.ofNat o)), (.ref d), (.int (5 : Int32))]) (rest := []) (c_at (ss := []) g W5.old (k := 5) L M (by decide) (hq 5)) d_method_4_54 (by decide) (fun _ q => nomatch q) rfl (lenOf pd_28 rfl) (own_le rfl) (own_le rfl) (own_le rfl) (own_le rfl) rfl ?_
  intro T6 h6 v6 W6 z6 q6
  obtain ⟨sf6, X6, _, rfl, rfl, rfl⟩ := q6
  show Fi p e below s Z _ _ _ _ T6 (mkF m 57 #[.val (.ref a), .val (.int (Int32.ofNat o)), .val (.ref d)] [(.int (1 : Int32))])
  refine W6.ifN_eq me d_method_4_57 (by decide) ?_
  show Fi p e below s Z _ _ _ _ T6 (mkF m 60 #[.val (.ref a), .val (.int (Int32.ofNat o)), .val (.ref d)] [])
  refine W6.aloadN me d_method_4_60 rfl rfl ?_
  refine W6.iloadN me d_method_4_61 rfl ?_
  refine W6.aloadN me d_method_4_62 rfl rfl ?_
  refine W6.bipush me d_method_4_63 (v := 6) rfl ?_
  show Fi p e below s Z _ _ _ _ T6 (mkF m 65 #[.val (.ref a), .val (.int (Int32.ofNat o)), .val (.ref d)] [(.int (6 : Int32)), (.ref d), (.int (Int32.ofNat o)), (.ref a)])
  refine W6.callS me hEL (hw _ (List.mem_of_getElem? (i := 204) rfl)) (hw _ (List.mem_of_getElem? (i := 205) rfl)) (hw _ (List.mem_of_getElem? (i := 2) rfl)) (hw _ (List.mem_of_getElem? (i := 206) rfl)) (argsL := [(.ref a), (.int (Int32.ofNat o)), (.ref d), (.int (6 : Int32))]) (rest := []) (c_at (ss := []) g W6.old (k := 6) L M (by decide) (hq 6)) d_method_4_65 (by decide) (fun _ q => nomatch q) rfl (lenOf pd_28 rfl) (own_le rfl) (own_le rfl) (own_le rfl) (own_le rfl) rfl ?_
  intro T7 h7 v7 W7 z7 q7
  obtain ⟨sf7, X7, _, rfl, rfl, rfl⟩ := q7
  show Fi p e below s Z _ _ _ _ T7 (mkF m 68 #[.val (.ref a), .val (.int (Int32.ofNat o)), .val (.ref d)] [(.int (1 : Int32))])
  refine W7.ifN_eq me d_method_4_68 (by decide) ?_
  show Fi p e below s Z _ _ _ _ T7 (mkF m 71 #[.val (.ref a), .val (.int (Int32.ofNat o)), .val (.ref d)] [])
  refine W7.aloadN me d_method_4_71 rfl rfl ?_
  refine W7.iloadN me d_method_4_72 rfl ?_
  refine W7.aloadN me d_method_4_73 rfl rfl ?_
  refine W7.bipush me d_method_4_74 (v := 7) rfl ?_
  show Fi p e below s Z _ _ _ _ T7 (mkF m 76 #[.val (.ref a), .val (.int (Int32.ofNat o)), .val (.ref d)] [(.int (7 : Int32)), (.ref d), (.int (Int32.ofNat o)), (.ref a)])
  refine W7.callS me hEL (hw _ (List.mem_of_getElem? (i := 204) rfl)) (hw _ (List.mem_of_getElem? (i := 205) rfl)) (hw _ (List.mem_of_getElem? (i := 2) rfl)) (hw _ (List.mem_of_getElem? (i := 206) rfl)) (argsL := [(.ref a), (.int (Int32.ofNat o)), (.ref d), (.int (7 : Int32))]) (rest := []) (c_at (ss := []) g W7.old (k := 7) L M (by decide) (hq 7)) d_method_4_76 (by decide) (fun _ q => nomatch q) rfl (lenOf pd_28 rfl) (own_le rfl) (own_le rfl) (own_le rfl) (own_le rfl) rfl ?_
  intro T8 h8 v8 W8 z8 q8
  obtain ⟨sf8, X8, _, rfl, rfl, rfl⟩ := q8
  show Fi p e below s Z _ _ _ _ T8 (mkF m 79 #[.val (.ref a), .val (.int (Int32.ofNat o)), .val (.ref d)] [(.int (1 : Int32))])
  refine W8.ifN_eq me d_method_4_79 (by decide) ?_
  show Fi p e below s Z _ _ _ _ T8 (mkF m 82 #[.val (.ref a), .val (.int (Int32.ofNat o)), .val (.ref d)] [])
  refine W8.aloadN me d_method_4_82 rfl rfl ?_
  refine W8.iloadN me d_method_4_83 rfl ?_
  refine W8.aloadN me d_method_4_84 rfl rfl ?_
  refine W8.bipush me d_method_4_85 (v := 8) rfl ?_
  show Fi p e below s Z _ _ _ _ T8 (mkF m 87 #[.val (.ref a), .val (.int (Int32.ofNat o)), .val (.ref d)] [(.int (8 : Int32)), (.ref d), (.int (Int32.ofNat o)), (.ref a)])
  refine W8.callS me hEL (hw _ (List.mem_of_getElem? (i := 204) rfl)) (hw _ (List.mem_of_getElem? (i := 205) rfl)) (hw _ (List.mem_of_getElem? (i := 2) rfl)) (hw _ (List.mem_of_getElem? (i := 206) rfl)) (argsL := [(.ref a), (.int (Int32.ofNat o)), (.ref d), (.int (8 : Int32))]) (rest := []) (c_at (ss := []) g W8.old (k := 8) L M (by decide) (hq 8)) d_method_4_87 (by decide) (fun _ q => nomatch q) rfl (lenOf pd_28 rfl) (own_le rfl) (own_le rfl) (own_le rfl) (own_le rfl) rfl ?_
  intro T9 h9 v9 W9 z9 q9
  obtain ⟨sf9, X9, _, rfl, rfl, rfl⟩ := q9
  show Fi p e below s Z _ _ _ _ T9 (mkF m 90 #[.val (.ref a), .val (.int (Int32.ofNat o)), .val (.ref d)] [(.int (1 : Int32))])
  refine W9.ifN_eq me d_method_4_90 (by decide) ?_
  show Fi p e below s Z _ _ _ _ T9 (mkF m 93 #[.val (.ref a), .val (.int (Int32.ofNat o)), .val (.ref d)] [])
  refine W9.aloadN me d_method_4_93 rfl rfl ?_
  refine W9.iloadN me d_method_4_94 rfl ?_
  refine W9.aloadN me d_method_4_95 rfl rfl ?_
  refine W9.bipush me d_method_4_96 (v := 9) rfl ?_
  show Fi p e below s Z _ _ _ _ T9 (mkF m 98 #[.val (.ref a), .val (.int (Int32.ofNat o)), .val (.ref d)] [(.int (9 : Int32)), (.ref d), (.int (Int32.ofNat o)), (.ref a)])
  refine W9.callS me hEL (hw _ (List.mem_of_getElem? (i := 204) rfl)) (hw _ (List.mem_of_getElem? (i := 205) rfl)) (hw _ (List.mem_of_getElem? (i := 2) rfl)) (hw _ (List.mem_of_getElem? (i := 206) rfl)) (argsL := [(.ref a), (.int (Int32.ofNat o)), (.ref d), (.int (9 : Int32))]) (rest := []) (c_at (ss := []) g W9.old (k := 9) L M (by decide) (hq 9)) d_method_4_98 (by decide) (fun _ q => nomatch q) rfl (lenOf pd_28 rfl) (own_le rfl) (own_le rfl) (own_le rfl) (own_le rfl) rfl ?_
  intro T10 h10 v10 W10 z10 q10
  obtain ⟨sf10, X10, _, rfl, rfl, rfl⟩ := q10
  show Fi p e below s Z _ _ _ _ T10 (mkF m 101 #[.val (.ref a), .val (.int (Int32.ofNat o)), .val (.ref d)] [(.int (1 : Int32))])
  refine W10.ifN_eq me d_method_4_101 (by decide) ?_
  show Fi p e below s Z _ _ _ _ T10 (mkF m 104 #[.val (.ref a), .val (.int (Int32.ofNat o)), .val (.ref d)] [])
  refine W10.aloadN me d_method_4_104 rfl rfl ?_
  refine W10.iloadN me d_method_4_105 rfl ?_
  refine W10.aloadN me d_method_4_106 rfl rfl ?_
  refine W10.bipush me d_method_4_107 (v := 10) rfl ?_
  show Fi p e below s Z _ _ _ _ T10 (mkF m 109 #[.val (.ref a), .val (.int (Int32.ofNat o)), .val (.ref d)] [(.int (10 : Int32)), (.ref d), (.int (Int32.ofNat o)), (.ref a)])
  refine W10.callS me hEL (hw _ (List.mem_of_getElem? (i := 204) rfl)) (hw _ (List.mem_of_getElem? (i := 205) rfl)) (hw _ (List.mem_of_getElem? (i := 2) rfl)) (hw _ (List.mem_of_getElem? (i := 206) rfl)) (argsL := [(.ref a), (.int (Int32.ofNat o)), (.ref d), (.int (10 : Int32))]) (rest := []) (c_at (ss := []) g W10.old (k := 10) L M (by decide) (hq 10)) d_method_4_109 (by decide) (fun _ q => nomatch q) rfl (lenOf pd_28 rfl) (own_le rfl) (own_le rfl) (own_le rfl) (own_le rfl) rfl ?_
  intro T11 h11 v11 W11 z11 q11
  obtain ⟨sf11, X11, _, rfl, rfl, rfl⟩ := q11
  show Fi p e below s Z _ _ _ _ T11 (mkF m 112 #[.val (.ref a), .val (.int (Int32.ofNat o)), .val (.ref d)] [(.int (1 : Int32))])
  refine W11.ifN_eq me d_method_4_112 (by decide) ?_
  show Fi p e below s Z _ _ _ _ T11 (mkF m 115 #[.val (.ref a), .val (.int (Int32.ofNat o)), .val (.ref d)] [])
  refine W11.aloadN me d_method_4_115 rfl rfl ?_
  refine W11.iloadN me d_method_4_116 rfl ?_
  refine W11.aloadN me d_method_4_117 rfl rfl ?_
  refine W11.bipush me d_method_4_118 (v := 11) rfl ?_
  show Fi p e below s Z _ _ _ _ T11 (mkF m 120 #[.val (.ref a), .val (.int (Int32.ofNat o)), .val (.ref d)] [(.int (11 : Int32)), (.ref d), (.int (Int32.ofNat o)), (.ref a)])
  refine W11.callS me hEL (hw _ (List.mem_of_getElem? (i := 204) rfl)) (hw _ (List.mem_of_getElem? (i := 205) rfl)) (hw _ (List.mem_of_getElem? (i := 2) rfl)) (hw _ (List.mem_of_getElem? (i := 206) rfl)) (argsL := [(.ref a), (.int (Int32.ofNat o)), (.ref d), (.int (11 : Int32))]) (rest := []) (c_at (ss := []) g W11.old (k := 11) L M (by decide) (hq 11)) d_method_4_120 (by decide) (fun _ q => nomatch q) rfl (lenOf pd_28 rfl) (own_le rfl) (own_le rfl) (own_le rfl) (own_le rfl) rfl ?_
  intro T12 h12 v12 W12 z12 q12
  obtain ⟨sf12, X12, _, rfl, rfl, rfl⟩ := q12
  show Fi p e below s Z _ _ _ _ T12 (mkF m 123 #[.val (.ref a), .val (.int (Int32.ofNat o)), .val (.ref d)] [(.int (1 : Int32))])
  refine W12.ifN_eq me d_method_4_123 (by decide) ?_
  show Fi p e below s Z _ _ _ _ T12 (mkF m 126 #[.val (.ref a), .val (.int (Int32.ofNat o)), .val (.ref d)] [])
  refine W12.aloadN me d_method_4_126 rfl rfl ?_
  refine W12.iloadN me d_method_4_127 rfl ?_
  refine W12.aloadN me d_method_4_128 rfl rfl ?_
  refine W12.bipush me d_method_4_129 (v := 12) rfl ?_
  show Fi p e below s Z _ _ _ _ T12 (mkF m 131 #[.val (.ref a), .val (.int (Int32.ofNat o)), .val (.ref d)] [(.int (12 : Int32)), (.ref d), (.int (Int32.ofNat o)), (.ref a)])
  refine W12.callS me hEL (hw _ (List.mem_of_getElem? (i := 204) rfl)) (hw _ (List.mem_of_getElem? (i := 205) rfl)) (hw _ (List.mem_of_getElem? (i := 2) rfl)) (hw _ (List.mem_of_getElem? (i := 206) rfl)) (argsL := [(.ref a), (.int (Int32.ofNat o)), (.ref d), (.int (12 : Int32))]) (rest := []) (c_at (ss := []) g W12.old (k := 12) L M (by decide) (hq 12)) d_method_4_131 (by decide) (fun _ q => nomatch q) rfl (lenOf pd_28 rfl) (own_le rfl) (own_le rfl) (own_le rfl) (own_le rfl) rfl ?_
  intro T13 h13 v13 W13 z13 q13
  obtain ⟨sf13, X13, _, rfl, rfl, rfl⟩ := q13
  show Fi p e below s Z _ _ _ _ T13 (mkF m 134 #[.val (.ref a), .val (.int (Int32.ofNat o)), .val (.ref d)] [(.int (1 : Int32))])
  refine W13.ifN_eq me d_method_4_134 (by decide) ?_
  show Fi p e below s Z _ _ _ _ T13 (mkF m 137 #[.val (.ref a), .val (.int (Int32.ofNat o)), .val (.ref d)] [])
  refine W13.iconst me d_method_4_137 (v := 1) rfl ?_
  refine W13.goto me d_method_4_138 (pc' := 142) (by decide) (by decide) ?_
  show Fi p e below s Z _ _ _ _ T13 (mkF m 142 #[.val (.ref a), .val (.int (Int32.ofNat o)), .val (.ref d)] [(.int (1 : Int32))])
  exact W13.retN hEL me (Or.inl rfl) d_method_4_142 ⟨rfl, rfl⟩ (by decide) (by decide)

theorem own_and3 (x : Int32) : ∃ k : Nat, k ≤ 3 ∧ (x &&& (3 : Int32)) = Int32.ofNat k := by
  have q := c_mask x 3 2 (by omega) (by decide)
  refine ⟨(x &&& (3 : Int32)).toInt.toNat, by omega, own_on (by omega) (by omega)⟩
set_option maxRecDepth 65536 in
set_option maxHeartbeats 4000000 in
theorem c_law {l : Launch} {Z : State} {a0 : Array Value} {kn : Bool} (g : Gl Z a0) {ws : List Cond} {h0 : Heap} {ss : List Addr} (hO : Old Z Z.heap.size h0) (p0 p1 p2 p3 : Int32) :
    Con l Z consts_1 kn ws x code maxLocals ret room_1 #[(.int p0), (.int p1), (.int p2), (.int p3)] h0 ss (rV fun v h => v = .int 1) := by
  have hw := g.1
  have hEL := g.2.1
  refine Con.of (plainFor_of_name pn_9) hO ?_
  intro p e s m below meth c T0 me W0
  refine Fi.entry (L := #[.val (.int p0), .val (.int p1), .val (.int p2), .val (.int p3), .unset, .unset, .unset, .unset, .unset, .unset, .unset]) (by first | (simp [entryFrame, mkF, argsToLocals, Value.category, maxLocals]; done) | (simp [entryFrame, mkF, argsToLocals, Value.category]; done) | rfl) ?_
  refine W0.iloadN me at_0 rfl ?_
  refine W0.iloadN me at_1 rfl ?_
  refine W0.iconst me at_2 (v := 3) rfl ?_
  refine W0.iand me at_3 ?_
  show Fi p e below s Z _ _ _ _ T0 (mkF m 4 #[.val (.int p0), .val (.int p1), .val (.int p2), .val (.int p3), .unset, .unset, .unset, .unset, .unset, .unset, .unset] [(.int (p3 &&& (3 : Int32))), (.int p0)])
  obtain ⟨kns, hkns, ekns⟩ := own_and3 p3
  rw [ekns]
  show Fi p e below s Z _ _ _ _ T0 (mkF m 4 #[.val (.int p0), .val (.int p1), .val (.int p2), .val (.int p3), .unset, .unset, .unset, .unset, .unset, .unset, .unset] [(.int (Int32.ofNat kns)), (.int p0)])
  refine W0.callS me hEL (hw _ (List.mem_of_getElem? (i := 0) rfl)) (hw _ (List.mem_of_getElem? (i := 1) rfl)) (hw _ (List.mem_of_getElem? (i := 2) rfl)) (hw _ (List.mem_of_getElem? (i := 3) rfl)) (argsL := [(.int p0), (.int (Int32.ofNat kns))]) (rest := []) (c_draw (ss := []) g W0.old hkns) at_4 (by decide) (fun _ q => nomatch q) rfl (lenOf pd_29 rfl) (own_le rfl) (own_le rfl) (own_le rfl) (own_le rfl) rfl ?_
  intro T1 h1 v1 W1 z1 q1
  obtain ⟨sf1, X1, _, rfl, E1, a1, ns, rfl, L1, l1⟩ := q1
  show Fi p e below s Z _ _ _ _ T1 (mkF m 7 #[.val (.int p0), .val (.int p1), .val (.int p2), .val (.int p3), .unset, .unset, .unset, .unset, .unset, .unset, .unset] [(.ref a1)])
  refine W1.astore me at_7 (l' := #[.val (.int p0), .val (.int p1), .val (.int p2), .val (.int p3), .val (.ref a1), .unset, .unset, .unset, .unset, .unset, .unset]) rfl rfl ?_
  refine W1.iloadN me at_9 rfl ?_
  refine W1.iloadN me at_10 rfl ?_
  refine W1.iconst me at_11 (v := 2) rfl ?_
  refine W1.iushr me at_12 ?_
  refine W1.iconst me at_13 (v := 3) rfl ?_
  refine W1.iand me at_14 ?_
  show Fi p e below s Z _ _ _ _ T1 (mkF m 15 #[.val (.int p0), .val (.int p1), .val (.int p2), .val (.int p3), .val (.ref a1), .unset, .unset, .unset, .unset, .unset, .unset] [(.int ((XT.ushr p3 (2 : Int32)) &&& (3 : Int32))), (.int p1)])
  obtain ⟨kas, hkas, ekas⟩ := own_and3 (XT.ushr p3 (2 : Int32))
  rw [ekas]
  show Fi p e below s Z _ _ _ _ T1 (mkF m 15 #[.val (.int p0), .val (.int p1), .val (.int p2), .val (.int p3), .val (.ref a1), .unset, .unset, .unset, .unset, .unset, .unset] [(.int (Int32.ofNat kas)), (.int p1)])
  refine W1.callS me hEL (hw _ (List.mem_of_getElem? (i := 0) rfl)) (hw _ (List.mem_of_getElem? (i := 1) rfl)) (hw _ (List.mem_of_getElem? (i := 2) rfl)) (hw _ (List.mem_of_getElem? (i := 3) rfl)) (argsL := [(.int p1), (.int (Int32.ofNat kas))]) (rest := []) (c_draw (ss := []) g W1.old hkas) at_15 (by decide) (fun _ q => nomatch q) rfl (lenOf pd_29 rfl) (own_le rfl) (own_le rfl) (own_le rfl) (own_le rfl) rfl ?_
  intro T2 h2 v2 W2 z2 q2
  obtain ⟨sf2, X2, _, rfl, E2, a2, as, rfl, L2, l2⟩ := q2
  show Fi p e below s Z _ _ _ _ T2 (mkF m 18 #[.val (.int p0), .val (.int p1), .val (.int p2), .val (.int p3), .val (.ref a1), .unset, .unset, .unset, .unset, .unset, .unset] [(.ref a2)])
  replace L1 := L1.ext E2
  refine W2.astore me at_18 (l' := #[.val (.int p0), .val (.int p1), .val (.int p2), .val (.int p3), .val (.ref a1), .val (.ref a2), .unset, .unset, .unset, .unset, .unset]) rfl rfl ?_
  refine W2.iloadN me at_20 rfl ?_
  refine W2.iloadN me at_21 rfl ?_
  refine W2.iconst me at_22 (v := 4) rfl ?_
  refine W2.iushr me at_23 ?_
  refine W2.iconst me at_24 (v := 3) rfl ?_
  refine W2.iand me at_25 ?_
  show Fi p e below s Z _ _ _ _ T2 (mkF m 26 #[.val (.int p0), .val (.int p1), .val (.int p2), .val (.int p3), .val (.ref a1), .val (.ref a2), .unset, .unset, .unset, .unset, .unset] [(.int ((XT.ushr p3 (4 : Int32)) &&& (3 : Int32))), (.int p2)])
  obtain ⟨kos, hkos, ekos⟩ := own_and3 (XT.ushr p3 (4 : Int32))
  rw [ekos]
  show Fi p e below s Z _ _ _ _ T2 (mkF m 26 #[.val (.int p0), .val (.int p1), .val (.int p2), .val (.int p3), .val (.ref a1), .val (.ref a2), .unset, .unset, .unset, .unset, .unset] [(.int (Int32.ofNat kos)), (.int p2)])
  refine W2.callS me hEL (hw _ (List.mem_of_getElem? (i := 0) rfl)) (hw _ (List.mem_of_getElem? (i := 1) rfl)) (hw _ (List.mem_of_getElem? (i := 2) rfl)) (hw _ (List.mem_of_getElem? (i := 3) rfl)) (argsL := [(.int p2), (.int (Int32.ofNat kos))]) (rest := []) (c_draw (ss := []) g W2.old hkos) at_26 (by decide) (fun _ q => nomatch q) rfl (lenOf pd_29 rfl) (own_le rfl) (own_le rfl) (own_le rfl) (own_le rfl) rfl ?_
  intro T3 h3 v3 W3 z3 q3
  obtain ⟨sf3, X3, _, rfl, E3, a3, os, rfl, L3, l3⟩ := q3
  show Fi p e below s Z _ _ _ _ T3 (mkF m 29 #[.val (.int p0), .val (.int p1), .val (.int p2), .val (.int p3), .val (.ref a1), .val (.ref a2), .unset, .unset, .unset, .unset, .unset] [(.ref a3)])
  replace L1 := L1.ext E3
  replace L2 := L2.ext E3
  refine W3.astore me at_29 (l' := #[.val (.int p0), .val (.int p1), .val (.int p2), .val (.int p3), .val (.ref a1), .val (.ref a2), .val (.ref a3), .unset, .unset, .unset, .unset]) rfl rfl ?_
  show Fi p e below s Z _ _ _ _ T3 (mkF m 31 #[.val (.int p0), .val (.int p1), .val (.int p2), .val (.int p3), .val (.ref a1), .val (.ref a2), .val (.ref a3), .unset, .unset, .unset, .unset] [])
  refine W3.newO me (hw _ (List.mem_of_getElem? (i := 37) rfl)) (hw _ (List.mem_of_getElem? (i := 38) rfl)) (hw _ (List.mem_of_getElem? (i := 39) rfl)) at_31 (own_le rfl) (own_le rfl) ?_
  intro T4 h4 a4 g4 W4 E4 A4 D4 U4
  show Fi p e below s Z _ _ _ _ T4 (mkF m 34 #[.val (.int p0), .val (.int p1), .val (.int p2), .val (.int p3), .val (.ref a1), .val (.ref a2), .val (.ref a3), .unset, .unset, .unset, .unset] [(.ref a4)])
  refine W4.dup me at_34 rfl ?_
  refine W4.aload me at_35 rfl rfl ?_
  refine W4.aload me at_37 rfl rfl ?_
  show Fi p e below s Z _ _ _ _ T4 (mkF m 39 #[.val (.int p0), .val (.int p1), .val (.int p2), .val (.int p3), .val (.ref a1), .val (.ref a2), .val (.ref a3), .unset, .unset, .unset, .unset] [(.ref a2), (.ref a1), (.ref a4), (.ref a4)])
  replace L1 := L1.ext E4
  replace L2 := L2.ext E4
  replace L3 := L3.ext E4
  have hzx : Z.heap.size ≤ a4 := by have := W3.old.2.1; omega
  refine W4.newO me (hw _ (List.mem_of_getElem? (i := 40) rfl)) (hw _ (List.mem_of_getElem? (i := 41) rfl)) (hw _ (List.mem_of_getElem? (i := 42) rfl)) at_39 (own_le rfl) (own_le rfl) ?_
  intro T5 h5 a5 g5 W5 E5 A5 D5 U5
  show Fi p e below s Z _ _ _ _ T5 (mkF m 42 #[.val (.int p0), .val (.int p1), .val (.int p2), .val (.int p3), .val (.ref a1), .val (.ref a2), .val (.ref a3), .unset, .unset, .unset, .unset] [(.ref a5), (.ref a2), (.ref a1), (.ref a4), (.ref a4)])
  refine W5.dup me at_42 rfl ?_
  refine W5.aload me at_43 rfl rfl ?_
  show Fi p e below s Z _ _ _ _ T5 (mkF m 45 #[.val (.int p0), .val (.int p1), .val (.int p2), .val (.int p3), .val (.ref a1), .val (.ref a2), .val (.ref a3), .unset, .unset, .unset, .unset] [(.ref a3), (.ref a5), (.ref a5), (.ref a2), (.ref a1), (.ref a4), (.ref a4)])
  replace L1 := L1.ext E5
  replace L2 := L2.ext E5
  replace L3 := L3.ext E5
  have hzo : Z.heap.size ≤ a5 := by have := W4.old.2.1; omega
  refine W5.callI me hEL (hw _ (List.mem_of_getElem? (i := 43) rfl)) (hw _ (List.mem_of_getElem? (i := 44) rfl)) (hw _ (List.mem_of_getElem? (i := 42) rfl)) (hw _ (List.mem_of_getElem? (i := 45) rfl)) rfl (a := a5) (argsL := [(.ref a3)]) (rest := [(.ref a5), (.ref a2), (.ref a1), (.ref a4), (.ref a4)]) (c_orig (ss := []) g W5.old A5 (D5 (Or.inr (hw _ (List.mem_of_getElem? (i := 53) rfl))) (ty := .object "java/lang/String") (by decide)) hzo) at_45 (by decide) (fun _ q => nomatch q) rfl (lenOf pd_15 rfl) (own_le rfl) (own_le rfl) (own_le rfl) (own_le rfl) rfl ?_
  intro T6 h6 v6 W6 z6 q6
  obtain ⟨sf6, X6, rfl, K6⟩ := q6
  show Fi p e below s Z _ _ _ _ T6 (mkF m 48 #[.val (.int p0), .val (.int p1), .val (.int p2), .val (.int p3), .val (.ref a1), .val (.ref a2), .val (.ref a3), .unset, .unset, .unset, .unset] [(.ref a5), (.ref a2), (.ref a1), (.ref a4), (.ref a4)])
  replace L1 := own_latk L1 K6 A5 (by decide) (hw _ (List.mem_of_getElem? (i := 41) rfl))
  replace L2 := own_latk L2 K6 A5 (by decide) (hw _ (List.mem_of_getElem? (i := 41) rfl))
  replace L3 := own_latk L3 K6 A5 (by decide) (hw _ (List.mem_of_getElem? (i := 41) rfl))
  have XE := own_xk E5 K6 (allS (by omega) all0)
  refine W6.callI me hEL (hw _ (List.mem_of_getElem? (i := 54) rfl)) (hw _ (List.mem_of_getElem? (i := 55) rfl)) (hw _ (List.mem_of_getElem? (i := 39) rfl)) (hw _ (List.mem_of_getElem? (i := 56) rfl)) rfl (a := a4) (argsL := [(.ref a1), (.ref a2), (.ref a5)]) (rest := [(.ref a4)]) (c_alias (ss := []) g W6.old (A4.ext XE) ((D4 (Or.inr (hw _ (List.mem_of_getElem? (i := 59) rfl))) (ty := (.object "java/lang/String")) (by decide)).ext XE) ((D4 (Or.inr (hw _ (List.mem_of_getElem? (i := 61) rfl))) (ty := (.object "java/lang/String")) (by decide)).ext XE) ((D4 (Or.inr (hw _ (List.mem_of_getElem? (i := 63) rfl))) (ty := (.object "com/example/cadi/cadi/Origin")) (by decide)).ext XE) hzx) at_48 (by decide) (fun _ q => nomatch q) rfl (lenOf pd_30 rfl) (own_le rfl) (own_le rfl) (own_le rfl) (own_le rfl) rfl ?_
  intro T7 h7 v7 W7 z7 q7
  obtain ⟨sf7, X7, rfl, K7, EX7, FN7, FA7⟩ := q7
  show Fi p e below s Z _ _ _ _ T7 (mkF m 51 #[.val (.int p0), .val (.int p1), .val (.int p2), .val (.int p3), .val (.ref a1), .val (.ref a2), .val (.ref a3), .unset, .unset, .unset, .unset] [(.ref a4)])
  replace L1 := own_latk L1 K7 (A4.ext XE) (by decide) (hw _ (List.mem_of_getElem? (i := 38) rfl))
  replace L2 := own_latk L2 K7 (A4.ext XE) (by decide) (hw _ (List.mem_of_getElem? (i := 38) rfl))
  replace L3 := own_latk L3 K7 (A4.ext XE) (by decide) (hw _ (List.mem_of_getElem? (i := 38) rfl))
  refine W7.astore me at_51 (l' := #[.val (.int p0), .val (.int p1), .val (.int p2), .val (.int p3), .val (.ref a1), .val (.ref a2), .val (.ref a3), .val (.ref a4), .unset, .unset, .unset]) rfl rfl ?_
  refine W7.aload me at_53 rfl rfl ?_
  show Fi p e below s Z _ _ _ _ T7 (mkF m 55 #[.val (.int p0), .val (.int p1), .val (.int p2), .val (.int p3), .val (.ref a1), .val (.ref a2), .val (.ref a3), .val (.ref a4), .unset, .unset, .unset] [(.ref a4)])
  obtain ⟨bn, LN⟩ := L1.opn
  obtain ⟨ba, LA⟩ := L2.opn
  refine W7.callV me hEL (hw _ (List.mem_of_getElem? (i := 64) rfl)) (hw _ (List.mem_of_getElem? (i := 65) rfl)) (fun hZ' => notFace_of_selects (args := #[]) (mvT (s := s.setVm _) hZ' (hw _ (List.mem_of_getElem? (i := 67) rfl)))) (hw _ (List.mem_of_getElem? (i := 67) rfl)) (hw _ (List.mem_of_getElem? (i := 66) rfl)) (hw _ (List.mem_of_getElem? (i := 39) rfl)) (hw _ (List.mem_of_getElem? (i := 68) rfl)) (a := a4) (argsL := []) (rest := []) EX7 (c_atos (ss := []) g W7.old FN7 FA7 LN l1 LA l2) at_55 (by decide) (fun _ q => nomatch q) rfl (lenOf pd_26 rfl) (own_le rfl) (own_le rfl) (own_le rfl) (own_le rfl) rfl ?_
  intro T8 h8 v8 W8 z8 q8
  obtain ⟨sf8, X8, _, rfl, E8, d8, rfl, L8⟩ := q8
  show Fi p e below s Z _ _ _ _ T8 (mkF m 58 #[.val (.int p0), .val (.int p1), .val (.int p2), .val (.int p3), .val (.ref a1), .val (.ref a2), .val (.ref a3), .val (.ref a4), .unset, .unset, .unset] [(.ref d8)])
  replace L1 := L1.ext E8
  replace L2 := L2.ext E8
  replace L3 := L3.ext E8
  obtain ⟨rs, hrs⟩ : ∃ z : List Int32, z = ([(60 : Int32), (97 : Int32), (108 : Int32), (105 : Int32), (97 : Int32), (115 : Int32), (32 : Int32), (110 : Int32), (97 : Int32), (109 : Int32), (101 : Int32), (61 : Int32), (34 : Int32)] ++ ns ++ [(34 : Int32), (32 : Int32), (97 : Int32), (108 : Int32), (105 : Int32), (97 : Int32), (115 : Int32), (61 : Int32), (34 : Int32)] ++ as ++ [(34 : Int32), (47 : Int32), (62 : Int32)]) := ⟨_, rfl⟩
  rw [← hrs] at L8
  have lns := l1
  have las := l2
  have lrs : rs.length = 25 + ns.length + as.length := by rw [hrs]; simp only [List.length_append, List.length_cons, List.length_nil]; omega
  have f0 : ∀ i, i < ([(60 : Int32), (97 : Int32), (108 : Int32), (105 : Int32), (97 : Int32), (115 : Int32), (32 : Int32), (110 : Int32), (97 : Int32), (109 : Int32), (101 : Int32), (61 : Int32), (34 : Int32)] : List Int32).length → 0 + i < rs.length ∧ rs.getD (0 + i) 0 = ([(60 : Int32), (97 : Int32), (108 : Int32), (105 : Int32), (97 : Int32), (115 : Int32), (32 : Int32), (110 : Int32), (97 : Int32), (109 : Int32), (101 : Int32), (61 : Int32), (34 : Int32)] : List Int32).getD i 0 := by
    intro i hi
    refine ⟨?_, ?_⟩
    · rw [lrs]; (try simp only [List.length_cons, List.length_nil] at hi); omega
    · try simp only [List.length_cons, List.length_nil] at hi
      rw [hrs, Nat.zero_add, own_gl (by simp only [List.length_append, List.length_cons, List.length_nil]; omega), own_gl (by simp only [List.length_append, List.length_cons, List.length_nil]; omega), own_gl (by simp only [List.length_append, List.length_cons, List.length_nil]; omega), own_gl (by simp only [List.length_append, List.length_cons, List.length_nil]; omega)]
  have f1 : ∀ i, i < (ns : List Int32).length → 13 + i < rs.length ∧ rs.getD (13 + i) 0 = (ns : List Int32).getD i 0 := by
    intro i hi
    refine ⟨?_, ?_⟩
    · rw [lrs]; (try simp only [List.length_cons, List.length_nil] at hi); omega
    · try simp only [List.length_cons, List.length_nil] at hi
      rw [hrs, own_gl (by simp only [List.length_append, List.length_cons, List.length_nil]; omega), own_gl (by simp only [List.length_append, List.length_cons, List.length_nil]; omega), own_gl (by simp only [List.length_append, List.length_cons, List.length_nil]; omega), own_gr (n := 13) (by simp only [List.length_append, List.length_cons, List.length_nil] <;> omega)]
  have f2 : ∀ i, i < ([(34 : Int32), (32 : Int32), (97 : Int32), (108 : Int32), (105 : Int32), (97 : Int32), (115 : Int32), (61 : Int32), (34 : Int32)] : List Int32).length → (13 + ns.length) + i < rs.length ∧ rs.getD ((13 + ns.length) + i) 0 = ([(34 : Int32), (32 : Int32), (97 : Int32), (108 : Int32), (105 : Int32), (97 : Int32), (115 : Int32), (61 : Int32), (34 : Int32)] : List Int32).getD i 0 := by
    intro i hi
    refine ⟨?_, ?_⟩
    · rw [lrs]; (try simp only [List.length_cons, List.length_nil] at hi); omega
    · try simp only [List.length_cons, List.length_nil] at hi
      rw [hrs, own_gl (by simp only [List.length_append, List.length_cons, List.length_nil]; omega), own_gl (by simp only [List.length_append, List.length_cons, List.length_nil]; omega), own_gr (n := (13 + ns.length)) (by simp only [List.length_append, List.length_cons, List.length_nil] <;> omega)]
  have f3 : ∀ i, i < (as : List Int32).length → (22 + ns.length) + i < rs.length ∧ rs.getD ((22 + ns.length) + i) 0 = (as : List Int32).getD i 0 := by
    intro i hi
    refine ⟨?_, ?_⟩
    · rw [lrs]; (try simp only [List.length_cons, List.length_nil] at hi); omega
    · try simp only [List.length_cons, List.length_nil] at hi
      rw [hrs, own_gl (by simp only [List.length_append, List.length_cons, List.length_nil]; omega), own_gr (n := (22 + ns.length)) (by simp only [List.length_append, List.length_cons, List.length_nil] <;> omega)]
  have f4 : ∀ i, i < ([(34 : Int32), (47 : Int32), (62 : Int32)] : List Int32).length → (22 + ns.length + as.length) + i < rs.length ∧ rs.getD ((22 + ns.length + as.length) + i) 0 = ([(34 : Int32), (47 : Int32), (62 : Int32)] : List Int32).getD i 0 := by
    intro i hi
    refine ⟨?_, ?_⟩
    · rw [lrs]; (try simp only [List.length_cons, List.length_nil] at hi); omega
    · try simp only [List.length_cons, List.length_nil] at hi
      rw [hrs, own_gr (n := (22 + ns.length + as.length)) (by simp only [List.length_append, List.length_cons, List.length_nil] <;> omega)]
  refine W8.astore me at_58 (l' := #[.val (.int p0), .val (.int p1), .val (.int p2), .val (.int p3), .val (.ref a1), .val (.ref a2), .val (.ref a3), .val (.ref a4), .val (.ref d8), .unset, .unset]) rfl rfl ?_
  refine W8.aload me at_60 rfl rfl ?_
  show Fi p e below s Z _ _ _ _ T8 (mkF m 62 #[.val (.int p0), .val (.int p1), .val (.int p2), .val (.int p3), .val (.ref a1), .val (.ref a2), .val (.ref a3), .val (.ref a4), .val (.ref d8), .unset, .unset] [(.ref a1)])
  refine W8.callV me hEL (hw _ (List.mem_of_getElem? (i := 199) rfl)) (hw _ (List.mem_of_getElem? (i := 99) rfl)) (fun hZ' => notFace_of_selects (args := #[]) (mvT (s := s.setVm _) hZ' (hw _ (List.mem_of_getElem? (i := 101) rfl)))) (hw _ (List.mem_of_getElem? (i := 101) rfl)) (hw _ (List.mem_of_getElem? (i := 100) rfl)) (hw _ (List.mem_of_getElem? (i := 6) rfl)) (hw _ (List.mem_of_getElem? (i := 102) rfl)) (a := a1) (argsL := []) (rest := []) L1.exa (c_length (ss := []) g W8.old L1) at_62 (by decide) (fun _ q => nomatch q) rfl (lenOf pd_17 rfl) (own_le rfl) (own_le rfl) (own_le rfl) (own_le rfl) rfl ?_
  intro T9 h9 v9 W9 z9 q9
  obtain ⟨sf9, X9, _, rfl, rfl, rfl⟩ := q9
  show Fi p e below s Z _ _ _ _ T9 (mkF m 65 #[.val (.int p0), .val (.int p1), .val (.int p2), .val (.int p3), .val (.ref a1), .val (.ref a2), .val (.ref a3), .val (.ref a4), .val (.ref d8), .unset, .unset] [(.int (Int32.ofNat ns.length))])
  refine W9.istore me at_65 (l' := #[.val (.int p0), .val (.int p1), .val (.int p2), .val (.int p3), .val (.ref a1), .val (.ref a2), .val (.ref a3), .val (.ref a4), .val (.ref d8), .val (.int (Int32.ofNat ns.length)), .unset]) rfl ?_
  refine W9.aload me at_67 rfl rfl ?_
  show Fi p e below s Z _ _ _ _ T9 (mkF m 69 #[.val (.int p0), .val (.int p1), .val (.int p2), .val (.int p3), .val (.ref a1), .val (.ref a2), .val (.ref a3), .val (.ref a4), .val (.ref d8), .val (.int (Int32.ofNat ns.length)), .unset] [(.ref a2)])
  refine W9.callV me hEL (hw _ (List.mem_of_getElem? (i := 199) rfl)) (hw _ (List.mem_of_getElem? (i := 99) rfl)) (fun hZ' => notFace_of_selects (args := #[]) (mvT (s := s.setVm _) hZ' (hw _ (List.mem_of_getElem? (i := 101) rfl)))) (hw _ (List.mem_of_getElem? (i := 101) rfl)) (hw _ (List.mem_of_getElem? (i := 100) rfl)) (hw _ (List.mem_of_getElem? (i := 6) rfl)) (hw _ (List.mem_of_getElem? (i := 102) rfl)) (a := a2) (argsL := []) (rest := []) L2.exa (c_length (ss := []) g W9.old L2) at_69 (by decide) (fun _ q => nomatch q) rfl (lenOf pd_17 rfl) (own_le rfl) (own_le rfl) (own_le rfl) (own_le rfl) rfl ?_
  intro T10 h10 v10 W10 z10 q10
  obtain ⟨sf10, X10, _, rfl, rfl, rfl⟩ := q10
  show Fi p e below s Z _ _ _ _ T10 (mkF m 72 #[.val (.int p0), .val (.int p1), .val (.int p2), .val (.int p3), .val (.ref a1), .val (.ref a2), .val (.ref a3), .val (.ref a4), .val (.ref d8), .val (.int (Int32.ofNat ns.length)), .unset] [(.int (Int32.ofNat as.length))])
  refine W10.istore me at_72 (l' := #[.val (.int p0), .val (.int p1), .val (.int p2), .val (.int p3), .val (.ref a1), .val (.ref a2), .val (.ref a3), .val (.ref a4), .val (.ref d8), .val (.int (Int32.ofNat ns.length)), .val (.int (Int32.ofNat as.length))]) rfl ?_
  refine W10.aload me at_74 rfl rfl ?_
  show Fi p e below s Z _ _ _ _ T10 (mkF m 76 #[.val (.int p0), .val (.int p1), .val (.int p2), .val (.int p3), .val (.ref a1), .val (.ref a2), .val (.ref a3), .val (.ref a4), .val (.ref d8), .val (.int (Int32.ofNat ns.length)), .val (.int (Int32.ofNat as.length))] [(.ref d8)])
  refine W10.nullN me at_76 ?_
  show Fi p e below s Z _ _ _ _ T10 (mkF m 79 #[.val (.int p0), .val (.int p1), .val (.int p2), .val (.int p3), .val (.ref a1), .val (.ref a2), .val (.ref a3), .val (.ref a4), .val (.ref d8), .val (.int (Int32.ofNat ns.length)), .val (.int (Int32.ofNat as.length))] [])
  refine W10.aload me at_79 rfl rfl ?_
  show Fi p e below s Z _ _ _ _ T10 (mkF m 81 #[.val (.int p0), .val (.int p1), .val (.int p2), .val (.int p3), .val (.ref a1), .val (.ref a2), .val (.ref a3), .val (.ref a4), .val (.ref d8), .val (.int (Int32.ofNat ns.length)), .val (.int (Int32.ofNat as.length))] [(.ref d8)])
  refine W10.callV me hEL (hw _ (List.mem_of_getElem? (i := 199) rfl)) (hw _ (List.mem_of_getElem? (i := 99) rfl)) (fun hZ' => notFace_of_selects (args := #[]) (mvT (s := s.setVm _) hZ' (hw _ (List.mem_of_getElem? (i := 101) rfl)))) (hw _ (List.mem_of_getElem? (i := 101) rfl)) (hw _ (List.mem_of_getElem? (i := 100) rfl)) (hw _ (List.mem_of_getElem? (i := 6) rfl)) (hw _ (List.mem_of_getElem? (i := 102) rfl)) (a := d8) (argsL := []) (rest := []) L8.exa (c_length (ss := []) g W10.old L8) at_81 (by decide) (fun _ q => nomatch q) rfl (lenOf pd_17 rfl) (own_le rfl) (own_le rfl) (own_le rfl) (own_le rfl) rfl ?_
  intro T11 h11 v11 W11 z11 q11
  obtain ⟨sf11, X11, _, rfl, rfl, rfl⟩ := q11
  show Fi p e below s Z _ _ _ _ T11 (mkF m 84 #[.val (.int p0), .val (.int p1), .val (.int p2), .val (.int p3), .val (.ref a1), .val (.ref a2), .val (.ref a3), .val (.ref a4), .val (.ref d8), .val (.int (Int32.ofNat ns.length)), .val (.int (Int32.ofNat as.length))] [(.int (Int32.ofNat rs.length))])
  refine W11.bipush me at_84 (v := 25) rfl ?_
  refine W11.iload me at_86 rfl ?_
  refine W11.iadd me at_88 ?_
  rw [show (25 : Int32) + Int32.ofNat (ns.length) = Int32.ofNat (25 + ns.length) from on_add _ _]
  show Fi p e below s Z _ _ _ _ T11 (mkF m 89 #[.val (.int p0), .val (.int p1), .val (.int p2), .val (.int p3), .val (.ref a1), .val (.ref a2), .val (.ref a3), .val (.ref a4), .val (.ref d8), .val (.int (Int32.ofNat ns.length)), .val (.int (Int32.ofNat as.length))] [(.int (Int32.ofNat (25 + ns.length))), (.int (Int32.ofNat rs.length))])
  refine W11.iload me at_89 rfl ?_
  refine W11.iadd me at_91 ?_
  rw [show Int32.ofNat (25 + ns.length) + Int32.ofNat (as.length) = Int32.ofNat (25 + ns.length + as.length) from on_add _ _]
  show Fi p e below s Z _ _ _ _ T11 (mkF m 92 #[.val (.int p0), .val (.int p1), .val (.int p2), .val (.int p3), .val (.ref a1), .val (.ref a2), .val (.ref a3), .val (.ref a4), .val (.ref d8), .val (.int (Int32.ofNat ns.length)), .val (.int (Int32.ofNat as.length))] [(.int (Int32.ofNat (25 + ns.length + as.length))), (.int (Int32.ofNat rs.length))])
  refine W11.icY_eq me at_92 (by rw [lrs]) (pc' := 97) (by decide) (by decide) ?_
  show Fi p e below s Z _ _ _ _ T11 (mkF m 97 #[.val (.int p0), .val (.int p1), .val (.int p2), .val (.int p3), .val (.ref a1), .val (.ref a2), .val (.ref a3), .val (.ref a4), .val (.ref d8), .val (.int (Int32.ofNat ns.length)), .val (.int (Int32.ofNat as.length))] [])
  refine W11.aload me at_97 rfl rfl ?_
  refine W11.iconst me at_99 (v := 0) rfl ?_
  show Fi p e below s Z _ _ _ _ T11 (mkF m 100 #[.val (.int p0), .val (.int p1), .val (.int p2), .val (.int p3), .val (.ref a1), .val (.ref a2), .val (.ref a3), .val (.ref a4), .val (.ref d8), .val (.int (Int32.ofNat ns.length)), .val (.int (Int32.ofNat as.length))] [(.int (0 : Int32)), (.ref d8)])
  refine W11.ldcS me hEL (List.mem_of_getElem? (i := 3) rfl) (hw _ (List.mem_of_getElem? (i := 200) rfl)) (stratoms g) (vs := [.int (60 : Int32), .int (97 : Int32), .int (108 : Int32), .int (105 : Int32), .int (97 : Int32), .int (115 : Int32), .int (32 : Int32), .int (110 : Int32), .int (97 : Int32), .int (109 : Int32), .int (101 : Int32), .int (61 : Int32), .int (34 : Int32)]) (z := 13) ⟨by decide, by decide⟩ (by decide) (by decide) at_100 (n := 52) (by decide) (by decide) (by decide) (by decide) ?_
  intro T12 h12 a12 b12 k12 W12 E12 A12 C12 V12 B12 N12
  show Fi p e below s Z _ _ _ _ T12 (mkF m 102 #[.val (.int p0), .val (.int p1), .val (.int p2), .val (.int p3), .val (.ref a1), .val (.ref a2), .val (.ref a3), .val (.ref a4), .val (.ref d8), .val (.int (Int32.ofNat ns.length)), .val (.int (Int32.ofNat as.length))] [(.ref a12), (.int (0 : Int32)), (.ref d8)])
  have LL12 : LatB Z h12 a12 b12 [(60 : Int32), (97 : Int32), (108 : Int32), (105 : Int32), (97 : Int32), (115 : Int32), (32 : Int32), (110 : Int32), (97 : Int32), (109 : Int32), (101 : Int32), (61 : Int32), (34 : Int32)] := ⟨k12, A12, C12, V12, B12, own_le rfl, (by decide : ∀ c ∈ ([(60 : Int32), (97 : Int32), (108 : Int32), (105 : Int32), (97 : Int32), (115 : Int32), (32 : Int32), (110 : Int32), (97 : Int32), (109 : Int32), (101 : Int32), (61 : Int32), (34 : Int32)] : List Int32), ¬ c < 0 ∧ ¬ (255 : Int32) < c)⟩
  replace L1 := L1.ext E12
  replace L2 := L2.ext E12
  replace L3 := L3.ext E12
  replace L8 := L8.ext E12
  refine W12.callS me hEL (hw _ (List.mem_of_getElem? (i := 201) rfl)) (hw _ (List.mem_of_getElem? (i := 202) rfl)) (hw _ (List.mem_of_getElem? (i := 2) rfl)) (hw _ (List.mem_of_getElem? (i := 203) rfl)) (argsL := [(.ref d8), (.int (0 : Int32)), (.ref a12)]) (rest := []) (c_lit (ss := []) g W12.old (o := 0) L8 LL12.lat f0) at_102 (by decide) (fun _ q => nomatch q) rfl (lenOf pd_31 rfl) (own_le rfl) (own_le rfl) (own_le rfl) (own_le rfl) rfl ?_
  intro T13 h13 v13 W13 z13 q13
  obtain ⟨sf13, X13, _, rfl, rfl, rfl⟩ := q13
  show Fi p e below s Z _ _ _ _ T13 (mkF m 105 #[.val (.int p0), .val (.int p1), .val (.int p2), .val (.int p3), .val (.ref a1), .val (.ref a2), .val (.ref a3), .val (.ref a4), .val (.ref d8), .val (.int (Int32.ofNat ns.length)), .val (.int (Int32.ofNat as.length))] [(.int (1 : Int32))])
  refine W13.ifN_eq me at_105 (by decide) ?_
  show Fi p e below s Z _ _ _ _ T13 (mkF m 108 #[.val (.int p0), .val (.int p1), .val (.int p2), .val (.int p3), .val (.ref a1), .val (.ref a2), .val (.ref a3), .val (.ref a4), .val (.ref d8), .val (.int (Int32.ofNat ns.length)), .val (.int (Int32.ofNat as.length))] [])
  refine W13.aload me at_108 rfl rfl ?_
  refine W13.bipush me at_110 (v := 13) rfl ?_
  refine W13.aload me at_112 rfl rfl ?_
  show Fi p e below s Z _ _ _ _ T13 (mkF m 114 #[.val (.int p0), .val (.int p1), .val (.int p2), .val (.int p3), .val (.ref a1), .val (.ref a2), .val (.ref a3), .val (.ref a4), .val (.ref d8), .val (.int (Int32.ofNat ns.length)), .val (.int (Int32.ofNat as.length))] [(.ref a1), (.int (13 : Int32)), (.ref d8)])
  refine W13.callS me hEL (hw _ (List.mem_of_getElem? (i := 201) rfl)) (hw _ (List.mem_of_getElem? (i := 202) rfl)) (hw _ (List.mem_of_getElem? (i := 2) rfl)) (hw _ (List.mem_of_getElem? (i := 203) rfl)) (argsL := [(.ref d8), (.int (13 : Int32)), (.ref a1)]) (rest := []) (c_lit (ss := []) g W13.old (o := 13) L8 L1 f1) at_114 (by decide) (fun _ q => nomatch q) rfl (lenOf pd_31 rfl) (own_le rfl) (own_le rfl) (own_le rfl) (own_le rfl) rfl ?_
  intro T14 h14 v14 W14 z14 q14
  obtain ⟨sf14, X14, _, rfl, rfl, rfl⟩ := q14
  show Fi p e below s Z _ _ _ _ T14 (mkF m 117 #[.val (.int p0), .val (.int p1), .val (.int p2), .val (.int p3), .val (.ref a1), .val (.ref a2), .val (.ref a3), .val (.ref a4), .val (.ref d8), .val (.int (Int32.ofNat ns.length)), .val (.int (Int32.ofNat as.length))] [(.int (1 : Int32))])
  refine W14.ifN_eq me at_117 (by decide) ?_
  show Fi p e below s Z _ _ _ _ T14 (mkF m 120 #[.val (.int p0), .val (.int p1), .val (.int p2), .val (.int p3), .val (.ref a1), .val (.ref a2), .val (.ref a3), .val (.ref a4), .val (.ref d8), .val (.int (Int32.ofNat ns.length)), .val (.int (Int32.ofNat as.length))] [])
  refine W14.aload me at_120 rfl rfl ?_
  refine W14.bipush me at_122 (v := 13) rfl ?_
  refine W14.iload me at_124 rfl ?_
  refine W14.iadd me at_126 ?_
  rw [show (13 : Int32) + Int32.ofNat (ns.length) = Int32.ofNat (13 + ns.length) from on_add _ _]
  show Fi p e below s Z _ _ _ _ T14 (mkF m 127 #[.val (.int p0), .val (.int p1), .val (.int p2), .val (.int p3), .val (.ref a1), .val (.ref a2), .val (.ref a3), .val (.ref a4), .val (.ref d8), .val (.int (Int32.ofNat ns.length)), .val (.int (Int32.ofNat as.length))] [(.int (Int32.ofNat (13 + ns.length))), (.ref d8)])
  refine W14.ldcS me hEL (List.mem_of_getElem? (i := 4) rfl) (hw _ (List.mem_of_getElem? (i := 229) rfl)) (stratoms g) (vs := [.int (34 : Int32), .int (32 : Int32), .int (97 : Int32), .int (108 : Int32), .int (105 : Int32), .int (97 : Int32), .int (115 : Int32), .int (61 : Int32), .int (34 : Int32)]) (z := 9) ⟨by decide, by decide⟩ (by decide) (by decide) at_127 (n := 36) (by decide) (by decide) (by decide) (by decide) ?_
  intro T15 h15 a15 b15 k15 W15 E15 A15 C15 V15 B15 N15
  show Fi p e below s Z _ _ _ _ T15 (mkF m 129 #[.val (.int p0), .val (.int p1), .val (.int p2), .val (.int p3), .val (.ref a1), .val (.ref a2), .val (.ref a3), .val (.ref a4), .val (.ref d8), .val (.int (Int32.ofNat ns.length)), .val (.int (Int32.ofNat as.length))] [(.ref a15), (.int (Int32.ofNat (13 + ns.length))), (.ref d8)])
  have LL15 : LatB Z h15 a15 b15 [(34 : Int32), (32 : Int32), (97 : Int32), (108 : Int32), (105 : Int32), (97 : Int32), (115 : Int32), (61 : Int32), (34 : Int32)] := ⟨k15, A15, C15, V15, B15, own_le rfl, (by decide : ∀ c ∈ ([(34 : Int32), (32 : Int32), (97 : Int32), (108 : Int32), (105 : Int32), (97 : Int32), (115 : Int32), (61 : Int32), (34 : Int32)] : List Int32), ¬ c < 0 ∧ ¬ (255 : Int32) < c)⟩
  replace L1 := L1.ext E15
  replace L2 := L2.ext E15
  replace L3 := L3.ext E15
  replace L8 := L8.ext E15
  refine W15.callS me hEL (hw _ (List.mem_of_getElem? (i := 201) rfl)) (hw _ (List.mem_of_getElem? (i := 202) rfl)) (hw _ (List.mem_of_getElem? (i := 2) rfl)) (hw _ (List.mem_of_getElem? (i := 203) rfl)) (argsL := [(.ref d8), (.int (Int32.ofNat (13 + ns.length))), (.ref a15)]) (rest := []) (c_lit (ss := []) g W15.old (o := (13 + ns.length)) L8 LL15.lat f2) at_129 (by decide) (fun _ q => nomatch q) rfl (lenOf pd_31 rfl) (own_le rfl) (own_le rfl) (own_le rfl) (own_le rfl) rfl ?_
  intro T16 h16 v16 W16 z16 q16
  obtain ⟨sf16, X16, _, rfl, rfl, rfl⟩ := q16
  show Fi p e below s Z _ _ _ _ T16 (mkF m 132 #[.val (.int p0), .val (.int p1), .val (.int p2), .val (.int p3), .val (.ref a1), .val (.ref a2), .val (.ref a3), .val (.ref a4), .val (.ref d8), .val (.int (Int32.ofNat ns.length)), .val (.int (Int32.ofNat as.length))] [(.int (1 : Int32))])
  refine W16.ifN_eq me at_132 (by decide) ?_
  show Fi p e below s Z _ _ _ _ T16 (mkF m 135 #[.val (.int p0), .val (.int p1), .val (.int p2), .val (.int p3), .val (.ref a1), .val (.ref a2), .val (.ref a3), .val (.ref a4), .val (.ref d8), .val (.int (Int32.ofNat ns.length)), .val (.int (Int32.ofNat as.length))] [])
  refine W16.aload me at_135 rfl rfl ?_
  refine W16.bipush me at_137 (v := 22) rfl ?_
  refine W16.iload me at_139 rfl ?_
  refine W16.iadd me at_141 ?_
  rw [show (22 : Int32) + Int32.ofNat (ns.length) = Int32.ofNat (22 + ns.length) from on_add _ _]
  show Fi p e below s Z _ _ _ _ T16 (mkF m 142 #[.val (.int p0), .val (.int p1), .val (.int p2), .val (.int p3), .val (.ref a1), .val (.ref a2), .val (.ref a3), .val (.ref a4), .val (.ref d8), .val (.int (Int32.ofNat ns.length)), .val (.int (Int32.ofNat as.length))] [(.int (Int32.ofNat (22 + ns.length))), (.ref d8)])
  refine W16.aload me at_142 rfl rfl ?_
  show Fi p e below s Z _ _ _ _ T16 (mkF m 144 #[.val (.int p0), .val (.int p1), .val (.int p2), .val (.int p3), .val (.ref a1), .val (.ref a2), .val (.ref a3), .val (.ref a4), .val (.ref d8), .val (.int (Int32.ofNat ns.length)), .val (.int (Int32.ofNat as.length))] [(.ref a2), (.int (Int32.ofNat (22 + ns.length))), (.ref d8)])
  refine W16.callS me hEL (hw _ (List.mem_of_getElem? (i := 201) rfl)) (hw _ (List.mem_of_getElem? (i := 202) rfl)) (hw _ (List.mem_of_getElem? (i := 2) rfl)) (hw _ (List.mem_of_getElem? (i := 203) rfl)) (argsL := [(.ref d8), (.int (Int32.ofNat (22 + ns.length))), (.ref a2)]) (rest := []) (c_lit (ss := []) g W16.old (o := (22 + ns.length)) L8 L2 f3) at_144 (by decide) (fun _ q => nomatch q) rfl (lenOf pd_31 rfl) (own_le rfl) (own_le rfl) (own_le rfl) (own_le rfl) rfl ?_
  intro T17 h17 v17 W17 z17 q17
  obtain ⟨sf17, X17, _, rfl, rfl, rfl⟩ := q17
  show Fi p e below s Z _ _ _ _ T17 (mkF m 147 #[.val (.int p0), .val (.int p1), .val (.int p2), .val (.int p3), .val (.ref a1), .val (.ref a2), .val (.ref a3), .val (.ref a4), .val (.ref d8), .val (.int (Int32.ofNat ns.length)), .val (.int (Int32.ofNat as.length))] [(.int (1 : Int32))])
  refine W17.ifN_eq me at_147 (by decide) ?_
  show Fi p e below s Z _ _ _ _ T17 (mkF m 150 #[.val (.int p0), .val (.int p1), .val (.int p2), .val (.int p3), .val (.ref a1), .val (.ref a2), .val (.ref a3), .val (.ref a4), .val (.ref d8), .val (.int (Int32.ofNat ns.length)), .val (.int (Int32.ofNat as.length))] [])
  refine W17.aload me at_150 rfl rfl ?_
  refine W17.bipush me at_152 (v := 22) rfl ?_
  refine W17.iload me at_154 rfl ?_
  refine W17.iadd me at_156 ?_
  rw [show (22 : Int32) + Int32.ofNat (ns.length) = Int32.ofNat (22 + ns.length) from on_add _ _]
  show Fi p e below s Z _ _ _ _ T17 (mkF m 157 #[.val (.int p0), .val (.int p1), .val (.int p2), .val (.int p3), .val (.ref a1), .val (.ref a2), .val (.ref a3), .val (.ref a4), .val (.ref d8), .val (.int (Int32.ofNat ns.length)), .val (.int (Int32.ofNat as.length))] [(.int (Int32.ofNat (22 + ns.length))), (.ref d8)])
  refine W17.iload me at_157 rfl ?_
  refine W17.iadd me at_159 ?_
  rw [show Int32.ofNat (22 + ns.length) + Int32.ofNat (as.length) = Int32.ofNat (22 + ns.length + as.length) from on_add _ _]
  show Fi p e below s Z _ _ _ _ T17 (mkF m 160 #[.val (.int p0), .val (.int p1), .val (.int p2), .val (.int p3), .val (.ref a1), .val (.ref a2), .val (.ref a3), .val (.ref a4), .val (.ref d8), .val (.int (Int32.ofNat ns.length)), .val (.int (Int32.ofNat as.length))] [(.int (Int32.ofNat (22 + ns.length + as.length))), (.ref d8)])
  refine W17.ldcS me hEL (List.mem_of_getElem? (i := 5) rfl) (hw _ (List.mem_of_getElem? (i := 230) rfl)) (stratoms g) (vs := [.int (34 : Int32), .int (47 : Int32), .int (62 : Int32)]) (z := 3) ⟨by decide, by decide⟩ (by decide) (by decide) at_160 (n := 12) (by decide) (by decide) (by decide) (by decide) ?_
  intro T18 h18 a18 b18 k18 W18 E18 A18 C18 V18 B18 N18
  show Fi p e below s Z _ _ _ _ T18 (mkF m 162 #[.val (.int p0), .val (.int p1), .val (.int p2), .val (.int p3), .val (.ref a1), .val (.ref a2), .val (.ref a3), .val (.ref a4), .val (.ref d8), .val (.int (Int32.ofNat ns.length)), .val (.int (Int32.ofNat as.length))] [(.ref a18), (.int (Int32.ofNat (22 + ns.length + as.length))), (.ref d8)])
  have LL18 : LatB Z h18 a18 b18 [(34 : Int32), (47 : Int32), (62 : Int32)] := ⟨k18, A18, C18, V18, B18, own_le rfl, (by decide : ∀ c ∈ ([(34 : Int32), (47 : Int32), (62 : Int32)] : List Int32), ¬ c < 0 ∧ ¬ (255 : Int32) < c)⟩
  replace L1 := L1.ext E18
  replace L2 := L2.ext E18
  replace L3 := L3.ext E18
  replace L8 := L8.ext E18
  refine W18.callS me hEL (hw _ (List.mem_of_getElem? (i := 201) rfl)) (hw _ (List.mem_of_getElem? (i := 202) rfl)) (hw _ (List.mem_of_getElem? (i := 2) rfl)) (hw _ (List.mem_of_getElem? (i := 203) rfl)) (argsL := [(.ref d8), (.int (Int32.ofNat (22 + ns.length + as.length))), (.ref a18)]) (rest := []) (c_lit (ss := []) g W18.old (o := (22 + ns.length + as.length)) L8 LL18.lat f4) at_162 (by decide) (fun _ q => nomatch q) rfl (lenOf pd_31 rfl) (own_le rfl) (own_le rfl) (own_le rfl) (own_le rfl) rfl ?_
  intro T19 h19 v19 W19 z19 q19
  obtain ⟨sf19, X19, _, rfl, rfl, rfl⟩ := q19
  show Fi p e below s Z _ _ _ _ T19 (mkF m 165 #[.val (.int p0), .val (.int p1), .val (.int p2), .val (.int p3), .val (.ref a1), .val (.ref a2), .val (.ref a3), .val (.ref a4), .val (.ref d8), .val (.int (Int32.ofNat ns.length)), .val (.int (Int32.ofNat as.length))] [(.int (1 : Int32))])
  refine W19.ifN_eq me at_165 (by decide) ?_
  show Fi p e below s Z _ _ _ _ T19 (mkF m 168 #[.val (.int p0), .val (.int p1), .val (.int p2), .val (.int p3), .val (.ref a1), .val (.ref a2), .val (.ref a3), .val (.ref a4), .val (.ref d8), .val (.int (Int32.ofNat ns.length)), .val (.int (Int32.ofNat as.length))] [])
  refine W19.iconst me at_168 (v := 1) rfl ?_
  refine W19.goto me at_169 (pc' := 173) (by decide) (by decide) ?_
  show Fi p e below s Z _ _ _ _ T19 (mkF m 173 #[.val (.int p0), .val (.int p1), .val (.int p2), .val (.int p3), .val (.ref a1), .val (.ref a2), .val (.ref a3), .val (.ref a4), .val (.ref d8), .val (.int (Int32.ofNat ns.length)), .val (.int (Int32.ofNat as.length))] [(.int (1 : Int32))])
  exact W19.retN hEL me (Or.inl rfl) at_173 rfl (by decide) (by decide)
set_option maxRecDepth 65536 in
set_option maxHeartbeats 40000000 in
theorem comes_1 {Post : Tables → Env → Array Value → State → Outcome → State → Prop} (hpost : ∀ tb e args s v u, (limb_1_1.after args s (.returned v) u = true ∧ limb_1_2.after args s (.returned v) u = true ∧ True) → ReturnedEndW s (.returned v) u (Jvm.fieldLocs frame_1_writes args s ++ Jvm.arrayLocs frame_1_arrays args s ++ Jvm.staticLocs frame_1_statics s) 56 7552 → Post tb e args s (.returned v) u) :
    ArmFor flags0 classFile x code maxLocals ret World_1 tables_1 room_1 Calls_1 rest_1 Pre_1 Post := by
  intro l hfl _ _ p e ha hc hk s m args below hf hA hF happ hP
  obtain ⟨hcalls, hrest, hpre⟩ := hP
  obtain ⟨hc1, -⟩ := hcalls
  obtain ⟨-, -, -, hnamed, -, -, -, hat⟩ := (Spec.applies_iff hf).mp happ
  obtain ⟨hg, hn⟩ := and_e (Cond.before_iff.mp (show (Jvm.Cond.and given_1 narrow_1).before args s = true from hpre))
  obtain ⟨h1, r0⟩ := and_e hg
  obtain ⟨y0, r1⟩ := and_e r0
  obtain ⟨y1, r2⟩ := and_e r1
  obtain ⟨y2, r3⟩ := and_e r2
  obtain ⟨w0, w1, w2, w3, rfl⟩ : ∃ w0 w1 w2 w3 : Value, args = #[w0, w1, w2, w3] := by
    have hs : args.size = 4 := by simpa [Cond.value, given_1] using h1
    obtain ⟨L⟩ := args
    match L, hs with
    | [w0, w1, w2, w3], _ => exact ⟨w0, w1, w2, w3, rfl⟩
  have hw := fun d (hd : d ∈ tables_1) => atoms_spec (ws := Jvm.Cond.code x code maxLocals ret :: tables_1) hat d (List.mem_cons_of_mem _ hd)
  obtain ⟨hsets, hown0⟩ := atoms_of _ (rest_1_c_eq ▸ (show rest_1_c.before _ s = true from hrest))
  obtain ⟨i0, e0⟩ := is_v y0
  obtain rfl : w0 = (.int i0) := Option.some.inj e0
  obtain ⟨i1, e1⟩ := is_v y1
  obtain rfl : w1 = (.int i1) := Option.some.inj e1
  obtain ⟨i2, e2⟩ := is_v y2
  obtain rfl : w2 = (.int i2) := Option.some.inj e2
  obtain ⟨i3, e3⟩ := is_v r3
  obtain rfl : w3 = (.int i3) := Option.some.inj e3
  obtain ⟨G, eG⟩ := is_v (Cond.before_iff.mp (hsets _ (List.mem_of_getElem? (i := 1) rfl)))
  have nG := not_v (Cond.before_iff.mp (hsets _ (List.mem_of_getElem? (i := 2) rfl)))
  have SG : Sta s s.heap "java/lang/String" "COMPACT_STRINGS" "Z" (.int G) := Sta.start eG (Or.inl (hsets _ (List.mem_of_getElem? (i := 0) rfl)))
  have cG : ¬ (G = (0 : Int32)) := gotF (Cond.eq_ints eG (Term.int_eval (0))) nG
  obtain ⟨GF, eF, rF⟩ := isR_v (Cond.before_iff.mp (hsets _ (List.mem_of_getElem? (i := 8) rfl)))
  have SF := Sta.start eF (Or.inl (hsets _ (List.mem_of_getElem? (i := 7) rfl)))
  have hEL : EW s _ consts_1 := (EW.cons (hw _ (List.mem_of_getElem? (i := 87) rfl)) (by decide) (EW.cons (hw _ (List.mem_of_getElem? (i := 135) rfl)) (by decide) (EW.cons (hw _ (List.mem_of_getElem? (i := 159) rfl)) (by decide) (EW.cons (hw _ (List.mem_of_getElem? (i := 200) rfl)) (by decide) (EW.cons (hw _ (List.mem_of_getElem? (i := 229) rfl)) (by decide) (EW.cons (hw _ (List.mem_of_getElem? (i := 230) rfl)) (by decide) (EW.cons (hw _ (List.mem_of_getElem? (i := 34) rfl)) (by decide) EW.nil)))))))
  have hcw : Jvm.Lit.compactW.before _ s = true := hsets _ (List.mem_of_getElem? (i := 2) rfl)
  have hCH : CHv s consts_1 s.vm s.heap := CHv.start hEL (fun q hq => hc1 q hq) hcw (hw _ (List.mem_of_getElem? (i := 23) rfl)) (hw _ (List.mem_of_getElem? (i := 5) rfl))
  have g : Gl s _ := ⟨hw, hEL, ⟨G, SG, cG⟩, ⟨GF, SF, rF⟩, trivial⟩
  obtain ⟨n, o, h1, h2, h3, v, L, rfl, ⟨⟨_, rfl, rfl⟩, N, -⟩, -, hq⟩ := c_law (l := l) (ws := tables_1) (kn := false) (ss := []) g (Old.start s) i0 i1 i2 i3 p e ha hc hk s m _ below hf ((Spec.applies_iff_loose hf).mp happ).1 ⟨rfl, State.Warmed39.refl s, rfl, hCH, fun _ q => nomatch q⟩ (fun q => nomatch q)
  refine ⟨n, _, h1, h2, h3, hpost _ _ _ _ _ _ ⟨Cond.after_iff.mpr rfl, Cond.after_iff.mpr (eq_i res_at (Term.int_eval (1)) rfl), trivial⟩ ⟨hq.1, hq.2.1, hq.2.2.1, (hq.2.2.2.sift fun y hy => Or.inr (N y hy)).mono (by decide) (by decide)⟩⟩
theorem main_1_1 : Claimed_1_1 := comes_1 fun _ _ _ _ _ _ h hF => ⟨h.1, hF⟩
theorem main_1_2 : Claimed_1_2 := comes_1 fun _ _ _ _ _ _ h hF => ⟨h.2.1, hF⟩
end Jvm.Pilot.@@N@@
namespace Jvm.Pilot.@@N@@
open Jvm Jvm.ClassFile Sem Op Lib Jvm.Free Jvm.Stand Jvm.Pilot.@@N@@.Jvm.D
/-! MADE BY PROGRAM (witnessworld.py) out of the Statement's table words and the real class files: 28 classes; the members and pool entries that the words name. The judged class is class 1, her method 1. -/
namespace start1
open Jvm.ClassFile
def u (s : String) : CpInfo := .utf8 (stringToUtf16 s)
/-- a pool by its gaps: so many unusable entries, then the entry; so many at the end -/
def gap : Nat → List CpInfo → List CpInfo
  | 0, r => r
  | n + 1, r => .unusable :: gap n r
def poolList (es : List (Nat × CpInfo)) (last : Nat) : List CpInfo := es.foldr (fun e r => gap e.1 (e.2 :: r)) (gap last [])
def pool (es : List (Nat × CpInfo)) (last : Nat) : Array CpInfo := ⟨poolList es last⟩
def fileOf (pool : Array CpInfo) (this : Nat) (attrs : Array Attribute := #[]) (ms : Array MethodInfo := #[]) (fl : Nat := 33) (sup : Nat := 0) (ifs : Array Nat := #[]) (fds : Array FieldInfo := #[]) : ClassFile where
  minorVersion := 0
  majorVersion := 65
  constantPool := pool
  accessFlags := fl
  thisClass := this
  superClass := sup
  interfaces := ifs
  fields := fds
  methods := ms
  attributes := attrs
def plain (name : String) (sup : Option ClassId) : Class where
  name := name
  kind := .ordinary
  loader := none
  accessFlags := 33
  super := sup
  interfaces := #[]
  cf := none
  fields := #[]
  methods := #[]
  instanceTypes := #[]
  staticTypes := #[]
  resolved := #[]
  callSites := []
  init := .initialized
  statics := none
  mirror := none

def pool0 : Array CpInfo := pool [(5, u "<init>"), (0, u "()V"), (1, .class_ 10), (1, u "java/lang/Object")] 113

def k0c0 : Code := { maxStack := 0, maxLocals := 1, code := object_method_1_code, exceptionTable := #[], attributes := #[] }
def k0m0 : Method := { name := "<init>", desc := "()V", sig := { parameters := [], returnType := none }, accessFlags := 1, code := some k0c0 }
/-- java/lang/Object -/
def k0 : Class := { plain "java/lang/Object" none with
  accessFlags := 33
  interfaces := #[]
  cf := some (fileOf pool0 8 #[] #[{ accessFlags := 1, nameIndex := 5, descriptorIndex := 6, attributes := #[] }] 33 0 #[] #[])
  fields := #[]
  methods := #[k0m0]
  instanceTypes := #[]
  staticTypes := #[]
  resolved := Array.replicate 124 none
  statics := none }

def pool1 : Array CpInfo := pool [(2, .class_ 4), (1, u "java/lang/Object"), (0, u "<init>"), (0, u "()V"), (0, .methodref 8 9), (0, .class_ 10), (0, .nameAndType 11 12), (0, u "com/example/cadi/cadi/AliasToStringPinLaw"), (0, u "draw"), (0, u "(II)Ljava/lang/String;"), (0, .class_ 14), (0, u "com/example/cadi/cadi/Alias"), (0, .class_ 16), (0, u "com/example/cadi/cadi/Origin"), (0, .methodref 15 18), (0, .nameAndType 5 19), (0, u "(Ljava/lang/String;)V"), (0, .methodref 13 21), (0, .nameAndType 5 22), (0, u "(Ljava/lang/String;Ljava/lang/String;Lcom/example/cadi/cadi/Origin;)V"), (0, .methodref 13 24), (0, .nameAndType 25 26), (0, u "toString"), (0, u "()Ljava/lang/String;"), (0, .methodref 28 29), (0, .class_ 30), (0, .nameAndType 31 32), (0, u "java/lang/String"), (0, u "length"), (0, u "()I"), (0, .string 34), (0, u "<alias name=\""), (0, .methodref 8 36), (0, .nameAndType 37 38), (0, u "lit"), (0, u "(Ljava/lang/String;ILjava/lang/String;)Z"), (0, .string 40), (0, u "\" alias=\""), (0, .string 42), (0, u "\"/>"), (0, .methodref 28 44), (0, .nameAndType 5 45), (0, u "([C)V"), (0, .methodref 8 47), (0, .nameAndType 48 49), (0, u "at"), (0, u "(Ljava/lang/String;ILjava/lang/String;I)Z"), (0, .methodref 28 51), (0, .nameAndType 52 53), (0, u "charAt"), (0, u "(I)C"), (2, u "law"), (0, u "(IIII)Z")] 3

def k1m0 : Method := { name := "<init>", desc := "()V", sig := { parameters := [], returnType := none }, accessFlags := 1, code := none }
def k1c1 : Code := { maxStack := 7, maxLocals := 11, code := code, exceptionTable := #[], attributes := #[] }
def k1m1 : Method := { name := "law", desc := "(IIII)Z", sig := { parameters := [.int, .int, .int, .int], returnType := some .boolean }, accessFlags := 9, code := some k1c1 }
def k1c2 : Code := { maxStack := 6, maxLocals := 5, code := method_3_code, exceptionTable := #[], attributes := #[] }
def k1m2 : Method := { name := "draw", desc := "(II)Ljava/lang/String;", sig := { parameters := [.int, .int], returnType := some (.object "java/lang/String") }, accessFlags := 10, code := some k1c2 }
def k1c3 : Code := { maxStack := 4, maxLocals := 3, code := method_4_code, exceptionTable := #[], attributes := #[] }
def k1m3 : Method := { name := "lit", desc := "(Ljava/lang/String;ILjava/lang/String;)Z", sig := { parameters := [(.object "java/lang/String"), .int, (.object "java/lang/String")], returnType := some .boolean }, accessFlags := 10, code := some k1c3 }
def k1c4 : Code := { maxStack := 3, maxLocals := 4, code := method_5_code, exceptionTable := #[], attributes := #[] }
def k1m4 : Method := { name := "at", desc := "(Ljava/lang/String;ILjava/lang/String;I)Z", sig := { parameters := [(.object "java/lang/String"), .int, (.object "java/lang/String"), .int], returnType := some .boolean }, accessFlags := 10, code := some k1c4 }
/-- com/example/cadi/cadi/AliasToStringPinLaw -/
def k1 : Class := { plain "com/example/cadi/cadi/AliasToStringPinLaw" (some 0) with
  accessFlags := 49
  interfaces := #[]
  cf := some (fileOf pool1 8 #[] #[{ accessFlags := 1, nameIndex := 5, descriptorIndex := 6, attributes := #[] }, { accessFlags := 9, nameIndex := 56, descriptorIndex := 57, attributes := #[] }, { accessFlags := 10, nameIndex := 11, descriptorIndex := 12, attributes := #[] }, { accessFlags := 10, nameIndex := 37, descriptorIndex := 38, attributes := #[] }, { accessFlags := 10, nameIndex := 48, descriptorIndex := 49, attributes := #[] }] 49 2 #[] #[])
  fields := #[]
  methods := #[k1m0, k1m1, k1m2, k1m3, k1m4]
  instanceTypes := #[]
  staticTypes := #[]
  resolved := Array.replicate 61 none
  statics := none }

def pool2 : Array CpInfo := pool [(1, .class_ 2), (0, u "java/io/Serializable"), (0, .class_ 4), (0, u "java/lang/Object")] 2

/-- java/io/Serializable -/
def k2 : Class := { plain "java/io/Serializable" (some 0) with
  accessFlags := 1537
  interfaces := #[]
  cf := some (fileOf pool2 1 #[] #[] 1537 3 #[] #[])
  fields := #[]
  methods := #[]
  instanceTypes := #[]
  staticTypes := #[]
  resolved := Array.replicate 7 none
  statics := none }

def pool3 : Array CpInfo := pool [(1, .class_ 2), (0, u "java/lang/Comparable"), (0, .class_ 4), (0, u "java/lang/Object")] 7

/-- java/lang/Comparable -/
def k3 : Class := { plain "java/lang/Comparable" (some 0) with
  accessFlags := 1537
  interfaces := #[]
  cf := some (fileOf pool3 1 #[] #[] 1537 3 #[] #[])
  fields := #[]
  methods := #[]
  instanceTypes := #[]
  staticTypes := #[]
  resolved := Array.replicate 12 none
  statics := none }

def pool4 : Array CpInfo := pool [(2, .class_ 4), (1, u "java/lang/CharSequence"), (42, .class_ 48), (0, u "java/lang/CharSequence$1CodePointIterator"), (10, .class_ 60), (0, u "java/lang/CharSequence$1CharIterator"), (5, .class_ 67), (0, u "java/lang/Object")] 63

/-- java/lang/CharSequence -/
def k4 : Class := { plain "java/lang/CharSequence" (some 0) with
  accessFlags := 1537
  interfaces := #[]
  cf := some (fileOf pool4 2 #[.nestMembers #[47, 59]] #[] 1537 66 #[] #[])
  fields := #[]
  methods := #[]
  instanceTypes := #[]
  staticTypes := #[]
  resolved := Array.replicate 131 none
  statics := none }

def pool5 : Array CpInfo := pool [(1, .class_ 2), (0, u "java/lang/constant/Constable"), (0, .class_ 4), (0, u "java/lang/Object")] 6

/-- java/lang/constant/Constable -/
def k5 : Class := { plain "java/lang/constant/Constable" (some 0) with
  accessFlags := 1537
  interfaces := #[]
  cf := some (fileOf pool5 1 #[] #[] 1537 3 #[] #[])
  fields := #[]
  methods := #[]
  instanceTypes := #[]
  staticTypes := #[]
  resolved := Array.replicate 11 none
  statics := none }

def pool6 : Array CpInfo := pool [(1, .class_ 2), (0, u "java/lang/constant/ConstantDesc"), (0, .class_ 4), (0, u "java/lang/Object")] 32

/-- java/lang/constant/ConstantDesc -/
def k6 : Class := { plain "java/lang/constant/ConstantDesc" (some 0) with
  accessFlags := 1537
  interfaces := #[]
  cf := some (fileOf pool6 1 #[] #[] 1537 3 #[] #[])
  fields := #[]
  methods := #[]
  instanceTypes := #[]
  staticTypes := #[]
  resolved := Array.replicate 37 none
  statics := none }

def pool7 : Array CpInfo := pool [(1, .methodref 2 3), (0, .class_ 4), (0, .nameAndType 5 6), (0, u "java/lang/Object"), (0, u "<init>"), (0, u "()V"), (0, .string 8), (0, u ""), (0, .fieldref 10 11), (0, .class_ 12), (0, .nameAndType 13 14), (0, u "java/lang/String"), (0, u "value"), (0, u "[B"), (0, .fieldref 10 16), (0, .nameAndType 17 18), (0, u "coder"), (0, u "B"), (2, u "hash"), (0, u "I"), (2, u "hashIsZero"), (0, u "Z"), (0, .methodref 10 28), (0, .nameAndType 5 29), (0, u "([CIILjava/lang/Void;)V"), (8, .fieldref 10 39), (0, .nameAndType 40 26), (0, u "COMPACT_STRINGS"), (1, .class_ 44), (1, u "java/lang/StringUTF16"), (0, u "compress"), (1, .methodref 42 48), (0, .nameAndType 49 50), (0, u "coderFromArrayLen"), (0, u "([BI)B"), (3, .methodref 55 56), (0, .class_ 57), (0, .nameAndType 58 59), (0, u "java/util/Arrays"), (0, u "copyOfRange"), (0, u "([BII)[B"), (47, .class_ 109), (1, u "java/lang/StringLatin1"), (32, u "()Z"), (34, .methodref 42 178), (0, .nameAndType 45 179), (0, u "([CII)[B"), (13, .class_ 195), (1, u "java/lang/System"), (16, .methodref 193 213), (0, .nameAndType 214 215), (0, u "arraycopy"), (0, u "(Ljava/lang/Object;ILjava/lang/Object;II)V"), (118, u "()I"), (0, .methodref 10 336), (0, .nameAndType 17 337), (0, u "()B"), (2, u "()[B"), (22, u "([BI)C"), (27, u "(II)V"), (35, u "(I)C"), (61, .methodref 10 490), (0, .nameAndType 5 491), (0, u "(Ljava/lang/AbstractStringBuilder;Ljava/lang/Void;)V"), (0, .methodref 10 493), (0, .nameAndType 494 142), (0, u "isLatin1"), (0, .methodref 107 496), (0, .nameAndType 497 363), (0, u "charAt"), (3, u "checkIndex"), (4, .nameAndType 507 334), (0, u "length"), (24, u "getBytes"), (16, .methodref 550 506), (0, .class_ 551), (0, u "java/lang/AbstractStringBuilder"), (0, .methodref 550 553), (0, .nameAndType 554 340), (0, u "getValue"), (20, .class_ 576), (0, u "java/lang/CharSequence"), (22, u "CASE_INSENSITIVE_ORDER"), (0, u "Ljava/util/Comparator;"), (220, u "([BIB)V"), (188, u "([C)V"), (36, .methodref 550 493), (5, .fieldref 1054 1055), (0, .class_ 1056), (0, .nameAndType 1057 1058), (0, u "jdk/internal/util/Preconditions"), (0, u "SIOOBE_FORMATTER"), (0, u "Ljava/util/function/BiFunction;"), (0, .methodref 1054 1060), (0, .nameAndType 501 1061), (0, u "(IILjava/util/function/BiFunction;)I"), (39, u "serialPersistentFields"), (0, u "[Ljava/io/ObjectStreamField;"), (0, .class_ 1104), (0, u "java/lang/String$CaseInsensitiveComparator"), (1, .class_ 1107), (0, u "java/io/Serializable"), (0, .class_ 1109), (0, u "java/lang/Comparable"), (0, .class_ 1111), (0, u "java/lang/constant/Constable"), (0, .class_ 1113), (0, u "java/lang/constant/ConstantDesc"), (2, u "serialVersionUID"), (0, u "J"), (3, u "REPL"), (0, u "C"), (2, u "LATIN1"), (1, u "UTF16"), (105, u "(Ljava/lang/StringBuilder;)V")] 217

def k7m0 : Method := { name := "<init>", desc := "()V", sig := { parameters := [], returnType := none }, accessFlags := 1, code := none }
def k7c1 : Code := { maxStack := 5, maxLocals := 2, code := jdk_42_method_3_code, exceptionTable := #[], attributes := #[] }
def k7m1 : Method := { name := "<init>", desc := "([C)V", sig := { parameters := [(.array .char)], returnType := none }, accessFlags := 1, code := some k7c1 }
def k7c2 : Code := { maxStack := 3, maxLocals := 2, code := jdk_42_method_53_code, exceptionTable := #[], attributes := #[] }
def k7m2 : Method := { name := "<init>", desc := "(Ljava/lang/StringBuilder;)V", sig := { parameters := [(.object "java/lang/StringBuilder")], returnType := none }, accessFlags := 1, code := some k7c2 }
def k7c3 : Code := { maxStack := 2, maxLocals := 1, code := jdk_42_method_54_code, exceptionTable := #[], attributes := #[] }
def k7m3 : Method := { name := "length", desc := "()I", sig := { parameters := [], returnType := some .int }, accessFlags := 1, code := some k7c3 }
def k7c4 : Code := { maxStack := 2, maxLocals := 2, code := jdk_42_method_56_code, exceptionTable := #[], attributes := #[] }
def k7m4 : Method := { name := "charAt", desc := "(I)C", sig := { parameters := [.int], returnType := some .char }, accessFlags := 1, code := some k7c4 }
def k7c5 : Code := { maxStack := 5, maxLocals := 4, code := jdk_42_method_147_code, exceptionTable := #[], attributes := #[] }
def k7m5 : Method := { name := "getBytes", desc := "([BIB)V", sig := { parameters := [(.array .byte), .int, .byte], returnType := none }, accessFlags := 0, code := some k7c5 }
def k7c6 : Code := { maxStack := 4, maxLocals := 6, code := jdk_42_method_149_code, exceptionTable := #[], attributes := #[] }
def k7m6 : Method := { name := "<init>", desc := "([CIILjava/lang/Void;)V", sig := { parameters := [(.array .char), .int, .int, (.object "java/lang/Void")], returnType := none }, accessFlags := 2, code := some k7c6 }
def k7c7 : Code := { maxStack := 5, maxLocals := 5, code := jdk_42_method_150_code, exceptionTable := #[], attributes := #[] }
def k7m7 : Method := { name := "<init>", desc := "(Ljava/lang/AbstractStringBuilder;Ljava/lang/Void;)V", sig := { parameters := [(.object "java/lang/AbstractStringBuilder"), (.object "java/lang/Void")], returnType := none }, accessFlags := 0, code := some k7c7 }
def k7c8 : Code := { maxStack := 1, maxLocals := 1, code := jdk_42_method_152_code, exceptionTable := #[], attributes := #[] }
def k7m8 : Method := { name := "coder", desc := "()B", sig := { parameters := [], returnType := some .byte }, accessFlags := 0, code := some k7c8 }
def k7c9 : Code := { maxStack := 1, maxLocals := 1, code := jdk_42_method_154_code, exceptionTable := #[], attributes := #[] }
def k7m9 : Method := { name := "isLatin1", desc := "()Z", sig := { parameters := [], returnType := some .boolean }, accessFlags := 0, code := some k7c9 }
def k7c10 : Code := { maxStack := 3, maxLocals := 2, code := jdk_42_method_155_code, exceptionTable := #[], attributes := #[] }
def k7m10 : Method := { name := "checkIndex", desc := "(II)V", sig := { parameters := [.int, .int], returnType := none }, accessFlags := 8, code := some k7c10 }
/-- java/lang/String -/
def k7 : Class := { plain "java/lang/String" (some 0) with
  accessFlags := 49
  interfaces := #[2, 3, 4, 5, 6]
  cf := some (fileOf pool7 10 #[.nestMembers #[1103]] #[{ accessFlags := 1, nameIndex := 5, descriptorIndex := 6, attributes := #[] }, { accessFlags := 1, nameIndex := 5, descriptorIndex := 1010, attributes := #[] }, { accessFlags := 1, nameIndex := 5, descriptorIndex := 1233, attributes := #[] }, { accessFlags := 1, nameIndex := 507, descriptorIndex := 334, attributes := #[] }, { accessFlags := 1, nameIndex := 497, descriptorIndex := 427, attributes := #[] }, { accessFlags := 0, nameIndex := 532, descriptorIndex := 821, attributes := #[] }, { accessFlags := 2, nameIndex := 5, descriptorIndex := 29, attributes := #[] }, { accessFlags := 0, nameIndex := 5, descriptorIndex := 491, attributes := #[] }, { accessFlags := 0, nameIndex := 17, descriptorIndex := 337, attributes := #[] }, { accessFlags := 0, nameIndex := 494, descriptorIndex := 142, attributes := #[] }, { accessFlags := 8, nameIndex := 501, descriptorIndex := 391, attributes := #[] }] 49 2 #[1106, 1108, 575, 1110, 1112] #[{ accessFlags := 18, nameIndex := 13, descriptorIndex := 14, attributes := #[] }, { accessFlags := 18, nameIndex := 17, descriptorIndex := 18, attributes := #[] }, { accessFlags := 2, nameIndex := 21, descriptorIndex := 22, attributes := #[] }, { accessFlags := 2, nameIndex := 25, descriptorIndex := 26, attributes := #[] }, { accessFlags := 26, nameIndex := 1116, descriptorIndex := 1117, attributes := #[] }, { accessFlags := 24, nameIndex := 40, descriptorIndex := 26, attributes := #[] }, { accessFlags := 26, nameIndex := 1101, descriptorIndex := 1102, attributes := #[] }, { accessFlags := 26, nameIndex := 1121, descriptorIndex := 1122, attributes := #[] }, { accessFlags := 25, nameIndex := 599, descriptorIndex := 600, attributes := #[] }, { accessFlags := 24, nameIndex := 1125, descriptorIndex := 18, attributes := #[] }, { accessFlags := 24, nameIndex := 1127, descriptorIndex := 18, attributes := #[] }])
  fields := #[{ name := "value", type := (.array .byte), accessFlags := 18, slot := 0, constantValue := 0 }, { name := "coder", type := .byte, accessFlags := 18, slot := 1, constantValue := 0 }, { name := "hash", type := .int, accessFlags := 2, slot := 2, constantValue := 0 }, { name := "hashIsZero", type := .boolean, accessFlags := 2, slot := 3, constantValue := 0 }, { name := "serialVersionUID", type := .long, accessFlags := 26, slot := 0, constantValue := 0 }, { name := "COMPACT_STRINGS", type := .boolean, accessFlags := 24, slot := 1, constantValue := 0 }, { name := "serialPersistentFields", type := (.array (.object "java/io/ObjectStreamField")), accessFlags := 26, slot := 2, constantValue := 0 }, { name := "REPL", type := .char, accessFlags := 26, slot := 3, constantValue := 0 }, { name := "CASE_INSENSITIVE_ORDER", type := (.object "java/util/Comparator"), accessFlags := 25, slot := 4, constantValue := 0 }, { name := "LATIN1", type := .byte, accessFlags := 24, slot := 5, constantValue := 0 }, { name := "UTF16", type := .byte, accessFlags := 24, slot := 6, constantValue := 0 }]
  methods := #[k7m0, k7m1, k7m2, k7m3, k7m4, k7m5, k7m6, k7m7, k7m8, k7m9, k7m10]
  instanceTypes := #[(.array .byte), .byte, .int, .boolean]
  staticTypes := #[.long, .boolean, (.array (.object "java/io/ObjectStreamField")), .char, (.object "java/util/Comparator"), .byte, .byte]
  resolved := Array.replicate 1451 none
  statics := some 0 }

def pool8 : Array CpInfo := pool [(6, .class_ 8), (1, u "java/lang/Object"), (0, u "<init>"), (0, u "()V"), (1, .class_ 14), (1, u "java/lang/StringUTF16"), (31, u "$assertionsDisabled"), (0, u "Z"), (13, u "HI_BYTE_SHIFT"), (0, u "I"), (2, u "LO_BYTE_SHIFT"), (49, .methodref 12 116), (0, .nameAndType 117 118), (0, u "compress"), (0, u "([CI[BII)I"), (3, u "([CII)[B"), (138, u "coderFromArrayLen"), (0, u "([BI)B"), (106, .class_ 371), (1, u "java/lang/StringUTF16$LinesSpliterator"), (58, u "MAX_LENGTH"), (196, .class_ 628), (0, u "java/lang/StringUTF16$CodePointsSpliterator"), (0, .class_ 630), (0, u "java/lang/StringUTF16$CharsSpliterator")] 4

def k8m0 : Method := { name := "<init>", desc := "()V", sig := { parameters := [], returnType := none }, accessFlags := 0, code := none }
def k8c1 : Code := { maxStack := 2, maxLocals := 2, code := jdk_52_method_15_code, exceptionTable := #[], attributes := #[] }
def k8m1 : Method := { name := "coderFromArrayLen", desc := "([BI)B", sig := { parameters := [(.array .byte), .int], returnType := some .byte }, accessFlags := 8, code := some k8c1 }
def k8c2 : Code := { maxStack := 5, maxLocals := 6, code := jdk_52_method_16_code, exceptionTable := #[], attributes := #[] }
def k8m2 : Method := { name := "compress", desc := "([CII)[B", sig := { parameters := [(.array .char), .int, .int], returnType := some (.array .byte) }, accessFlags := 9, code := some k8c2 }
def k8c3 : Code := { maxStack := 3, maxLocals := 7, code := jdk_52_method_21_code, exceptionTable := #[], attributes := #[] }
def k8m3 : Method := { name := "compress", desc := "([CI[BII)I", sig := { parameters := [(.array .char), .int, (.array .byte), .int, .int], returnType := some .int }, accessFlags := 9, code := some k8c3 }
/-- java/lang/StringUTF16 -/
def k8 : Class := { plain "java/lang/StringUTF16" (some 0) with
  accessFlags := 48
  interfaces := #[]
  cf := some (fileOf pool8 12 #[.nestMembers #[627, 629, 369]] #[{ accessFlags := 0, nameIndex := 9, descriptorIndex := 10, attributes := #[] }, { accessFlags := 8, nameIndex := 261, descriptorIndex := 262, attributes := #[] }, { accessFlags := 9, nameIndex := 117, descriptorIndex := 122, attributes := #[] }, { accessFlags := 9, nameIndex := 117, descriptorIndex := 118, attributes := #[] }] 48 6 #[] #[{ accessFlags := 26, nameIndex := 61, descriptorIndex := 62, attributes := #[] }, { accessFlags := 26, nameIndex := 65, descriptorIndex := 62, attributes := #[] }, { accessFlags := 24, nameIndex := 430, descriptorIndex := 62, attributes := #[] }, { accessFlags := 4120, nameIndex := 46, descriptorIndex := 47, attributes := #[] }])
  fields := #[{ name := "HI_BYTE_SHIFT", type := .int, accessFlags := 26, slot := 0, constantValue := 0 }, { name := "LO_BYTE_SHIFT", type := .int, accessFlags := 26, slot := 1, constantValue := 0 }, { name := "MAX_LENGTH", type := .int, accessFlags := 24, slot := 2, constantValue := 0 }, { name := "$assertionsDisabled", type := .boolean, accessFlags := 4120, slot := 3, constantValue := 0 }]
  methods := #[k8m0, k8m1, k8m2, k8m3]
  instanceTypes := #[]
  staticTypes := #[.int, .int, .int, .boolean]
  resolved := Array.replicate 635 none
  statics := none }

def pool9 : Array CpInfo := pool [(1, .methodref 2 3), (0, .class_ 4), (0, .nameAndType 5 6), (0, u "java/lang/Object"), (0, u "<init>"), (0, u "()V"), (0, .class_ 8), (0, u "java/lang/Record")] 13

def k9c0 : Code := { maxStack := 1, maxLocals := 1, code := jdk_30_method_1_code, exceptionTable := #[], attributes := #[] }
def k9m0 : Method := { name := "<init>", desc := "()V", sig := { parameters := [], returnType := none }, accessFlags := 4, code := some k9c0 }
/-- java/lang/Record -/
def k9 : Class := { plain "java/lang/Record" (some 0) with
  accessFlags := 1057
  interfaces := #[]
  cf := some (fileOf pool9 7 #[] #[{ accessFlags := 4, nameIndex := 5, descriptorIndex := 6, attributes := #[] }] 1057 2 #[] #[])
  fields := #[]
  methods := #[k9m0]
  instanceTypes := #[]
  staticTypes := #[]
  resolved := Array.replicate 22 none
  statics := none }

def pool10 : Array CpInfo := pool [(1, .methodref 2 3), (0, .class_ 4), (0, .nameAndType 5 6), (0, u "java/lang/Record"), (0, u "<init>"), (0, u "()V"), (0, .fieldref 8 9), (0, .class_ 10), (0, .nameAndType 11 12), (0, u "com/example/cadi/cadi/Alias"), (0, u "name"), (0, u "Ljava/lang/String;"), (0, .fieldref 8 14), (0, .nameAndType 15 12), (0, u "alias"), (0, .fieldref 8 17), (0, .nameAndType 18 19), (0, u "origin"), (0, u "Lcom/example/cadi/cadi/Origin;"), (0, .class_ 21), (0, u "java/lang/StringBuilder"), (0, .methodref 20 3), (2, u "append"), (3, .methodref 20 30), (0, .nameAndType 25 31), (0, u "(Ljava/lang/String;)Ljava/lang/StringBuilder;"), (0, .methodref 20 33), (0, .nameAndType 34 35), (0, u "toString"), (0, u "()Ljava/lang/String;"), (6, .string 43), (0, u "<alias name=\""), (0, .string 45), (0, u "\" alias=\""), (0, .string 47), (0, u "\"/>"), (8, u "(Ljava/lang/String;Ljava/lang/String;Lcom/example/cadi/cadi/Origin;)V")] 28

def k10c0 : Code := { maxStack := 2, maxLocals := 4, code := prog_1_method_1_code, exceptionTable := #[], attributes := #[] }
def k10m0 : Method := { name := "<init>", desc := "(Ljava/lang/String;Ljava/lang/String;Lcom/example/cadi/cadi/Origin;)V", sig := { parameters := [(.object "java/lang/String"), (.object "java/lang/String"), (.object "com/example/cadi/cadi/Origin")], returnType := none }, accessFlags := 0, code := some k10c0 }
def k10c1 : Code := { maxStack := 2, maxLocals := 1, code := prog_1_method_3_code, exceptionTable := #[], attributes := #[] }
def k10m1 : Method := { name := "toString", desc := "()Ljava/lang/String;", sig := { parameters := [], returnType := some (.object "java/lang/String") }, accessFlags := 1, code := some k10c1 }
/-- com/example/cadi/cadi/Alias -/
def k10 : Class := { plain "com/example/cadi/cadi/Alias" (some 9) with
  accessFlags := 48
  interfaces := #[]
  cf := some (fileOf pool10 8 #[] #[{ accessFlags := 0, nameIndex := 5, descriptorIndex := 56, attributes := #[] }, { accessFlags := 1, nameIndex := 34, descriptorIndex := 35, attributes := #[] }] 48 2 #[] #[{ accessFlags := 18, nameIndex := 11, descriptorIndex := 12, attributes := #[] }, { accessFlags := 18, nameIndex := 15, descriptorIndex := 12, attributes := #[] }, { accessFlags := 18, nameIndex := 18, descriptorIndex := 19, attributes := #[] }])
  fields := #[{ name := "name", type := (.object "java/lang/String"), accessFlags := 18, slot := 0, constantValue := 0 }, { name := "alias", type := (.object "java/lang/String"), accessFlags := 18, slot := 1, constantValue := 0 }, { name := "origin", type := (.object "com/example/cadi/cadi/Origin"), accessFlags := 18, slot := 2, constantValue := 0 }]
  methods := #[k10m0, k10m1]
  instanceTypes := #[(.object "java/lang/String"), (.object "java/lang/String"), (.object "com/example/cadi/cadi/Origin")]
  staticTypes := #[]
  resolved := Array.replicate 85 none
  statics := none }

def pool11 : Array CpInfo := pool [(1, .methodref 2 3), (0, .class_ 4), (0, .nameAndType 5 6), (0, u "java/lang/Record"), (0, u "<init>"), (0, u "()V"), (0, .fieldref 8 9), (0, .class_ 10), (0, .nameAndType 11 12), (0, u "com/example/cadi/cadi/Origin"), (0, u "place"), (0, u "Ljava/lang/String;"), (21, u "(Ljava/lang/String;)V")] 76

def k11c0 : Code := { maxStack := 2, maxLocals := 2, code := prog_35_method_1_code, exceptionTable := #[], attributes := #[] }
def k11m0 : Method := { name := "<init>", desc := "(Ljava/lang/String;)V", sig := { parameters := [(.object "java/lang/String")], returnType := none }, accessFlags := 0, code := some k11c0 }
/-- com/example/cadi/cadi/Origin -/
def k11 : Class := { plain "com/example/cadi/cadi/Origin" (some 9) with
  accessFlags := 48
  interfaces := #[]
  cf := some (fileOf pool11 8 #[] #[{ accessFlags := 0, nameIndex := 5, descriptorIndex := 34, attributes := #[] }] 48 2 #[] #[{ accessFlags := 18, nameIndex := 11, descriptorIndex := 12, attributes := #[] }])
  fields := #[{ name := "place", type := (.object "java/lang/String"), accessFlags := 18, slot := 0, constantValue := 0 }]
  methods := #[k11m0]
  instanceTypes := #[(.object "java/lang/String")]
  staticTypes := #[]
  resolved := Array.replicate 111 none
  statics := none }

def pool12 : Array CpInfo := pool [(1, .class_ 2), (0, u "java/lang/Appendable"), (0, .class_ 4), (0, u "java/lang/Object")] 9

/-- java/lang/Appendable -/
def k12 : Class := { plain "java/lang/Appendable" (some 0) with
  accessFlags := 1537
  interfaces := #[]
  cf := some (fileOf pool12 1 #[] #[] 1537 3 #[] #[])
  fields := #[]
  methods := #[]
  instanceTypes := #[]
  staticTypes := #[]
  resolved := Array.replicate 14 none
  statics := none }

def pool13 : Array CpInfo := pool [(1, .class_ 2), (0, u "java/lang/String"), (0, .methodref 4 5), (0, .class_ 6), (0, .nameAndType 7 8), (0, u "java/lang/Object"), (0, u "<init>"), (0, u "()V"), (1, .class_ 12), (1, u "java/lang/AbstractStringBuilder"), (0, u "EMPTYVALUE"), (0, u "[B"), (0, .fieldref 10 16), (0, .nameAndType 17 14), (0, u "value"), (0, .fieldref 1 19), (0, .nameAndType 20 21), (0, u "COMPACT_STRINGS"), (0, u "Z"), (0, .fieldref 10 23), (0, .nameAndType 24 25), (0, u "coder"), (0, u "B"), (6, .methodref 1 33), (0, .nameAndType 34 35), (0, u "length"), (0, u "()I"), (3, .integer 2147483647), (0, .methodref 1 41), (0, .nameAndType 24 42), (0, u "()B"), (2, u "append"), (0, u "(Ljava/lang/String;)Ljava/lang/AbstractStringBuilder;"), (1, .class_ 49), (0, u "java/lang/CharSequence"), (19, u "(Ljava/lang/String;)V"), (5, u "maybeLatin1"), (3, .fieldref 10 80), (0, .nameAndType 81 82), (0, u "count"), (0, u "I"), (2, u "isLatin1"), (0, u "()Z"), (13, .methodref 10 101), (0, .nameAndType 102 103), (0, u "ensureCapacityInternal"), (0, u "(I)V"), (0, .methodref 10 105), (0, .nameAndType 106 107), (0, u "newCapacity"), (0, u "(I)I"), (0, .methodref 109 110), (0, .class_ 111), (0, .nameAndType 112 113), (0, u "java/util/Arrays"), (0, u "copyOf"), (0, u "([BI)[B"), (0, .methodref 115 116), (0, .class_ 117), (0, .nameAndType 118 119), (0, u "jdk/internal/util/ArraysSupport"), (0, u "newLength"), (0, u "(III)I"), (88, .methodref 10 209), (0, .nameAndType 210 211), (0, u "putStringAt"), (0, u "(ILjava/lang/String;)V"), (5, u "inflateIfNeededFor"), (2, .nameAndType 221 222), (0, u "getBytes"), (0, u "([BIB)V"), (174, .methodref 10 398), (0, .nameAndType 217 69), (0, .methodref 1 220), (3, u "()[B"), (40, .class_ 445), (0, u "java/lang/Appendable"), (106, u "getValue")] 56

def k13m0 : Method := { name := "<init>", desc := "()V", sig := { parameters := [], returnType := none }, accessFlags := 0, code := none }
def k13c1 : Code := { maxStack := 2, maxLocals := 2, code := jdk_68_method_2_code, exceptionTable := #[], attributes := #[] }
def k13m1 : Method := { name := "<init>", desc := "(I)V", sig := { parameters := [.int], returnType := none }, accessFlags := 0, code := some k13c1 }
def k13c2 : Code := { maxStack := 1, maxLocals := 1, code := jdk_68_method_6_code, exceptionTable := #[], attributes := #[] }
def k13m2 : Method := { name := "length", desc := "()I", sig := { parameters := [], returnType := some .int }, accessFlags := 1, code := some k13c2 }
def k13c3 : Code := { maxStack := 4, maxLocals := 3, code := jdk_68_method_9_code, exceptionTable := #[], attributes := #[] }
def k13m3 : Method := { name := "ensureCapacityInternal", desc := "(I)V", sig := { parameters := [.int], returnType := none }, accessFlags := 2, code := some k13c3 }
def k13c4 : Code := { maxStack := 5, maxLocals := 6, code := jdk_68_method_10_code, exceptionTable := #[], attributes := #[] }
def k13m4 : Method := { name := "newCapacity", desc := "(I)I", sig := { parameters := [.int], returnType := some .int }, accessFlags := 2, code := some k13c4 }
def k13c5 : Code := { maxStack := 3, maxLocals := 3, code := jdk_68_method_22_code, exceptionTable := #[], attributes := #[] }
def k13m5 : Method := { name := "append", desc := "(Ljava/lang/String;)Ljava/lang/AbstractStringBuilder;", sig := { parameters := [(.object "java/lang/String")], returnType := some (.object "java/lang/AbstractStringBuilder") }, accessFlags := 1, code := some k13c5 }
def k13c6 : Code := { maxStack := 1, maxLocals := 1, code := jdk_68_method_64_code, exceptionTable := #[], attributes := #[] }
def k13m6 : Method := { name := "getValue", desc := "()[B", sig := { parameters := [], returnType := some (.array .byte) }, accessFlags := 16, code := some k13c6 }
def k13c7 : Code := { maxStack := 1, maxLocals := 1, code := jdk_68_method_68_code, exceptionTable := #[], attributes := #[] }
def k13m7 : Method := { name := "isLatin1", desc := "()Z", sig := { parameters := [], returnType := some .boolean }, accessFlags := 16, code := some k13c7 }
def k13c8 : Code := { maxStack := 2, maxLocals := 2, code := jdk_68_method_71_code, exceptionTable := #[], attributes := #[] }
def k13m8 : Method := { name := "inflateIfNeededFor", desc := "(Ljava/lang/String;)V", sig := { parameters := [(.object "java/lang/String")], returnType := none }, accessFlags := 2, code := some k13c8 }
def k13c9 : Code := { maxStack := 4, maxLocals := 3, code := jdk_68_method_73_code, exceptionTable := #[], attributes := #[] }
def k13m9 : Method := { name := "putStringAt", desc := "(ILjava/lang/String;)V", sig := { parameters := [.int, (.object "java/lang/String")], returnType := none }, accessFlags := 2, code := some k13c9 }
/-- java/lang/AbstractStringBuilder -/
def k13 : Class := { plain "java/lang/AbstractStringBuilder" (some 0) with
  accessFlags := 1056
  interfaces := #[12, 4]
  cf := some (fileOf pool13 10 #[] #[{ accessFlags := 0, nameIndex := 7, descriptorIndex := 8, attributes := #[] }, { accessFlags := 0, nameIndex := 7, descriptorIndex := 103, attributes := #[] }, { accessFlags := 1, nameIndex := 34, descriptorIndex := 35, attributes := #[] }, { accessFlags := 2, nameIndex := 102, descriptorIndex := 103, attributes := #[] }, { accessFlags := 2, nameIndex := 106, descriptorIndex := 107, attributes := #[] }, { accessFlags := 1, nameIndex := 45, descriptorIndex := 46, attributes := #[] }, { accessFlags := 16, nameIndex := 552, descriptorIndex := 403, attributes := #[] }, { accessFlags := 16, nameIndex := 85, descriptorIndex := 86, attributes := #[] }, { accessFlags := 2, nameIndex := 217, descriptorIndex := 69, attributes := #[] }, { accessFlags := 2, nameIndex := 210, descriptorIndex := 211, attributes := #[] }] 1056 4 #[444, 48] #[{ accessFlags := 0, nameIndex := 17, descriptorIndex := 14, attributes := #[] }, { accessFlags := 0, nameIndex := 24, descriptorIndex := 25, attributes := #[] }, { accessFlags := 0, nameIndex := 75, descriptorIndex := 21, attributes := #[] }, { accessFlags := 0, nameIndex := 81, descriptorIndex := 82, attributes := #[] }, { accessFlags := 26, nameIndex := 13, descriptorIndex := 14, attributes := #[] }])
  fields := #[{ name := "value", type := (.array .byte), accessFlags := 0, slot := 0, constantValue := 0 }, { name := "coder", type := .byte, accessFlags := 0, slot := 1, constantValue := 0 }, { name := "maybeLatin1", type := .boolean, accessFlags := 0, slot := 2, constantValue := 0 }, { name := "count", type := .int, accessFlags := 0, slot := 3, constantValue := 0 }, { name := "EMPTYVALUE", type := (.array .byte), accessFlags := 26, slot := 0, constantValue := 0 }]
  methods := #[k13m0, k13m1, k13m2, k13m3, k13m4, k13m5, k13m6, k13m7, k13m8, k13m9]
  instanceTypes := #[(.array .byte), .byte, .boolean, .int]
  staticTypes := #[(.array .byte)]
  resolved := Array.replicate 609 none
  statics := none }

def pool14 : Array CpInfo := pool [(1, .methodref 2 3), (0, .class_ 4), (0, .nameAndType 5 6), (0, u "java/lang/AbstractStringBuilder"), (0, u "<init>"), (0, u "(I)V"), (11, .class_ 20), (1, u "java/lang/String"), (3, .class_ 26), (1, u "java/lang/StringBuilder"), (0, u "append"), (0, u "(Ljava/lang/String;)Ljava/lang/StringBuilder;"), (0, .methodref 2 30), (0, .nameAndType 27 31), (0, u "(Ljava/lang/String;)Ljava/lang/AbstractStringBuilder;"), (105, .methodref 18 138), (0, .nameAndType 5 139), (0, u "(Ljava/lang/StringBuilder;)V"), (5, u "()V"), (10, u "()I"), (186, .methodref 2 344), (0, .nameAndType 345 156), (0, u "length"), (3, .class_ 350), (0, u "java/lang/Appendable"), (0, .class_ 352), (0, u "java/io/Serializable"), (0, .class_ 354), (0, u "java/lang/Comparable"), (0, .class_ 356), (0, u "java/lang/CharSequence"), (0, u "serialVersionUID"), (0, u "J"), (40, u "toString"), (0, u "()Ljava/lang/String;")] 21

def k14c0 : Code := { maxStack := 2, maxLocals := 1, code := jdk_67_method_1_code, exceptionTable := #[], attributes := #[] }
def k14m0 : Method := { name := "<init>", desc := "()V", sig := { parameters := [], returnType := none }, accessFlags := 1, code := some k14c0 }
def k14c1 : Code := { maxStack := 2, maxLocals := 2, code := jdk_67_method_7_code, exceptionTable := #[], attributes := #[] }
def k14m1 : Method := { name := "append", desc := "(Ljava/lang/String;)Ljava/lang/StringBuilder;", sig := { parameters := [(.object "java/lang/String")], returnType := some (.object "java/lang/StringBuilder") }, accessFlags := 1, code := some k14c1 }
def k14c2 : Code := { maxStack := 3, maxLocals := 1, code := jdk_67_method_42_code, exceptionTable := #[], attributes := #[] }
def k14m2 : Method := { name := "toString", desc := "()Ljava/lang/String;", sig := { parameters := [], returnType := some (.object "java/lang/String") }, accessFlags := 1, code := some k14c2 }
def k14c3 : Code := { maxStack := 1, maxLocals := 1, code := jdk_67_method_93_code, exceptionTable := #[], attributes := #[] }
def k14m3 : Method := { name := "length", desc := "()I", sig := { parameters := [], returnType := some .int }, accessFlags := 4161, code := some k14c3 }
/-- java/lang/StringBuilder -/
def k14 : Class := { plain "java/lang/StringBuilder" (some 13) with
  accessFlags := 49
  interfaces := #[12, 2, 3, 4]
  cf := some (fileOf pool14 24 #[] #[{ accessFlags := 1, nameIndex := 5, descriptorIndex := 145, attributes := #[] }, { accessFlags := 1, nameIndex := 27, descriptorIndex := 28, attributes := #[] }, { accessFlags := 1, nameIndex := 399, descriptorIndex := 400, attributes := #[] }, { accessFlags := 4161, nameIndex := 345, descriptorIndex := 156, attributes := #[] }] 49 2 #[349, 351, 353, 355] #[{ accessFlags := 24, nameIndex := 357, descriptorIndex := 358, attributes := #[] }])
  fields := #[{ name := "serialVersionUID", type := .long, accessFlags := 24, slot := 0, constantValue := 0 }]
  methods := #[k14m0, k14m1, k14m2, k14m3]
  instanceTypes := #[(.array .byte), .byte, .boolean, .int]
  staticTypes := #[.long]
  resolved := Array.replicate 422 none
  statics := none }

def pool15 : Array CpInfo := pool [(2, .class_ 4), (1, u "java/lang/Object"), (0, u "<init>"), (0, u "()V"), (1, .class_ 10), (1, u "java/lang/System"), (0, u "allowSecurityManager"), (0, u "I"), (16, u "cons"), (0, u "Ljava/io/Console;"), (77, .class_ 110), (1, u "java/lang/System$CallersHolder"), (43, u "initialErrStream"), (0, u "Ljava/io/PrintStream;"), (19, u "security"), (0, u "Ljava/lang/SecurityManager;"), (31, .class_ 209), (0, u "java/lang/System$1"), (7, u "props"), (0, u "Ljava/util/Properties;"), (2, u "lineSeparator"), (0, u "Ljava/lang/String;"), (96, .class_ 321), (1, u "java/lang/System$LoggerFinder"), (5, .class_ 328), (0, u "java/lang/System$Logger"), (67, u "err"), (2, u "out"), (91, u "notSupportedJnuEncoding"), (15, u "in"), (17, u "initialIn"), (0, u "Ljava/io/InputStream;"), (35, u "bootLayer"), (0, u "Ljava/lang/ModuleLayer;"), (99, .class_ 664), (0, u "java/lang/System$2"), (9, u "NEVER"), (2, u "MAYBE"), (49, u "arraycopy"), (0, u "(Ljava/lang/Object;ILjava/lang/Object;II)V"), (72, .class_ 802), (0, u "java/lang/System$Logger$Level")] 31

def k15m0 : Method := { name := "<init>", desc := "()V", sig := { parameters := [], returnType := none }, accessFlags := 2, code := none }
def k15m1 : Method := { name := "arraycopy", desc := "(Ljava/lang/Object;ILjava/lang/Object;II)V", sig := { parameters := [(.object "java/lang/Object"), .int, (.object "java/lang/Object"), .int, .int], returnType := none }, accessFlags := 265, code := none }
/-- java/lang/System -/
def k15 : Class := { plain "java/lang/System" (some 0) with
  accessFlags := 49
  interfaces := #[]
  cf := some (fileOf pool15 8 #[.nestMembers #[319, 327, 801, 108, 663, 208]] #[{ accessFlags := 2, nameIndex := 5, descriptorIndex := 6, attributes := #[] }, { accessFlags := 265, nameIndex := 727, descriptorIndex := 728, attributes := #[] }] 49 2 #[] #[{ accessFlags := 25, nameIndex := 507, descriptorIndex := 526, attributes := #[] }, { accessFlags := 25, nameIndex := 399, descriptorIndex := 155, attributes := #[] }, { accessFlags := 25, nameIndex := 396, descriptorIndex := 155, attributes := #[] }, { accessFlags := 10, nameIndex := 525, descriptorIndex := 526, attributes := #[] }, { accessFlags := 26, nameIndex := 674, descriptorIndex := 12, attributes := #[] }, { accessFlags := 26, nameIndex := 677, descriptorIndex := 12, attributes := #[] }, { accessFlags := 10, nameIndex := 11, descriptorIndex := 12, attributes := #[] }, { accessFlags := 74, nameIndex := 175, descriptorIndex := 176, attributes := #[] }, { accessFlags := 10, nameIndex := 491, descriptorIndex := 222, attributes := #[] }, { accessFlags := 74, nameIndex := 29, descriptorIndex := 30, attributes := #[] }, { accessFlags := 74, nameIndex := 154, descriptorIndex := 155, attributes := #[] }, { accessFlags := 10, nameIndex := 217, descriptorIndex := 218, attributes := #[] }, { accessFlags := 10, nameIndex := 221, descriptorIndex := 222, attributes := #[] }, { accessFlags := 8, nameIndex := 562, descriptorIndex := 563, attributes := #[] }])
  fields := #[{ name := "in", type := (.object "java/io/InputStream"), accessFlags := 25, slot := 0, constantValue := 0 }, { name := "out", type := (.object "java/io/PrintStream"), accessFlags := 25, slot := 1, constantValue := 0 }, { name := "err", type := (.object "java/io/PrintStream"), accessFlags := 25, slot := 2, constantValue := 0 }, { name := "initialIn", type := (.object "java/io/InputStream"), accessFlags := 10, slot := 3, constantValue := 0 }, { name := "NEVER", type := .int, accessFlags := 26, slot := 4, constantValue := 0 }, { name := "MAYBE", type := .int, accessFlags := 26, slot := 5, constantValue := 0 }, { name := "allowSecurityManager", type := .int, accessFlags := 10, slot := 6, constantValue := 0 }, { name := "security", type := (.object "java/lang/SecurityManager"), accessFlags := 74, slot := 7, constantValue := 0 }, { name := "notSupportedJnuEncoding", type := (.object "java/lang/String"), accessFlags := 10, slot := 8, constantValue := 0 }, { name := "cons", type := (.object "java/io/Console"), accessFlags := 74, slot := 9, constantValue := 0 }, { name := "initialErrStream", type := (.object "java/io/PrintStream"), accessFlags := 74, slot := 10, constantValue := 0 }, { name := "props", type := (.object "java/util/Properties"), accessFlags := 10, slot := 11, constantValue := 0 }, { name := "lineSeparator", type := (.object "java/lang/String"), accessFlags := 10, slot := 12, constantValue := 0 }, { name := "bootLayer", type := (.object "java/lang/ModuleLayer"), accessFlags := 8, slot := 13, constantValue := 0 }]
  methods := #[k15m0, k15m1]
  instanceTypes := #[]
  staticTypes := #[(.object "java/io/InputStream"), (.object "java/io/PrintStream"), (.object "java/io/PrintStream"), (.object "java/io/InputStream"), .int, .int, .int, (.object "java/lang/SecurityManager"), (.object "java/lang/String"), (.object "java/io/Console"), (.object "java/io/PrintStream"), (.object "java/util/Properties"), (.object "java/lang/String"), (.object "java/lang/ModuleLayer")]
  resolved := Array.replicate 834 none
  statics := none }

def pool16 : Array CpInfo := pool [(9, u "<init>"), (6, .class_ 18), (1, u "java/lang/Object"), (0, u "()V"), (1, .class_ 23), (1, u "jdk/internal/util/ArraysSupport"), (0, u "LOG2_ARRAY_LONG_INDEX_SCALE"), (0, u "I"), (2, u "U"), (0, u "Ljdk/internal/misc/Unsafe;"), (8, u "BIG_ENDIAN"), (0, u "Z"), (8, u "LOG2_BYTE_BIT_SIZE"), (4, u "LOG2_ARRAY_INT_INDEX_SCALE"), (54, u "JLA"), (0, u "Ljdk/internal/access/JavaLangAccess;"), (11, u "LOG2_ARRAY_BOOLEAN_INDEX_SCALE"), (9, u "LOG2_ARRAY_BYTE_INDEX_SCALE"), (5, u "LOG2_ARRAY_CHAR_INDEX_SCALE"), (5, u "LOG2_ARRAY_SHORT_INDEX_SCALE"), (18, u "LOG2_ARRAY_FLOAT_INDEX_SCALE"), (24, u "LOG2_ARRAY_DOUBLE_INDEX_SCALE"), (6, .methodref 195 196), (0, .class_ 197), (0, .nameAndType 198 199), (0, u "java/lang/Math"), (0, u "max"), (0, u "(II)I"), (0, .integer 2147483639), (76, u "T_BOOLEAN"), (2, u "T_CHAR"), (1, u "T_FLOAT"), (1, u "T_DOUBLE"), (1, u "T_BYTE"), (1, u "T_SHORT"), (1, u "T_INT"), (1, u "T_LONG"), (1, u "SOFT_MAX_ARRAY_LENGTH"), (56, u "newLength"), (0, u "(III)I")] 25

def k16m0 : Method := { name := "<init>", desc := "()V", sig := { parameters := [], returnType := none }, accessFlags := 2, code := none }
def k16c1 : Code := { maxStack := 3, maxLocals := 4, code := jdk_48_method_27_code, exceptionTable := #[], attributes := #[] }
def k16m1 : Method := { name := "newLength", desc := "(III)I", sig := { parameters := [.int, .int, .int], returnType := some .int }, accessFlags := 9, code := some k16c1 }
/-- jdk/internal/util/ArraysSupport -/
def k16 : Class := { plain "jdk/internal/util/ArraysSupport" (some 0) with
  accessFlags := 33
  interfaces := #[]
  cf := some (fileOf pool16 21 #[] #[{ accessFlags := 2, nameIndex := 9, descriptorIndex := 19, attributes := #[] }, { accessFlags := 9, nameIndex := 351, descriptorIndex := 352, attributes := #[] }] 33 16 #[] #[{ accessFlags := 24, nameIndex := 28, descriptorIndex := 29, attributes := #[] }, { accessFlags := 26, nameIndex := 38, descriptorIndex := 39, attributes := #[] }, { accessFlags := 25, nameIndex := 121, descriptorIndex := 25, attributes := #[] }, { accessFlags := 25, nameIndex := 131, descriptorIndex := 25, attributes := #[] }, { accessFlags := 25, nameIndex := 137, descriptorIndex := 25, attributes := #[] }, { accessFlags := 25, nameIndex := 143, descriptorIndex := 25, attributes := #[] }, { accessFlags := 25, nameIndex := 53, descriptorIndex := 25, attributes := #[] }, { accessFlags := 25, nameIndex := 24, descriptorIndex := 25, attributes := #[] }, { accessFlags := 25, nameIndex := 162, descriptorIndex := 25, attributes := #[] }, { accessFlags := 25, nameIndex := 187, descriptorIndex := 25, attributes := #[] }, { accessFlags := 26, nameIndex := 48, descriptorIndex := 25, attributes := #[] }, { accessFlags := 25, nameIndex := 277, descriptorIndex := 25, attributes := #[] }, { accessFlags := 25, nameIndex := 280, descriptorIndex := 25, attributes := #[] }, { accessFlags := 25, nameIndex := 282, descriptorIndex := 25, attributes := #[] }, { accessFlags := 25, nameIndex := 284, descriptorIndex := 25, attributes := #[] }, { accessFlags := 25, nameIndex := 286, descriptorIndex := 25, attributes := #[] }, { accessFlags := 25, nameIndex := 288, descriptorIndex := 25, attributes := #[] }, { accessFlags := 25, nameIndex := 290, descriptorIndex := 25, attributes := #[] }, { accessFlags := 25, nameIndex := 292, descriptorIndex := 25, attributes := #[] }, { accessFlags := 26, nameIndex := 108, descriptorIndex := 109, attributes := #[] }, { accessFlags := 25, nameIndex := 294, descriptorIndex := 25, attributes := #[] }])
  fields := #[{ name := "U", type := (.object "jdk/internal/misc/Unsafe"), accessFlags := 24, slot := 0, constantValue := 0 }, { name := "BIG_ENDIAN", type := .boolean, accessFlags := 26, slot := 1, constantValue := 0 }, { name := "LOG2_ARRAY_BOOLEAN_INDEX_SCALE", type := .int, accessFlags := 25, slot := 2, constantValue := 0 }, { name := "LOG2_ARRAY_BYTE_INDEX_SCALE", type := .int, accessFlags := 25, slot := 3, constantValue := 0 }, { name := "LOG2_ARRAY_CHAR_INDEX_SCALE", type := .int, accessFlags := 25, slot := 4, constantValue := 0 }, { name := "LOG2_ARRAY_SHORT_INDEX_SCALE", type := .int, accessFlags := 25, slot := 5, constantValue := 0 }, { name := "LOG2_ARRAY_INT_INDEX_SCALE", type := .int, accessFlags := 25, slot := 6, constantValue := 0 }, { name := "LOG2_ARRAY_LONG_INDEX_SCALE", type := .int, accessFlags := 25, slot := 7, constantValue := 0 }, { name := "LOG2_ARRAY_FLOAT_INDEX_SCALE", type := .int, accessFlags := 25, slot := 8, constantValue := 0 }, { name := "LOG2_ARRAY_DOUBLE_INDEX_SCALE", type := .int, accessFlags := 25, slot := 9, constantValue := 0 }, { name := "LOG2_BYTE_BIT_SIZE", type := .int, accessFlags := 26, slot := 10, constantValue := 0 }, { name := "T_BOOLEAN", type := .int, accessFlags := 25, slot := 11, constantValue := 0 }, { name := "T_CHAR", type := .int, accessFlags := 25, slot := 12, constantValue := 0 }, { name := "T_FLOAT", type := .int, accessFlags := 25, slot := 13, constantValue := 0 }, { name := "T_DOUBLE", type := .int, accessFlags := 25, slot := 14, constantValue := 0 }, { name := "T_BYTE", type := .int, accessFlags := 25, slot := 15, constantValue := 0 }, { name := "T_SHORT", type := .int, accessFlags := 25, slot := 16, constantValue := 0 }, { name := "T_INT", type := .int, accessFlags := 25, slot := 17, constantValue := 0 }, { name := "T_LONG", type := .int, accessFlags := 25, slot := 18, constantValue := 0 }, { name := "JLA", type := (.object "jdk/internal/access/JavaLangAccess"), accessFlags := 26, slot := 19, constantValue := 0 }, { name := "SOFT_MAX_ARRAY_LENGTH", type := .int, accessFlags := 25, slot := 20, constantValue := 0 }]
  methods := #[k16m0, k16m1]
  instanceTypes := #[]
  staticTypes := #[(.object "jdk/internal/misc/Unsafe"), .boolean, .int, .int, .int, .int, .int, .int, .int, .int, .int, .int, .int, .int, .int, .int, .int, .int, .int, (.object "jdk/internal/access/JavaLangAccess"), .int]
  resolved := Array.replicate 378 none
  statics := none }

def pool17 : Array CpInfo := pool [(1, .class_ 2), (0, u "java/lang/Math"), (1, .class_ 6), (1, u "java/lang/Object"), (0, u "<init>"), (0, u "()V"), (89, .class_ 100), (1, u "java/lang/Math$RandomNumberGeneratorHolder"), (71, u "negativeZeroFloatBits"), (0, u "J"), (2, u "negativeZeroDoubleBits"), (21, u "max"), (2, u "min"), (43, u "$assertionsDisabled"), (0, u "Z"), (88, u "(II)I"), (2, u "twoToTheDoubleScaleDown"), (0, u "D"), (4, u "twoToTheDoubleScaleUp"), (9, u "E"), (3, u "PI"), (2, u "TAU"), (2, u "DEGREES_TO_RADIANS"), (0, u "RADIANS_TO_DEGREES")] 94

def k17m0 : Method := { name := "<init>", desc := "()V", sig := { parameters := [], returnType := none }, accessFlags := 2, code := none }
def k17c1 : Code := { maxStack := 2, maxLocals := 2, code := jdk_29_method_65_code, exceptionTable := #[], attributes := #[] }
def k17m1 : Method := { name := "max", desc := "(II)I", sig := { parameters := [.int, .int], returnType := some .int }, accessFlags := 9, code := some k17c1 }
def k17c2 : Code := { maxStack := 2, maxLocals := 2, code := jdk_29_method_69_code, exceptionTable := #[], attributes := #[] }
def k17m2 : Method := { name := "min", desc := "(II)I", sig := { parameters := [.int, .int], returnType := some .int }, accessFlags := 9, code := some k17c2 }
/-- java/lang/Math -/
def k17 : Class := { plain "java/lang/Math" (some 0) with
  accessFlags := 49
  interfaces := #[]
  cf := some (fileOf pool17 1 #[.nestMembers #[98]] #[{ accessFlags := 2, nameIndex := 7, descriptorIndex := 8, attributes := #[] }, { accessFlags := 9, nameIndex := 198, descriptorIndex := 335, attributes := #[] }, { accessFlags := 9, nameIndex := 201, descriptorIndex := 335, attributes := #[] }] 49 4 #[] #[{ accessFlags := 25, nameIndex := 354, descriptorIndex := 339, attributes := #[] }, { accessFlags := 25, nameIndex := 358, descriptorIndex := 339, attributes := #[] }, { accessFlags := 25, nameIndex := 361, descriptorIndex := 339, attributes := #[] }, { accessFlags := 26, nameIndex := 364, descriptorIndex := 339, attributes := #[] }, { accessFlags := 26, nameIndex := 365, descriptorIndex := 339, attributes := #[] }, { accessFlags := 26, nameIndex := 172, descriptorIndex := 173, attributes := #[] }, { accessFlags := 26, nameIndex := 176, descriptorIndex := 173, attributes := #[] }, { accessFlags := 8, nameIndex := 344, descriptorIndex := 339, attributes := #[] }, { accessFlags := 8, nameIndex := 338, descriptorIndex := 339, attributes := #[] }, { accessFlags := 4120, nameIndex := 245, descriptorIndex := 246, attributes := #[] }])
  fields := #[{ name := "E", type := .double, accessFlags := 25, slot := 0, constantValue := 0 }, { name := "PI", type := .double, accessFlags := 25, slot := 1, constantValue := 0 }, { name := "TAU", type := .double, accessFlags := 25, slot := 2, constantValue := 0 }, { name := "DEGREES_TO_RADIANS", type := .double, accessFlags := 26, slot := 3, constantValue := 0 }, { name := "RADIANS_TO_DEGREES", type := .double, accessFlags := 26, slot := 4, constantValue := 0 }, { name := "negativeZeroFloatBits", type := .long, accessFlags := 26, slot := 5, constantValue := 0 }, { name := "negativeZeroDoubleBits", type := .long, accessFlags := 26, slot := 6, constantValue := 0 }, { name := "twoToTheDoubleScaleUp", type := .double, accessFlags := 8, slot := 7, constantValue := 0 }, { name := "twoToTheDoubleScaleDown", type := .double, accessFlags := 8, slot := 8, constantValue := 0 }, { name := "$assertionsDisabled", type := .boolean, accessFlags := 4120, slot := 9, constantValue := 0 }]
  methods := #[k17m0, k17m1, k17m2]
  instanceTypes := #[]
  staticTypes := #[.double, .double, .double, .double, .double, .long, .long, .double, .double, .boolean]
  resolved := Array.replicate 460 none
  statics := none }

def pool18 : Array CpInfo := pool [(2, .class_ 4), (1, u "java/lang/Object"), (0, u "<init>"), (0, u "()V"), (7, .class_ 16), (1, u "java/util/Arrays"), (57, .class_ 76), (1, u "java/util/Arrays$NaturalOrder"), (36, .class_ 115), (1, u "java/util/Arrays$LegacyMergeSort"), (1, u "Z"), (21, u "copyOfRange"), (10, .methodref 151 152), (0, .class_ 153), (0, .nameAndType 154 155), (0, u "java/lang/System"), (0, u "arraycopy"), (0, u "(Ljava/lang/Object;ILjava/lang/Object;II)V"), (146, u "copyOf"), (1, .methodref 305 306), (0, .class_ 307), (0, .nameAndType 308 309), (0, u "java/lang/Math"), (0, u "min"), (0, u "(II)I"), (29, .methodref 14 340), (0, .nameAndType 341 342), (0, u "copyOfRangeByte"), (0, u "([BII)[B"), (0, .methodref 14 344), (0, .nameAndType 345 346), (0, u "checkLength"), (0, u "(II)V"), (28, .class_ 376), (0, u "java/util/Arrays$ArrayList"), (68, u "$assertionsDisabled"), (269, u "MIN_ARRAY_SORT_GRAN"), (0, u "I"), (2, u "INSERTIONSORT_THRESHOLD"), (149, u "([BI)[B"), (105, .class_ 976), (0, u "java/util/Arrays$ArrayItr")] 52

def k18m0 : Method := { name := "<init>", desc := "()V", sig := { parameters := [], returnType := none }, accessFlags := 2, code := none }
def k18c1 : Code := { maxStack := 6, maxLocals := 3, code := jdk_65_method_121_code, exceptionTable := #[], attributes := #[] }
def k18m1 : Method := { name := "copyOf", desc := "([BI)[B", sig := { parameters := [(.array .byte), .int], returnType := some (.array .byte) }, accessFlags := 9, code := some k18c1 }
def k18c2 : Code := { maxStack := 4, maxLocals := 2, code := jdk_65_method_131_code, exceptionTable := #[], attributes := #[] }
def k18m2 : Method := { name := "checkLength", desc := "(II)V", sig := { parameters := [.int, .int], returnType := none }, accessFlags := 10, code := some k18c2 }
def k18c3 : Code := { maxStack := 3, maxLocals := 3, code := jdk_65_method_132_code, exceptionTable := #[], attributes := #[] }
def k18m3 : Method := { name := "copyOfRange", desc := "([BII)[B", sig := { parameters := [(.array .byte), .int, .int], returnType := some (.array .byte) }, accessFlags := 9, code := some k18c3 }
def k18c4 : Code := { maxStack := 6, maxLocals := 5, code := jdk_65_method_133_code, exceptionTable := #[], attributes := #[] }
def k18m4 : Method := { name := "copyOfRangeByte", desc := "([BII)[B", sig := { parameters := [(.array .byte), .int, .int], returnType := some (.array .byte) }, accessFlags := 10, code := some k18c4 }
/-- java/util/Arrays -/
def k18 : Class := { plain "java/util/Arrays" (some 0) with
  accessFlags := 49
  interfaces := #[]
  cf := some (fileOf pool18 14 #[.nestMembers #[975, 375, 113, 74]] #[{ accessFlags := 2, nameIndex := 5, descriptorIndex := 6, attributes := #[] }, { accessFlags := 9, nameIndex := 302, descriptorIndex := 869, attributes := #[] }, { accessFlags := 10, nameIndex := 345, descriptorIndex := 346, attributes := #[] }, { accessFlags := 9, nameIndex := 139, descriptorIndex := 342, attributes := #[] }, { accessFlags := 10, nameIndex := 341, descriptorIndex := 342, attributes := #[] }] 49 2 #[] #[{ accessFlags := 26, nameIndex := 715, descriptorIndex := 716, attributes := #[] }, { accessFlags := 26, nameIndex := 719, descriptorIndex := 716, attributes := #[] }, { accessFlags := 4120, nameIndex := 445, descriptorIndex := 117, attributes := #[] }])
  fields := #[{ name := "MIN_ARRAY_SORT_GRAN", type := .int, accessFlags := 26, slot := 0, constantValue := 0 }, { name := "INSERTIONSORT_THRESHOLD", type := .int, accessFlags := 26, slot := 1, constantValue := 0 }, { name := "$assertionsDisabled", type := .boolean, accessFlags := 4120, slot := 2, constantValue := 0 }]
  methods := #[k18m0, k18m1, k18m2, k18m3, k18m4]
  instanceTypes := #[]
  staticTypes := #[.int, .int, .boolean]
  resolved := Array.replicate 1029 none
  statics := none }

def pool19 : Array CpInfo := pool [(1, .class_ 2), (0, u "java/lang/String"), (1, .class_ 6), (1, u "java/lang/Object"), (0, u "<init>"), (0, u "()V"), (0, .methodref 1 10), (0, .nameAndType 11 12), (0, u "checkIndex"), (0, u "(II)V"), (1, .class_ 16), (1, u "java/lang/StringLatin1"), (36, u "([BI)C"), (67, u "$assertionsDisabled"), (0, u "Z"), (98, .class_ 223), (1, u "java/lang/StringLatin1$LinesSpliterator"), (28, u "charAt"), (137, .class_ 391), (0, u "java/lang/StringLatin1$CharsSpliterator")] 3

def k19m0 : Method := { name := "<init>", desc := "()V", sig := { parameters := [], returnType := none }, accessFlags := 0, code := none }
def k19c1 : Code := { maxStack := 2, maxLocals := 2, code := jdk_43_method_2_code, exceptionTable := #[], attributes := #[] }
def k19m1 : Method := { name := "charAt", desc := "([BI)C", sig := { parameters := [(.array .byte), .int], returnType := some .char }, accessFlags := 9, code := some k19c1 }
/-- java/lang/StringLatin1 -/
def k19 : Class := { plain "java/lang/StringLatin1" (some 0) with
  accessFlags := 48
  interfaces := #[]
  cf := some (fileOf pool19 14 #[.nestMembers #[390, 221]] #[{ accessFlags := 0, nameIndex := 7, descriptorIndex := 8, attributes := #[] }, { accessFlags := 9, nameIndex := 252, descriptorIndex := 53, attributes := #[] }] 48 4 #[] #[{ accessFlags := 4120, nameIndex := 121, descriptorIndex := 122, attributes := #[] }])
  fields := #[{ name := "$assertionsDisabled", type := .boolean, accessFlags := 4120, slot := 0, constantValue := 0 }]
  methods := #[k19m0, k19m1]
  instanceTypes := #[]
  staticTypes := #[.boolean]
  resolved := Array.replicate 395 none
  statics := none }

def pool20 : Array CpInfo := pool [(2, .class_ 4), (1, u "java/lang/Object"), (0, u "<init>"), (0, u "()V"), (17, .class_ 26), (1, u "jdk/internal/util/Preconditions"), (6, u "checkIndex"), (21, .class_ 56), (0, u "jdk/internal/util/Preconditions$4"), (57, .class_ 115), (0, u "jdk/internal/util/Preconditions$1"), (7, u "SIOOBE_FORMATTER"), (0, u "Ljava/util/function/BiFunction;"), (0, .class_ 126), (0, u "jdk/internal/util/Preconditions$2"), (3, u "AIOOBE_FORMATTER"), (0, .class_ 132), (0, u "jdk/internal/util/Preconditions$3"), (3, u "IOOBE_FORMATTER"), (41, u "(IILjava/util/function/BiFunction;)I")] 15

def k20m0 : Method := { name := "<init>", desc := "()V", sig := { parameters := [], returnType := none }, accessFlags := 1, code := none }
def k20c1 : Code := { maxStack := 3, maxLocals := 3, code := jdk_41_method_11_code, exceptionTable := #[], attributes := #[] }
def k20m1 : Method := { name := "checkIndex", desc := "(IILjava/util/function/BiFunction;)I", sig := { parameters := [.int, .int, (.object "java/util/function/BiFunction")], returnType := some .int }, accessFlags := 9, code := some k20c1 }
/-- jdk/internal/util/Preconditions -/
def k20 : Class := { plain "jdk/internal/util/Preconditions" (some 0) with
  accessFlags := 33
  interfaces := #[]
  cf := some (fileOf pool20 24 #[.nestMembers #[55, 131, 125, 114]] #[{ accessFlags := 1, nameIndex := 5, descriptorIndex := 6, attributes := #[] }, { accessFlags := 9, nameIndex := 33, descriptorIndex := 178, attributes := #[] }] 33 2 #[] #[{ accessFlags := 25, nameIndex := 123, descriptorIndex := 124, attributes := #[] }, { accessFlags := 25, nameIndex := 130, descriptorIndex := 124, attributes := #[] }, { accessFlags := 25, nameIndex := 136, descriptorIndex := 124, attributes := #[] }])
  fields := #[{ name := "SIOOBE_FORMATTER", type := (.object "java/util/function/BiFunction"), accessFlags := 25, slot := 0, constantValue := 0 }, { name := "AIOOBE_FORMATTER", type := (.object "java/util/function/BiFunction"), accessFlags := 25, slot := 1, constantValue := 0 }, { name := "IOOBE_FORMATTER", type := (.object "java/util/function/BiFunction"), accessFlags := 25, slot := 2, constantValue := 0 }]
  methods := #[k20m0, k20m1]
  instanceTypes := #[]
  staticTypes := #[(.object "java/util/function/BiFunction"), (.object "java/util/function/BiFunction"), (.object "java/util/function/BiFunction")]
  resolved := Array.replicate 194 none
  statics := some 1 }

def pool21 : Array CpInfo := pool [(1, u "java/lang/Cloneable"), (0, .class_ 1), (0, u "java/lang/Object"), (0, .class_ 3)] 3

/-- java/lang/Cloneable -/
def k21 : Class := { plain "java/lang/Cloneable" (some 0) with
  accessFlags := 1537
  interfaces := #[]
  cf := some (fileOf pool21 2 #[] #[] 1537 4 #[] #[])
  fields := #[]
  methods := #[]
  instanceTypes := #[]
  staticTypes := #[]
  resolved := Array.replicate 8 none
  statics := none }

/-- the primitive byte -/
def k22 : Class := { plain "byte" none with kind := .primitive 'B', accessFlags := 0x411 }
/-- [B -/
def k23 : Class := { plain "[B" (some 0) with kind := .array 22 .byte, interfaces := #[21, 2], accessFlags := 1041 }

/-- the primitive char -/
def k24 : Class := { plain "char" none with kind := .primitive 'C', accessFlags := 0x411 }
/-- [C -/
def k25 : Class := { plain "[C" (some 0) with kind := .array 24 .char, interfaces := #[21, 2], accessFlags := 1041 }

/-- the primitive int -/
def k26 : Class := { plain "int" none with kind := .primitive 'I', accessFlags := 0x411 }
/-- [I -/
def k27 : Class := { plain "[I" (some 0) with kind := .array 26 .int, interfaces := #[21, 2], accessFlags := 1041 }

def heap : Heap := #[{ cls := 7, slots := #[.long 0, .int 1, .null, .int 0, .null, .int 0, .int 0], vm := .statics 7 },
  { cls := 20, slots := #[.null, .null, .null], vm := .statics 20 }]
def classes : Array Class := #[k0, k1, k2, k3, k4, k5, k6, k7, k8, k9, k10, k11, k12, k13, k14, k15, k16, k17, k18, k19, k20, k21, k22, k23, k24, k25, k26, k27]
def interned : List (Array UInt16 × Addr) := []
def slotsUsed : Nat := 10
def theMethod : MethodId := ⟨1, 1⟩
def args0 : Array Value := #[.int 66051, .int 1181443, .int 131587, .int 27]
def aboutOver (below : List Frame) : State where
  vm := { classes := classes, interned := interned.toArray }
  heap := heap
  slotsUsed := slotsUsed
  threads := #[{ frames := .invoking theMethod args0 :: below }]
def below0 : List Frame := [.native { method := ⟨0, 0⟩, args := #[] }]
def about1 : State := aboutOver below0
def p0 : Program := .bare "" "" ""
def e0 : Env := launch0.env 0 0 0
theorem w_frames : about1.frames = Frame.invoking theMethod args0 :: below0 := rfl
set_option maxRecDepth 65536 in
theorem w_args : argsFit about1.vm theMethod args0 = true := by decide +kernel
set_option maxRecDepth 65536 in
theorem w_heap : heapFits about1 = true := by decide +kernel
set_option maxRecDepth 65536 in
theorem w_runnable : about1.curStatus? = some .runnable := by decide +kernel
set_option maxRecDepth 65536 in
theorem w_alone : about1.alone = true := by decide +kernel
set_option maxRecDepth 65536 in
theorem w_named : about1.methodNamed? x = some theMethod := by decide +kernel
set_option maxRecDepth 65536 in
theorem w_hears : about1.hears theMethod below0 = true := by decide +kernel
set_option maxRecDepth 65536 in
theorem w_ripe : about1.ripe theMethod args0 below0 = true := by decide +kernel
theorem w_running : about1.status = .running := rfl
set_option maxRecDepth 65536 in
theorem w_room : about1.hasRoom e0.platform room_1 = true :=
  launch0.hasRoom_least _ room_1 (by decide +kernel) (by decide +kernel) (by decide +kernel) (by decide +kernel) (by decide +kernel) (by decide +kernel)
theorem allAtoms_all (ts : List Jvm.Cond) (a : Array Jvm.Value) (st : Jvm.State) : (allAtoms ts).before a st = ts.all (fun c => c.before a st) := by
  induction ts with
  | nil => rfl
  | cons c t ih =>
    show (Jvm.Cond.and c (allAtoms t)).before a st = _
    rw [Jvm.Cond.before_and, ih, List.all_cons]
def words1 : List Jvm.Cond := Jvm.Cond.code x code maxLocals ret :: tables_1
/-- a 'code' word, met by the world's own term for the bytes: nothing is compared byte by byte -/
theorem code_word {y : MethodName} {bytes : ByteArray} {mx : Nat} {rt : Option FieldType} {a : Array Value} {s : State} {m : MethodId} {meth : Method} {c : Code} (h1 : s.methodNamed? y = some m) (h2 : s.vm.method? m = some meth) (h3 : meth.code = some c) (h4 : c.code = bytes)
    (h5 : (c.maxLocals == mx && c.exceptionTable.isEmpty && decide (c.maxStack ≤ mostOperands) && decide (meth.sig.returnType = rt) && !meth.locks && decide (parseMethodDescriptor y.desc = some meth.sig)) = true) : (Jvm.Cond.code y bytes mx rt).before a s = true := by
  simp only [Bool.and_eq_true, beq_iff_eq, Bool.not_eq_true', decide_eq_true_eq] at h5
  obtain ⟨⟨⟨⟨⟨g1, g2⟩, g3⟩, g4⟩, g5⟩, g6⟩ := h5
  simp [Cond.before, Cond.holds, Cond.value, h1, h2, h3, h4, g1, g2, g3, g4, g5, g6]
def isCode : Jvm.Cond → Bool
  | .code _ _ _ _ => true
  | _ => false
theorem all_split {L : List Jvm.Cond} {P : Jvm.Cond → Bool} (h1 : L.all (fun c => isCode c || P c) = true) (h2 : ∀ c ∈ L.filter isCode, P c = true) : L.all P = true := by
  refine List.all_eq_true.mpr fun c hc => ?_
  have h := List.all_eq_true.mp h1 c hc
  rcases Bool.eq_false_or_eq_true (isCode c) with hi | hi
  · exact h2 c (List.mem_filter.mpr ⟨hc, hi⟩)
  · simpa [hi] using h
set_option maxRecDepth 65536 in
theorem w_c0 : (Jvm.Cond.code x code maxLocals ret).before args0 about1 = true := code_word (m := ⟨1, 1⟩) (meth := k1m1) (c := k1c1) (by decide +kernel) rfl rfl rfl (by decide +kernel)
set_option maxRecDepth 65536 in
theorem w_c1 : (Jvm.Cond.code ({ cls := "com/example/cadi/cadi/AliasToStringPinLaw", name := "draw", desc := "(II)Ljava/lang/String;" } : Jvm.MethodName) method_3_code (5 : Nat) (Option.some (Jvm.ClassFile.FieldType.object "java/lang/String"))).before args0 about1 = true := code_word (m := ⟨1, 2⟩) (meth := k1m2) (c := k1c2) (by decide +kernel) rfl rfl rfl (by decide +kernel)
set_option maxRecDepth 65536 in
theorem w_c2 : (Jvm.Cond.code ({ cls := "java/lang/String", name := "<init>", desc := "([C)V" } : Jvm.MethodName) jdk_42_method_3_code (2 : Nat) (Option.none : Option Jvm.ClassFile.FieldType)).before args0 about1 = true := code_word (m := ⟨7, 1⟩) (meth := k7m1) (c := k7c1) (by decide +kernel) rfl rfl rfl (by decide +kernel)
set_option maxRecDepth 65536 in
theorem w_c3 : (Jvm.Cond.code ({ cls := "java/lang/String", name := "<init>", desc := "([CIILjava/lang/Void;)V" } : Jvm.MethodName) jdk_42_method_149_code (6 : Nat) (Option.none : Option Jvm.ClassFile.FieldType)).before args0 about1 = true := code_word (m := ⟨7, 6⟩) (meth := k7m6) (c := k7c6) (by decide +kernel) rfl rfl rfl (by decide +kernel)
set_option maxRecDepth 65536 in
theorem w_c4 : (Jvm.Cond.code ({ cls := "java/lang/Object", name := "<init>", desc := "()V" } : Jvm.MethodName) object_method_1_code (1 : Nat) (Option.none : Option Jvm.ClassFile.FieldType)).before args0 about1 = true := code_word (m := ⟨0, 0⟩) (meth := k0m0) (c := k0c0) (by decide +kernel) rfl rfl rfl (by decide +kernel)
set_option maxRecDepth 65536 in
theorem w_c5 : (Jvm.Cond.code ({ cls := "java/lang/StringUTF16", name := "compress", desc := "([CII)[B" } : Jvm.MethodName) jdk_52_method_16_code (6 : Nat) (Option.some (Jvm.ClassFile.FieldType.array Jvm.ClassFile.FieldType.byte))).before args0 about1 = true := code_word (m := ⟨8, 2⟩) (meth := k8m2) (c := k8c2) (by decide +kernel) rfl rfl rfl (by decide +kernel)
set_option maxRecDepth 65536 in
theorem w_c6 : (Jvm.Cond.code ({ cls := "java/lang/StringUTF16", name := "compress", desc := "([CI[BII)I" } : Jvm.MethodName) jdk_52_method_21_code (7 : Nat) (Option.some Jvm.ClassFile.FieldType.int)).before args0 about1 = true := code_word (m := ⟨8, 3⟩) (meth := k8m3) (c := k8c3) (by decide +kernel) rfl rfl rfl (by decide +kernel)
set_option maxRecDepth 65536 in
theorem w_c7 : (Jvm.Cond.code ({ cls := "java/lang/StringUTF16", name := "coderFromArrayLen", desc := "([BI)B" } : Jvm.MethodName) jdk_52_method_15_code (2 : Nat) (Option.some Jvm.ClassFile.FieldType.byte)).before args0 about1 = true := code_word (m := ⟨8, 1⟩) (meth := k8m1) (c := k8c1) (by decide +kernel) rfl rfl rfl (by decide +kernel)
set_option maxRecDepth 65536 in
theorem w_c8 : (Jvm.Cond.code ({ cls := "com/example/cadi/cadi/Origin", name := "<init>", desc := "(Ljava/lang/String;)V" } : Jvm.MethodName) prog_35_method_1_code (2 : Nat) (Option.none : Option Jvm.ClassFile.FieldType)).before args0 about1 = true := code_word (m := ⟨11, 0⟩) (meth := k11m0) (c := k11c0) (by decide +kernel) rfl rfl rfl (by decide +kernel)
set_option maxRecDepth 65536 in
theorem w_c9 : (Jvm.Cond.code ({ cls := "java/lang/Record", name := "<init>", desc := "()V" } : Jvm.MethodName) jdk_30_method_1_code (1 : Nat) (Option.none : Option Jvm.ClassFile.FieldType)).before args0 about1 = true := code_word (m := ⟨9, 0⟩) (meth := k9m0) (c := k9c0) (by decide +kernel) rfl rfl rfl (by decide +kernel)
set_option maxRecDepth 65536 in
theorem w_c10 : (Jvm.Cond.code ({ cls := "com/example/cadi/cadi/Alias", name := "<init>", desc := "(Ljava/lang/String;Ljava/lang/String;Lcom/example/cadi/cadi/Origin;)V" } : Jvm.MethodName) prog_1_method_1_code (4 : Nat) (Option.none : Option Jvm.ClassFile.FieldType)).before args0 about1 = true := code_word (m := ⟨10, 0⟩) (meth := k10m0) (c := k10c0) (by decide +kernel) rfl rfl rfl (by decide +kernel)
set_option maxRecDepth 65536 in
theorem w_c11 : (Jvm.Cond.code ({ cls := "com/example/cadi/cadi/Alias", name := "toString", desc := "()Ljava/lang/String;" } : Jvm.MethodName) prog_1_method_3_code (1 : Nat) (Option.some (Jvm.ClassFile.FieldType.object "java/lang/String"))).before args0 about1 = true := code_word (m := ⟨10, 1⟩) (meth := k10m1) (c := k10c1) (by decide +kernel) rfl rfl rfl (by decide +kernel)
set_option maxRecDepth 65536 in
theorem w_c12 : (Jvm.Cond.code ({ cls := "java/lang/StringBuilder", name := "<init>", desc := "()V" } : Jvm.MethodName) jdk_67_method_1_code (1 : Nat) (Option.none : Option Jvm.ClassFile.FieldType)).before args0 about1 = true := code_word (m := ⟨14, 0⟩) (meth := k14m0) (c := k14c0) (by decide +kernel) rfl rfl rfl (by decide +kernel)
set_option maxRecDepth 65536 in
theorem w_c13 : (Jvm.Cond.code ({ cls := "java/lang/AbstractStringBuilder", name := "<init>", desc := "(I)V" } : Jvm.MethodName) jdk_68_method_2_code (2 : Nat) (Option.none : Option Jvm.ClassFile.FieldType)).before args0 about1 = true := code_word (m := ⟨13, 1⟩) (meth := k13m1) (c := k13c1) (by decide +kernel) rfl rfl rfl (by decide +kernel)
set_option maxRecDepth 65536 in
theorem w_c14 : (Jvm.Cond.code ({ cls := "java/lang/StringBuilder", name := "append", desc := "(Ljava/lang/String;)Ljava/lang/StringBuilder;" } : Jvm.MethodName) jdk_67_method_7_code (2 : Nat) (Option.some (Jvm.ClassFile.FieldType.object "java/lang/StringBuilder"))).before args0 about1 = true := code_word (m := ⟨14, 1⟩) (meth := k14m1) (c := k14c1) (by decide +kernel) rfl rfl rfl (by decide +kernel)
set_option maxRecDepth 65536 in
theorem w_c15 : (Jvm.Cond.code ({ cls := "java/lang/AbstractStringBuilder", name := "append", desc := "(Ljava/lang/String;)Ljava/lang/AbstractStringBuilder;" } : Jvm.MethodName) jdk_68_method_22_code (3 : Nat) (Option.some (Jvm.ClassFile.FieldType.object "java/lang/AbstractStringBuilder"))).before args0 about1 = true := code_word (m := ⟨13, 5⟩) (meth := k13m5) (c := k13c5) (by decide +kernel) rfl rfl rfl (by decide +kernel)
set_option maxRecDepth 65536 in
theorem w_c16 : (Jvm.Cond.code ({ cls := "java/lang/String", name := "length", desc := "()I" } : Jvm.MethodName) jdk_42_method_54_code (1 : Nat) (Option.some Jvm.ClassFile.FieldType.int)).before args0 about1 = true := code_word (m := ⟨7, 3⟩) (meth := k7m3) (c := k7c3) (by decide +kernel) rfl rfl rfl (by decide +kernel)
set_option maxRecDepth 65536 in
theorem w_c17 : (Jvm.Cond.code ({ cls := "java/lang/String", name := "coder", desc := "()B" } : Jvm.MethodName) jdk_42_method_152_code (1 : Nat) (Option.some Jvm.ClassFile.FieldType.byte)).before args0 about1 = true := code_word (m := ⟨7, 8⟩) (meth := k7m8) (c := k7c8) (by decide +kernel) rfl rfl rfl (by decide +kernel)
set_option maxRecDepth 65536 in
theorem w_c18 : (Jvm.Cond.code ({ cls := "java/lang/AbstractStringBuilder", name := "ensureCapacityInternal", desc := "(I)V" } : Jvm.MethodName) jdk_68_method_9_code (3 : Nat) (Option.none : Option Jvm.ClassFile.FieldType)).before args0 about1 = true := code_word (m := ⟨13, 3⟩) (meth := k13m3) (c := k13c3) (by decide +kernel) rfl rfl rfl (by decide +kernel)
set_option maxRecDepth 65536 in
theorem w_c19 : (Jvm.Cond.code ({ cls := "java/lang/AbstractStringBuilder", name := "putStringAt", desc := "(ILjava/lang/String;)V" } : Jvm.MethodName) jdk_68_method_73_code (3 : Nat) (Option.none : Option Jvm.ClassFile.FieldType)).before args0 about1 = true := code_word (m := ⟨13, 9⟩) (meth := k13m9) (c := k13c9) (by decide +kernel) rfl rfl rfl (by decide +kernel)
set_option maxRecDepth 65536 in
theorem w_c20 : (Jvm.Cond.code ({ cls := "java/lang/AbstractStringBuilder", name := "inflateIfNeededFor", desc := "(Ljava/lang/String;)V" } : Jvm.MethodName) jdk_68_method_71_code (2 : Nat) (Option.none : Option Jvm.ClassFile.FieldType)).before args0 about1 = true := code_word (m := ⟨13, 8⟩) (meth := k13m8) (c := k13c8) (by decide +kernel) rfl rfl rfl (by decide +kernel)
set_option maxRecDepth 65536 in
theorem w_c21 : (Jvm.Cond.code ({ cls := "java/lang/String", name := "getBytes", desc := "([BIB)V" } : Jvm.MethodName) jdk_42_method_147_code (4 : Nat) (Option.none : Option Jvm.ClassFile.FieldType)).before args0 about1 = true := code_word (m := ⟨7, 5⟩) (meth := k7m5) (c := k7c5) (by decide +kernel) rfl rfl rfl (by decide +kernel)
set_option maxRecDepth 65536 in
theorem w_c22 : (Jvm.Cond.code ({ cls := "java/lang/AbstractStringBuilder", name := "newCapacity", desc := "(I)I" } : Jvm.MethodName) jdk_68_method_10_code (6 : Nat) (Option.some Jvm.ClassFile.FieldType.int)).before args0 about1 = true := code_word (m := ⟨13, 4⟩) (meth := k13m4) (c := k13c4) (by decide +kernel) rfl rfl rfl (by decide +kernel)
set_option maxRecDepth 65536 in
theorem w_c23 : (Jvm.Cond.code ({ cls := "jdk/internal/util/ArraysSupport", name := "newLength", desc := "(III)I" } : Jvm.MethodName) jdk_48_method_27_code (4 : Nat) (Option.some Jvm.ClassFile.FieldType.int)).before args0 about1 = true := code_word (m := ⟨16, 1⟩) (meth := k16m1) (c := k16c1) (by decide +kernel) rfl rfl rfl (by decide +kernel)
set_option maxRecDepth 65536 in
theorem w_c24 : (Jvm.Cond.code ({ cls := "java/lang/Math", name := "max", desc := "(II)I" } : Jvm.MethodName) jdk_29_method_65_code (2 : Nat) (Option.some Jvm.ClassFile.FieldType.int)).before args0 about1 = true := code_word (m := ⟨17, 1⟩) (meth := k17m1) (c := k17c1) (by decide +kernel) rfl rfl rfl (by decide +kernel)
set_option maxRecDepth 65536 in
theorem w_c25 : (Jvm.Cond.code ({ cls := "java/util/Arrays", name := "copyOf", desc := "([BI)[B" } : Jvm.MethodName) jdk_65_method_121_code (3 : Nat) (Option.some (Jvm.ClassFile.FieldType.array Jvm.ClassFile.FieldType.byte))).before args0 about1 = true := code_word (m := ⟨18, 1⟩) (meth := k18m1) (c := k18c1) (by decide +kernel) rfl rfl rfl (by decide +kernel)
set_option maxRecDepth 65536 in
theorem w_c26 : (Jvm.Cond.code ({ cls := "java/lang/Math", name := "min", desc := "(II)I" } : Jvm.MethodName) jdk_29_method_69_code (2 : Nat) (Option.some Jvm.ClassFile.FieldType.int)).before args0 about1 = true := code_word (m := ⟨17, 2⟩) (meth := k17m2) (c := k17c2) (by decide +kernel) rfl rfl rfl (by decide +kernel)
set_option maxRecDepth 65536 in
theorem w_c27 : (Jvm.Cond.code ({ cls := "java/lang/StringBuilder", name := "toString", desc := "()Ljava/lang/String;" } : Jvm.MethodName) jdk_67_method_42_code (1 : Nat) (Option.some (Jvm.ClassFile.FieldType.object "java/lang/String"))).before args0 about1 = true := code_word (m := ⟨14, 2⟩) (meth := k14m2) (c := k14c2) (by decide +kernel) rfl rfl rfl (by decide +kernel)
set_option maxRecDepth 65536 in
theorem w_c28 : (Jvm.Cond.code ({ cls := "java/lang/String", name := "<init>", desc := "(Ljava/lang/StringBuilder;)V" } : Jvm.MethodName) jdk_42_method_53_code (2 : Nat) (Option.none : Option Jvm.ClassFile.FieldType)).before args0 about1 = true := code_word (m := ⟨7, 2⟩) (meth := k7m2) (c := k7c2) (by decide +kernel) rfl rfl rfl (by decide +kernel)
set_option maxRecDepth 65536 in
theorem w_c29 : (Jvm.Cond.code ({ cls := "java/lang/String", name := "<init>", desc := "(Ljava/lang/AbstractStringBuilder;Ljava/lang/Void;)V" } : Jvm.MethodName) jdk_42_method_150_code (5 : Nat) (Option.none : Option Jvm.ClassFile.FieldType)).before args0 about1 = true := code_word (m := ⟨7, 7⟩) (meth := k7m7) (c := k7c7) (by decide +kernel) rfl rfl rfl (by decide +kernel)
set_option maxRecDepth 65536 in
theorem w_c30 : (Jvm.Cond.code ({ cls := "java/lang/AbstractStringBuilder", name := "getValue", desc := "()[B" } : Jvm.MethodName) jdk_68_method_64_code (1 : Nat) (Option.some (Jvm.ClassFile.FieldType.array Jvm.ClassFile.FieldType.byte))).before args0 about1 = true := code_word (m := ⟨13, 6⟩) (meth := k13m6) (c := k13c6) (by decide +kernel) rfl rfl rfl (by decide +kernel)
set_option maxRecDepth 65536 in
theorem w_c31 : (Jvm.Cond.code ({ cls := "java/lang/StringBuilder", name := "length", desc := "()I" } : Jvm.MethodName) jdk_67_method_93_code (1 : Nat) (Option.some Jvm.ClassFile.FieldType.int)).before args0 about1 = true := code_word (m := ⟨14, 3⟩) (meth := k14m3) (c := k14c3) (by decide +kernel) rfl rfl rfl (by decide +kernel)
set_option maxRecDepth 65536 in
theorem w_c32 : (Jvm.Cond.code ({ cls := "java/lang/AbstractStringBuilder", name := "length", desc := "()I" } : Jvm.MethodName) jdk_68_method_6_code (1 : Nat) (Option.some Jvm.ClassFile.FieldType.int)).before args0 about1 = true := code_word (m := ⟨13, 2⟩) (meth := k13m2) (c := k13c2) (by decide +kernel) rfl rfl rfl (by decide +kernel)
set_option maxRecDepth 65536 in
theorem w_c33 : (Jvm.Cond.code ({ cls := "java/lang/AbstractStringBuilder", name := "isLatin1", desc := "()Z" } : Jvm.MethodName) jdk_68_method_68_code (1 : Nat) (Option.some Jvm.ClassFile.FieldType.boolean)).before args0 about1 = true := code_word (m := ⟨13, 7⟩) (meth := k13m7) (c := k13c7) (by decide +kernel) rfl rfl rfl (by decide +kernel)
set_option maxRecDepth 65536 in
theorem w_c34 : (Jvm.Cond.code ({ cls := "java/util/Arrays", name := "copyOfRange", desc := "([BII)[B" } : Jvm.MethodName) jdk_65_method_132_code (3 : Nat) (Option.some (Jvm.ClassFile.FieldType.array Jvm.ClassFile.FieldType.byte))).before args0 about1 = true := code_word (m := ⟨18, 3⟩) (meth := k18m3) (c := k18c3) (by decide +kernel) rfl rfl rfl (by decide +kernel)
set_option maxRecDepth 65536 in
theorem w_c35 : (Jvm.Cond.code ({ cls := "java/util/Arrays", name := "copyOfRangeByte", desc := "([BII)[B" } : Jvm.MethodName) jdk_65_method_133_code (5 : Nat) (Option.some (Jvm.ClassFile.FieldType.array Jvm.ClassFile.FieldType.byte))).before args0 about1 = true := code_word (m := ⟨18, 4⟩) (meth := k18m4) (c := k18c4) (by decide +kernel) rfl rfl rfl (by decide +kernel)
set_option maxRecDepth 65536 in
theorem w_c36 : (Jvm.Cond.code ({ cls := "java/util/Arrays", name := "checkLength", desc := "(II)V" } : Jvm.MethodName) jdk_65_method_131_code (2 : Nat) (Option.none : Option Jvm.ClassFile.FieldType)).before args0 about1 = true := code_word (m := ⟨18, 2⟩) (meth := k18m2) (c := k18c2) (by decide +kernel) rfl rfl rfl (by decide +kernel)
set_option maxRecDepth 65536 in
theorem w_c37 : (Jvm.Cond.code ({ cls := "com/example/cadi/cadi/AliasToStringPinLaw", name := "lit", desc := "(Ljava/lang/String;ILjava/lang/String;)Z" } : Jvm.MethodName) method_4_code (3 : Nat) (Option.some Jvm.ClassFile.FieldType.boolean)).before args0 about1 = true := code_word (m := ⟨1, 3⟩) (meth := k1m3) (c := k1c3) (by decide +kernel) rfl rfl rfl (by decide +kernel)
set_option maxRecDepth 65536 in
theorem w_c38 : (Jvm.Cond.code ({ cls := "com/example/cadi/cadi/AliasToStringPinLaw", name := "at", desc := "(Ljava/lang/String;ILjava/lang/String;I)Z" } : Jvm.MethodName) method_5_code (4 : Nat) (Option.some Jvm.ClassFile.FieldType.boolean)).before args0 about1 = true := code_word (m := ⟨1, 4⟩) (meth := k1m4) (c := k1c4) (by decide +kernel) rfl rfl rfl (by decide +kernel)
set_option maxRecDepth 65536 in
theorem w_c39 : (Jvm.Cond.code ({ cls := "java/lang/String", name := "charAt", desc := "(I)C" } : Jvm.MethodName) jdk_42_method_56_code (2 : Nat) (Option.some Jvm.ClassFile.FieldType.char)).before args0 about1 = true := code_word (m := ⟨7, 4⟩) (meth := k7m4) (c := k7c4) (by decide +kernel) rfl rfl rfl (by decide +kernel)
set_option maxRecDepth 65536 in
theorem w_c40 : (Jvm.Cond.code ({ cls := "java/lang/String", name := "isLatin1", desc := "()Z" } : Jvm.MethodName) jdk_42_method_154_code (1 : Nat) (Option.some Jvm.ClassFile.FieldType.boolean)).before args0 about1 = true := code_word (m := ⟨7, 9⟩) (meth := k7m9) (c := k7c9) (by decide +kernel) rfl rfl rfl (by decide +kernel)
set_option maxRecDepth 65536 in
theorem w_c41 : (Jvm.Cond.code ({ cls := "java/lang/StringLatin1", name := "charAt", desc := "([BI)C" } : Jvm.MethodName) jdk_43_method_2_code (2 : Nat) (Option.some Jvm.ClassFile.FieldType.char)).before args0 about1 = true := code_word (m := ⟨19, 1⟩) (meth := k19m1) (c := k19c1) (by decide +kernel) rfl rfl rfl (by decide +kernel)
set_option maxRecDepth 65536 in
theorem w_c42 : (Jvm.Cond.code ({ cls := "java/lang/String", name := "checkIndex", desc := "(II)V" } : Jvm.MethodName) jdk_42_method_155_code (2 : Nat) (Option.none : Option Jvm.ClassFile.FieldType)).before args0 about1 = true := code_word (m := ⟨7, 10⟩) (meth := k7m10) (c := k7c10) (by decide +kernel) rfl rfl rfl (by decide +kernel)
set_option maxRecDepth 65536 in
theorem w_c43 : (Jvm.Cond.code ({ cls := "jdk/internal/util/Preconditions", name := "checkIndex", desc := "(IILjava/util/function/BiFunction;)I" } : Jvm.MethodName) jdk_41_method_11_code (3 : Nat) (Option.some Jvm.ClassFile.FieldType.int)).before args0 about1 = true := code_word (m := ⟨20, 1⟩) (meth := k20m1) (c := k20c1) (by decide +kernel) rfl rfl rfl (by decide +kernel)
def codes1 : List Jvm.Cond := [Jvm.Cond.code x code maxLocals ret, Jvm.Cond.code ({ cls := "com/example/cadi/cadi/AliasToStringPinLaw", name := "draw", desc := "(II)Ljava/lang/String;" } : Jvm.MethodName) method_3_code (5 : Nat) (Option.some (Jvm.ClassFile.FieldType.object "java/lang/String")), Jvm.Cond.code ({ cls := "java/lang/String", name := "<init>", desc := "([C)V" } : Jvm.MethodName) jdk_42_method_3_code (2 : Nat) (Option.none : Option Jvm.ClassFile.FieldType), Jvm.Cond.code ({ cls := "java/lang/String", name := "<init>", desc := "([CIILjava/lang/Void;)V" } : Jvm.MethodName) jdk_42_method_149_code (6 : Nat) (Option.none : Option Jvm.ClassFile.FieldType), Jvm.Cond.code ({ cls := "java/lang/Object", name := "<init>", desc := "()V" } : Jvm.MethodName) object_method_1_code (1 : Nat) (Option.none : Option Jvm.ClassFile.FieldType), Jvm.Cond.code ({ cls := "java/lang/StringUTF16", name := "compress", desc := "([CII)[B" } : Jvm.MethodName) jdk_52_method_16_code (6 : Nat) (Option.some (Jvm.ClassFile.FieldType.array Jvm.ClassFile.FieldType.byte)), Jvm.Cond.code ({ cls := "java/lang/StringUTF16", name := "compress", desc := "([CI[BII)I" } : Jvm.MethodName) jdk_52_method_21_code (7 : Nat) (Option.some Jvm.ClassFile.FieldType.int), Jvm.Cond.code ({ cls := "java/lang/StringUTF16", name := "coderFromArrayLen", desc := "([BI)B" } : Jvm.MethodName) jdk_52_method_15_code (2 : Nat) (Option.some Jvm.ClassFile.FieldType.byte), Jvm.Cond.code ({ cls := "com/example/cadi/cadi/Origin", name := "<init>", desc := "(Ljava/lang/String;)V" } : Jvm.MethodName) prog_35_method_1_code (2 : Nat) (Option.none : Option Jvm.ClassFile.FieldType), Jvm.Cond.code ({ cls := "java/lang/Record", name := "<init>", desc := "()V" } : Jvm.MethodName) jdk_30_method_1_code (1 : Nat) (Option.none : Option Jvm.ClassFile.FieldType), Jvm.Cond.code ({ cls := "com/example/cadi/cadi/Alias", name := "<init>", desc := "(Ljava/lang/String;Ljava/lang/String;Lcom/example/cadi/cadi/Origin;)V" } : Jvm.MethodName) prog_1_method_1_code (4 : Nat) (Option.none : Option Jvm.ClassFile.FieldType), Jvm.Cond.code ({ cls := "com/example/cadi/cadi/Alias", name := "toString", desc := "()Ljava/lang/String;" } : Jvm.MethodName) prog_1_method_3_code (1 : Nat) (Option.some (Jvm.ClassFile.FieldType.object "java/lang/String")), Jvm.Cond.code ({ cls := "java/lang/StringBuilder", name := "<init>", desc := "()V" } : Jvm.MethodName) jdk_67_method_1_code (1 : Nat) (Option.none : Option Jvm.ClassFile.FieldType), Jvm.Cond.code ({ cls := "java/lang/AbstractStringBuilder", name := "<init>", desc := "(I)V" } : Jvm.MethodName) jdk_68_method_2_code (2 : Nat) (Option.none : Option Jvm.ClassFile.FieldType), Jvm.Cond.code ({ cls := "java/lang/StringBuilder", name := "append", desc := "(Ljava/lang/String;)Ljava/lang/StringBuilder;" } : Jvm.MethodName) jdk_67_method_7_code (2 : Nat) (Option.some (Jvm.ClassFile.FieldType.object "java/lang/StringBuilder")), Jvm.Cond.code ({ cls := "java/lang/AbstractStringBuilder", name := "append", desc := "(Ljava/lang/String;)Ljava/lang/AbstractStringBuilder;" } : Jvm.MethodName) jdk_68_method_22_code (3 : Nat) (Option.some (Jvm.ClassFile.FieldType.object "java/lang/AbstractStringBuilder")), Jvm.Cond.code ({ cls := "java/lang/String", name := "length", desc := "()I" } : Jvm.MethodName) jdk_42_method_54_code (1 : Nat) (Option.some Jvm.ClassFile.FieldType.int), Jvm.Cond.code ({ cls := "java/lang/String", name := "coder", desc := "()B" } : Jvm.MethodName) jdk_42_method_152_code (1 : Nat) (Option.some Jvm.ClassFile.FieldType.byte), Jvm.Cond.code ({ cls := "java/lang/AbstractStringBuilder", name := "ensureCapacityInternal", desc := "(I)V" } : Jvm.MethodName) jdk_68_method_9_code (3 : Nat) (Option.none : Option Jvm.ClassFile.FieldType), Jvm.Cond.code ({ cls := "java/lang/AbstractStringBuilder", name := "putStringAt", desc := "(ILjava/lang/String;)V" } : Jvm.MethodName) jdk_68_method_73_code (3 : Nat) (Option.none : Option Jvm.ClassFile.FieldType), Jvm.Cond.code ({ cls := "java/lang/AbstractStringBuilder", name := "inflateIfNeededFor", desc := "(Ljava/lang/String;)V" } : Jvm.MethodName) jdk_68_method_71_code (2 : Nat) (Option.none : Option Jvm.ClassFile.FieldType), Jvm.Cond.code ({ cls := "java/lang/String", name := "getBytes", desc := "([BIB)V" } : Jvm.MethodName) jdk_42_method_147_code (4 : Nat) (Option.none : Option Jvm.ClassFile.FieldType), Jvm.Cond.code ({ cls := "java/lang/AbstractStringBuilder", name := "newCapacity", desc := "(I)I" } : Jvm.MethodName) jdk_68_method_10_code (6 : Nat) (Option.some Jvm.ClassFile.FieldType.int), Jvm.Cond.code ({ cls := "jdk/internal/util/ArraysSupport", name := "newLength", desc := "(III)I" } : Jvm.MethodName) jdk_48_method_27_code (4 : Nat) (Option.some Jvm.ClassFile.FieldType.int), Jvm.Cond.code ({ cls := "java/lang/Math", name := "max", desc := "(II)I" } : Jvm.MethodName) jdk_29_method_65_code (2 : Nat) (Option.some Jvm.ClassFile.FieldType.int), Jvm.Cond.code ({ cls := "java/util/Arrays", name := "copyOf", desc := "([BI)[B" } : Jvm.MethodName) jdk_65_method_121_code (3 : Nat) (Option.some (Jvm.ClassFile.FieldType.array Jvm.ClassFile.FieldType.byte)), Jvm.Cond.code ({ cls := "java/lang/Math", name := "min", desc := "(II)I" } : Jvm.MethodName) jdk_29_method_69_code (2 : Nat) (Option.some Jvm.ClassFile.FieldType.int), Jvm.Cond.code ({ cls := "java/lang/StringBuilder", name := "toString", desc := "()Ljava/lang/String;" } : Jvm.MethodName) jdk_67_method_42_code (1 : Nat) (Option.some (Jvm.ClassFile.FieldType.object "java/lang/String")), Jvm.Cond.code ({ cls := "java/lang/String", name := "<init>", desc := "(Ljava/lang/StringBuilder;)V" } : Jvm.MethodName) jdk_42_method_53_code (2 : Nat) (Option.none : Option Jvm.ClassFile.FieldType), Jvm.Cond.code ({ cls := "java/lang/String", name := "<init>", desc := "(Ljava/lang/AbstractStringBuilder;Ljava/lang/Void;)V" } : Jvm.MethodName) jdk_42_method_150_code (5 : Nat) (Option.none : Option Jvm.ClassFile.FieldType), Jvm.Cond.code ({ cls := "java/lang/AbstractStringBuilder", name := "getValue", desc := "()[B" } : Jvm.MethodName) jdk_68_method_64_code (1 : Nat) (Option.some (Jvm.ClassFile.FieldType.array Jvm.ClassFile.FieldType.byte)), Jvm.Cond.code ({ cls := "java/lang/StringBuilder", name := "length", desc := "()I" } : Jvm.MethodName) jdk_67_method_93_code (1 : Nat) (Option.some Jvm.ClassFile.FieldType.int), Jvm.Cond.code ({ cls := "java/lang/AbstractStringBuilder", name := "length", desc := "()I" } : Jvm.MethodName) jdk_68_method_6_code (1 : Nat) (Option.some Jvm.ClassFile.FieldType.int), Jvm.Cond.code ({ cls := "java/lang/AbstractStringBuilder", name := "isLatin1", desc := "()Z" } : Jvm.MethodName) jdk_68_method_68_code (1 : Nat) (Option.some Jvm.ClassFile.FieldType.boolean), Jvm.Cond.code ({ cls := "java/util/Arrays", name := "copyOfRange", desc := "([BII)[B" } : Jvm.MethodName) jdk_65_method_132_code (3 : Nat) (Option.some (Jvm.ClassFile.FieldType.array Jvm.ClassFile.FieldType.byte)), Jvm.Cond.code ({ cls := "java/util/Arrays", name := "copyOfRangeByte", desc := "([BII)[B" } : Jvm.MethodName) jdk_65_method_133_code (5 : Nat) (Option.some (Jvm.ClassFile.FieldType.array Jvm.ClassFile.FieldType.byte)), Jvm.Cond.code ({ cls := "java/util/Arrays", name := "checkLength", desc := "(II)V" } : Jvm.MethodName) jdk_65_method_131_code (2 : Nat) (Option.none : Option Jvm.ClassFile.FieldType), Jvm.Cond.code ({ cls := "com/example/cadi/cadi/AliasToStringPinLaw", name := "lit", desc := "(Ljava/lang/String;ILjava/lang/String;)Z" } : Jvm.MethodName) method_4_code (3 : Nat) (Option.some Jvm.ClassFile.FieldType.boolean), Jvm.Cond.code ({ cls := "com/example/cadi/cadi/AliasToStringPinLaw", name := "at", desc := "(Ljava/lang/String;ILjava/lang/String;I)Z" } : Jvm.MethodName) method_5_code (4 : Nat) (Option.some Jvm.ClassFile.FieldType.boolean), Jvm.Cond.code ({ cls := "java/lang/String", name := "charAt", desc := "(I)C" } : Jvm.MethodName) jdk_42_method_56_code (2 : Nat) (Option.some Jvm.ClassFile.FieldType.char), Jvm.Cond.code ({ cls := "java/lang/String", name := "isLatin1", desc := "()Z" } : Jvm.MethodName) jdk_42_method_154_code (1 : Nat) (Option.some Jvm.ClassFile.FieldType.boolean), Jvm.Cond.code ({ cls := "java/lang/StringLatin1", name := "charAt", desc := "([BI)C" } : Jvm.MethodName) jdk_43_method_2_code (2 : Nat) (Option.some Jvm.ClassFile.FieldType.char), Jvm.Cond.code ({ cls := "java/lang/String", name := "checkIndex", desc := "(II)V" } : Jvm.MethodName) jdk_42_method_155_code (2 : Nat) (Option.none : Option Jvm.ClassFile.FieldType), Jvm.Cond.code ({ cls := "jdk/internal/util/Preconditions", name := "checkIndex", desc := "(IILjava/util/function/BiFunction;)I" } : Jvm.MethodName) jdk_41_method_11_code (3 : Nat) (Option.some Jvm.ClassFile.FieldType.int)]
set_option maxRecDepth 65536 in
theorem codes_eq : words1.filter isCode = codes1 := rfl
theorem w_codes : ∀ c ∈ words1.filter isCode, c.before args0 about1 = true := by
  rw [codes_eq]
  intro c hc
  simp only [codes1, List.mem_cons, List.not_mem_nil, or_false] at hc
  rcases hc with rfl | rfl | rfl | rfl | rfl | rfl | rfl | rfl | rfl | rfl | rfl | rfl | rfl | rfl | rfl | rfl | rfl | rfl | rfl | rfl | rfl | rfl | rfl | rfl | rfl | rfl | rfl | rfl | rfl | rfl | rfl | rfl | rfl | rfl | rfl | rfl | rfl | rfl | rfl | rfl | rfl | rfl | rfl | rfl
  · exact w_c0
  · exact w_c1
  · exact w_c2
  · exact w_c3
  · exact w_c4
  · exact w_c5
  · exact w_c6
  · exact w_c7
  · exact w_c8
  · exact w_c9
  · exact w_c10
  · exact w_c11
  · exact w_c12
  · exact w_c13
  · exact w_c14
  · exact w_c15
  · exact w_c16
  · exact w_c17
  · exact w_c18
  · exact w_c19
  · exact w_c20
  · exact w_c21
  · exact w_c22
  · exact w_c23
  · exact w_c24
  · exact w_c25
  · exact w_c26
  · exact w_c27
  · exact w_c28
  · exact w_c29
  · exact w_c30
  · exact w_c31
  · exact w_c32
  · exact w_c33
  · exact w_c34
  · exact w_c35
  · exact w_c36
  · exact w_c37
  · exact w_c38
  · exact w_c39
  · exact w_c40
  · exact w_c41
  · exact w_c42
  · exact w_c43
set_option maxRecDepth 65536 in
theorem w_t1 : (words1.take 24).all (fun c => isCode c || c.before args0 about1) = true := by decide +kernel
set_option maxRecDepth 65536 in
theorem w_t2 : ((words1.drop 24).take 24).all (fun c => isCode c || c.before args0 about1) = true := by decide +kernel
set_option maxRecDepth 65536 in
theorem w_t3 : (((words1.drop 24).drop 24).take 24).all (fun c => isCode c || c.before args0 about1) = true := by decide +kernel
set_option maxRecDepth 65536 in
theorem w_t4 : ((((words1.drop 24).drop 24).drop 24).take 24).all (fun c => isCode c || c.before args0 about1) = true := by decide +kernel
set_option maxRecDepth 65536 in
theorem w_t5 : (((((words1.drop 24).drop 24).drop 24).drop 24).take 24).all (fun c => isCode c || c.before args0 about1) = true := by decide +kernel
set_option maxRecDepth 65536 in
theorem w_t6 : ((((((words1.drop 24).drop 24).drop 24).drop 24).drop 24).take 24).all (fun c => isCode c || c.before args0 about1) = true := by decide +kernel
set_option maxRecDepth 65536 in
theorem w_t7 : (((((((words1.drop 24).drop 24).drop 24).drop 24).drop 24).drop 24).take 24).all (fun c => isCode c || c.before args0 about1) = true := by decide +kernel
set_option maxRecDepth 65536 in
theorem w_t8 : ((((((((words1.drop 24).drop 24).drop 24).drop 24).drop 24).drop 24).drop 24).take 24).all (fun c => isCode c || c.before args0 about1) = true := by decide +kernel
set_option maxRecDepth 65536 in
theorem w_t9 : (((((((((words1.drop 24).drop 24).drop 24).drop 24).drop 24).drop 24).drop 24).drop 24).take 24).all (fun c => isCode c || c.before args0 about1) = true := by decide +kernel
set_option maxRecDepth 65536 in
theorem w_t10 : (((((((((words1.drop 24).drop 24).drop 24).drop 24).drop 24).drop 24).drop 24).drop 24).drop 24).all (fun c => isCode c || c.before args0 about1) = true := by decide +kernel
theorem w_tables : (allAtoms (Jvm.Cond.code x code maxLocals ret :: tables_1)).before args0 about1 = true := by
  rw [allAtoms_all]
  show words1.all (fun c => c.before args0 about1) = true
  refine all_split ?_ w_codes
  rw [← List.take_append_drop 24 words1, List.all_append, w_t1, ← List.take_append_drop 24 (words1.drop 24), List.all_append, w_t2, ← List.take_append_drop 24 ((words1.drop 24).drop 24), List.all_append, w_t3, ← List.take_append_drop 24 (((words1.drop 24).drop 24).drop 24), List.all_append, w_t4, ← List.take_append_drop 24 ((((words1.drop 24).drop 24).drop 24).drop 24), List.all_append, w_t5, ← List.take_append_drop 24 (((((words1.drop 24).drop 24).drop 24).drop 24).drop 24), List.all_append, w_t6, ← List.take_append_drop 24 ((((((words1.drop 24).drop 24).drop 24).drop 24).drop 24).drop 24), List.all_append, w_t7, ← List.take_append_drop 24 (((((((words1.drop 24).drop 24).drop 24).drop 24).drop 24).drop 24).drop 24), List.all_append, w_t8, ← List.take_append_drop 24 ((((((((words1.drop 24).drop 24).drop 24).drop 24).drop 24).drop 24).drop 24).drop 24), List.all_append, w_t9, w_t10]
  rfl
set_option maxRecDepth 65536 in
theorem w_rest : rest_1_c.before args0 about1 = true := by decide +kernel
set_option maxRecDepth 65536 in
theorem w_case : (Jvm.Cond.and given_1 narrow_1).before args0 about1 = true := by decide +kernel
set_option maxRecDepth 65536 in
theorem w_consts : constsHeld consts_1 about1 := Jvm.Lit.constsHeldB_iff.mp (by decide +kernel)
theorem w_applies : (headSpec (Jvm.Cond.code x code maxLocals ret :: tables_1) room_1).applies x e0.platform about1 = true :=
  (Spec.applies_iff w_frames).mpr ⟨w_running, w_runnable, w_alone, w_named, w_hears, w_ripe, w_room, w_tables⟩
theorem atStart : AtStart classFile x code maxLocals ret World_1 tables_1 room_1 Calls_1 rest_1 Pre_1 launch0 p0 e0 about1 theMethod args0 below0 :=
  ⟨lists_1, trivial, launch0.admits_env _ _ _, launch0.least_env, fairChoices_fair.cas, fairChoices_fair.clock, w_frames, w_args, w_heap, w_applies, ⟨w_consts, trivial⟩, w_rest, w_case⟩
end start1
theorem witness_1 : WitnessClaimed_1 := ⟨start1.p0, start1.e0, start1.about1, start1.theMethod, start1.args0, start1.below0, start1.atStart⟩
end Jvm.Pilot.@@N@@
