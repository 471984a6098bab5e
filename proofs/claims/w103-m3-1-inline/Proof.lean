import JvmDerived
import JvmDerived.Pilot.@@N@@Statement
import JvmDerived.Pilot.@@N@@Code
set_option linter.unusedVariables false
set_option linter.unusedSimpArgs false
namespace Jvm.OwnKit
open Jvm Jvm.ClassFile Sem Op Lib Jvm.Free Jvm.Stand Jvm.LawKit Jvm.RoadKit Bundle
/-- what is known of the body at hand -/
def Me (p : Program) (meth : Method) (c : Code) (nm : String) (bytes : ByteArray) (maxL : Nat) (ret : Option FieldType) : Prop :=
  p.tables.exec = Jvm.exec ∧ c.code = bytes ∧ c.maxLocals = maxL ∧ meth.sig.returnType = ret ∧ meth.locks = false ∧ meth.name = nm
/-- the walk stands at T, whose heap is h; ss: addresses that are no booked constant's -/
def Wk (p : Program) (l : Launch) (e : Env) (R : Room) (s : State) (m : MethodId) (args : Array Value) (below : List Frame) (meth : Method) (c : Code)
    (Z : State) (EL : List (String × Nat)) (kn : Bool) (own : String) (T : State) (h : Heap) (ss : List Addr) (cells slots : Nat) : Prop :=
  ∃ (vm0 : Vm) (locs : List Loc) (k0 : Nat), Stand p l e R (s.setVm vm0) m args below meth c T locs cells slots ∧ T.heap = h ∧ Z.Warmed39 vm0 ∧ s.Since vm0 k0 ∧ k0 ≤ h.size ∧
    vm0.findClass own = some m.cls ∧ Fr Z.heap.size locs ∧ Old Z Z.heap.size h ∧ CHr Z EL s.vm s.heap vm0 h ∧ (∀ x ∈ ss, x < h.size ∧ Safe Z EL vm0 h x) ∧ (kn = true → vm0.MethodsKnown ∧ vm0.FramesKnown below)
/-- what may be written at U -/
def SF (Z : State) (EL : List (String × Nat)) (U : State) : Addr → Prop := fun x => x < U.heap.size ∧ Safe Z EL U.vm U.heap x
/-- from T at g the body comes to its end, with P of what it returns and of the heap -/
def Fi (p : Program) (e : Env) (below : List Frame) (s Z : State) (EL : List (String × Nat)) (kc ks : Nat) (P : Option Value → Heap → (Addr → Prop) → Prop) (T : State) (g : JFrame) : Prop :=
  ∃ (s₂ : State) (v : Option Value) (L : List Loc), Steps p.tables e below (T.setTop g) s₂ ∧ s₂.status = .running ∧ Ended s₂ below (.returned v) ∧ P v s₂.heap (SF Z EL s₂) ∧ Fr Z.heap.size L ∧
    Old Z Z.heap.size s₂.heap ∧ CHr Z EL s.vm s.heap s₂.vm s₂.heap ∧ ReturnedEndW s (.returned v) s₂ L kc ks
/-- a method's contract at given arguments and heap -/
def Con (l : Launch) (Z : State) (EL : List (String × Nat)) (kn : Bool) (ws : List Cond) (y : MethodName) (bytes : ByteArray) (maxL : Nat) (ret : Option FieldType) (rm : Room) (as' : Array Value) (h0 : Heap) (ss : List Addr)
    (P : Option Value → Heap → (Addr → Prop) → Prop) : Prop :=
  MetFree l y (head1 (Cond.code y bytes maxL ret :: ws) rm) (fun a U => a = as' ∧ Z.Warmed39 U.vm ∧ U.heap = h0 ∧ CHv Z EL U.vm h0 ∧ (∀ x ∈ ss, x < h0.size ∧ Safe Z EL U.vm h0 x))
    (fun _ _ bl U _ => kn = true → U.vm.MethodsKnown ∧ U.vm.FramesKnown bl)
    (fun _ U o U' => ∃ v L, o = .returned v ∧ (P v U'.heap (SF Z EL U') ∧ Fr Z.heap.size L ∧ Old Z Z.heap.size U'.heap) ∧ CHr Z EL U.vm U.heap U'.vm U'.heap ∧ ReturnedEndW U o U' L rm.cells rm.slots)
def rV (P : Value → Heap → Prop) : Option Value → Heap → (Addr → Prop) → Prop := fun v h _ => ∃ w, v = some w ∧ P w h
def rU (P : Heap → Prop) : Option Value → Heap → (Addr → Prop) → Prop := fun v h _ => v = none ∧ P h
/-- the same, with what may be written behind it -/
def rVs (P : Value → Heap → (Addr → Prop) → Prop) : Option Value → Heap → (Addr → Prop) → Prop := fun v h sf => ∃ w, v = some w ∧ P w h sf
def rUs (P : Heap → (Addr → Prop) → Prop) : Option Value → Heap → (Addr → Prop) → Prop := fun v h sf => v = none ∧ P h sf
/-- an address that may be written -/
def Sf (Z : State) (h : Heap) (ss : List Addr) (a : Addr) : Prop :=
  a ∈ ss ∨ (∃ C, Exa Z h a C ∧ C ≠ "java/lang/String" ∧ C ≠ "[B") ∨ (∃ cl ty, Arr Z h a cl ty ∧ ty ≠ .byte)
section Kit
variable {p : Program} {l : Launch} {e : Env} {R : Room} {s : State} {m : MethodId} {args : Array Value} {below : List Frame} {meth : Method} {c : Code} {Z : State} {a0 : Array Value} {EL : List (String × Nat)} {kn : Bool} {own : String}
  {T : State} {h h' h2 : Heap} {ss : List Addr} {cells slots : Nat} {nm : String} {bytes : ByteArray} {maxL : Nat} {ret : Option FieldType} {kc ks : Nat} {P : Option Value → Heap → (Addr → Prop) → Prop} {pc : Nat} {Ls : Array Slot} {st : List Value}
theorem Me.x (me : Me p meth c nm bytes maxL ret) : p.tables.exec = Jvm.exec := me.1
theorem Me.b (me : Me p meth c nm bytes maxL ret) : c.code = bytes := me.2.1
theorem Me.ml (me : Me p meth c nm bytes maxL ret) : c.maxLocals = maxL := me.2.2.1
theorem Me.r (me : Me p meth c nm bytes maxL ret) : meth.sig.returnType = ret := me.2.2.2.1
theorem Me.k (me : Me p meth c nm bytes maxL ret) : meth.locks = false := me.2.2.2.2.1
theorem Me.n (me : Me p meth c nm bytes maxL ret) : meth.name = nm := me.2.2.2.2.2
theorem Fi.step {T' : State} {g g' : JFrame} (k : ∀ t, Steps p.tables e below (T'.setTop g') t → Steps p.tables e below (T.setTop g) t) (F : Fi p e below s Z EL kc ks P T' g') : Fi p e below s Z EL kc ks P T g := by
  obtain ⟨s₂, v, L, h1, r⟩ := F
  exact ⟨s₂, v, L, k _ h1, r⟩
theorem Fi.mono {P' : Option Value → Heap → (Addr → Prop) → Prop} {g : JFrame} (F : Fi p e below s Z EL kc ks P T g) (q : ∀ v h sf, P v h sf → P' v h sf) : Fi p e below s Z EL kc ks P' T g := by
  obtain ⟨s₂, v, L, h1, h2, h3, h4, r⟩ := F
  exact ⟨s₂, v, L, h1, h2, h3, q _ _ _ h4, r⟩
theorem Wk.heap (W : Wk p l e R s m args below meth c Z EL kn own T h ss cells slots) : T.heap = h := by obtain ⟨_, _, _, -, e, -⟩ := W; exact e
theorem Wk.here (W : Wk p l e R s m args below meth c Z EL kn own T h ss cells slots) : At T m c below := by obtain ⟨_, _, _, X, -⟩ := W; exact X.here
theorem Wk.old (W : Wk p l e R s m args below meth c Z EL kn own T h ss cells slots) : Old Z Z.heap.size h := by obtain ⟨_, _, _, -, -, -, -, -, -, -, O, -⟩ := W; exact O
theorem Wk.more {cells' slots' : Nat} (W : Wk p l e R s m args below meth c Z EL kn own T h ss cells slots) (hc : cells ≤ cells') (hs : slots ≤ slots') : Wk p l e R s m args below meth c Z EL kn own T h ss cells' slots' := by
  obtain ⟨vm0, locs, k0, X, r⟩ := W; exact ⟨vm0, locs, k0, X.more hc hs, r⟩
theorem Wk.less {ss' : List Addr} (W : Wk p l e R s m args below meth c Z EL kn own T h ss cells slots) (q : ∀ x ∈ ss', x ∈ ss) : Wk p l e R s m args below meth c Z EL kn own T h ss' cells slots := by
  obtain ⟨vm0, locs, k0, h1, h2, h3, h4, h5, h6, h7, h8, h9, h10, h11⟩ := W; exact ⟨vm0, locs, k0, h1, h2, h3, h4, h5, h6, h7, h8, h9, fun x hx => h10 x (q x hx), h11⟩
theorem ReturnedEndW.mono {s t : State} {o : Outcome} {L : List Loc} {k n k' n' : Nat} (q : ReturnedEndW s o t L k n) (hk : k ≤ k') (hn : n ≤ n') : ReturnedEndW s o t L k' n' := ⟨q.1, q.2.1, q.2.2.1, q.2.2.2.mono hk hn⟩
theorem Wk.leave (W : Wk p l e R s m args below meth c Z EL kn own T h ss cells slots) (hEL : EW Z a0 EL) (me : Me p meth c nm bytes maxL ret) (hc : cells ≤ kc) (hs : slots ≤ ks) {v : Option Value} (hv : ret = none → v = none) {g : JFrame}
    (hst : ∀ {vm0 : Vm} {locs : List Loc} (X : Stand p l e R (s.setVm vm0) m args below meth c T locs cells slots) {fs : List Frame}, (∀ (f : JFrame) (acts : List Action), f.method = m → f.locked = none → f.entered = [] → (doReturn e (T.setTop f) acts v).1 = T.setFrames fs) → Steps p.tables e below (T.setTop g) (T.setFrames fs))
    (hP : ∀ sf : Addr → Prop, (∀ x ∈ ss, sf x) → P v h sf) : Fi p e below s Z EL kc ks P T g := by
  obtain ⟨vm0, locs, k0, X, eT, hZ, hS, hk, hown, N, O, C, hss, -⟩ := W
  have hk' := me.k
  obtain ⟨fs, hr, hrun, hend, hR⟩ := X.leaveW hS (by rw [eT]; exact hk) (v := v) (fun q => hv (me.r ▸ q)) hk'
  subst eT
  have C1 := CHv.at X hZ hEL C.1
  exact ⟨T.setFrames fs, v, locs, hst X hr, hrun, hend, hP _ (fun x hx => ⟨(hss x hx).1, C1.safe (hss x hx).1 (hss x hx).2⟩), N, O, C.trans C1, ReturnedEndW.mono hR hc hs⟩
theorem Wk.retU (W : Wk p l e R s m args below meth c Z EL kn own T h ss cells slots) (hEL : EW Z a0 EL) (me : Me p meth c nm bytes maxL none) (hd : decode bytes pc = .ok (.return_, 1)) {P : Heap → Prop} (hP : P h) (hc : cells ≤ kc) (hs : slots ≤ ks) :
    Fi p e below s Z EL kc ks (rU P) T (mkF m pc Ls []) :=
  W.leave hEL me hc hs (v := none) (fun _ => rfl) (fun X _ hr => X.returnOut me.x me.r (hb me.b hd) hr) (fun _ _ => ⟨rfl, hP⟩)
theorem Wk.retV {t : FieldType} {w : Value} {i : Instr} (W : Wk p l e R s m args below meth c Z EL kn own T h ss cells slots) (hEL : EW Z a0 EL) (me : Me p meth c nm bytes maxL (some t)) (hd : decode bytes pc = .ok (i, 1)) {P : Value → Heap → Prop} (hP : P w h) (hc : cells ≤ kc) (hs : slots ≤ ks) (hn : narrow t w = w)
    (hi : (i = .ireturn ∧ (t = .int ∨ t = .boolean ∨ t = .byte ∨ t = .char ∨ t = .short) ∧ ∃ z, w = .int z) ∨ (i = .lreturn ∧ t = .long ∧ ∃ z, w = .long z) ∨ (i = .dreturn ∧ t = .double ∧ ∃ z, w = .double z) ∨ (i = .freturn ∧ t = .float ∧ ∃ z, w = .float z) ∨ (i = .areturn ∧ t.isReference = true ∧ w.isRef = true)) :
    Fi p e below s Z EL kc ks (rV P) T (mkF m pc Ls (w :: st)) :=
  W.leave hEL me hc hs (v := some w) (fun q => nomatch q) (fun X _ hr => retOut X me.x me.r hn hi (hb me.b hd) hr) (fun _ _ => ⟨w, rfl, hP⟩)
theorem Wk.retI {z : Int32} (W : Wk p l e R s m args below meth c Z EL kn own T h ss cells slots) (hEL : EW Z a0 EL) (me : Me p meth c nm bytes maxL (some .int)) (hd : decode bytes pc = .ok (.ireturn, 1)) {P : Value → Heap → Prop} (hP : P (.int z) h) (hc : cells ≤ kc) (hs : slots ≤ ks) :
    Fi p e below s Z EL kc ks (rV P) T (mkF m pc Ls (.int z :: st)) := W.retV hEL me hd hP hc hs rfl (Or.inl ⟨rfl, Or.inl rfl, z, rfl⟩)
theorem Wk.retA {w : Value} {t : FieldType} (W : Wk p l e R s m args below meth c Z EL kn own T h ss cells slots) (hEL : EW Z a0 EL) (me : Me p meth c nm bytes maxL (some t)) (hd : decode bytes pc = .ok (.areturn, 1)) {P : Value → Heap → Prop} (hP : P w h) (hc : cells ≤ kc) (hs : slots ≤ ks) (hw : w.isRef = true) (ht : t.isReference = true) (hn : narrow t w = w) :
    Fi p e below s Z EL kc ks (rV P) T (mkF m pc Ls (w :: st)) := W.retV hEL me hd hP hc hs hn (Or.inr (Or.inr (Or.inr (Or.inr ⟨rfl, ht, hw⟩))))
/-- a small int returned: boolean, byte, char, short, as 'nar' keeps it -/
theorem Wk.retN {z : Int32} {t : FieldType} (W : Wk p l e R s m args below meth c Z EL kn own T h ss cells slots) (hEL : EW Z a0 EL) (me : Me p meth c nm bytes maxL (some t)) (ht : t = .boolean ∨ t = .byte ∨ t = .char ∨ t = .short) (hd : decode bytes pc = .ok (.ireturn, 1)) {P : Value → Heap → Prop} (hP : P (.int (nar t z)) h) (hc : cells ≤ kc) (hs : slots ≤ ks) :
    Fi p e below s Z EL kc ks (rV P) T (mkF m pc Ls (.int z :: st)) :=
  W.leave hEL me hc hs (v := some (.int (nar t z))) (fun q => nomatch q) (fun X _ hr => Jvm.RoadKit.retN X me.x me.r ht (hb me.b hd) hr) (fun _ _ => ⟨_, rfl, hP⟩)
theorem Wk.retUs (W : Wk p l e R s m args below meth c Z EL kn own T h ss cells slots) (hEL : EW Z a0 EL) (me : Me p meth c nm bytes maxL none) (hd : decode bytes pc = .ok (.return_, 1)) {P : Heap → (Addr → Prop) → Prop} (hP : ∀ sf : Addr → Prop, (∀ x ∈ ss, sf x) → P h sf) (hc : cells ≤ kc) (hs : slots ≤ ks) :
    Fi p e below s Z EL kc ks (rUs P) T (mkF m pc Ls []) :=
  W.leave hEL me hc hs (v := none) (fun _ => rfl) (fun X _ hr => X.returnOut me.x me.r (hb me.b hd) hr) (fun sf q => ⟨rfl, hP sf q⟩)
theorem Wk.retAs {w : Value} {t : FieldType} (W : Wk p l e R s m args below meth c Z EL kn own T h ss cells slots) (hEL : EW Z a0 EL) (me : Me p meth c nm bytes maxL (some t)) (hd : decode bytes pc = .ok (.areturn, 1)) {P : Value → Heap → (Addr → Prop) → Prop} (hP : ∀ sf : Addr → Prop, (∀ x ∈ ss, sf x) → P w h sf) (hc : cells ≤ kc) (hs : slots ≤ ks) (hw : w.isRef = true) (ht : t.isReference = true) (hn : narrow t w = w) :
    Fi p e below s Z EL kc ks (rVs P) T (mkF m pc Ls (w :: st)) :=
  W.leave hEL me hc hs (v := some w) (fun q => nomatch q) (fun X _ hr => retOut X me.x me.r hn (Or.inr (Or.inr (Or.inr (Or.inr ⟨rfl, ht, hw⟩)))) (hb me.b hd) hr) (fun sf q => ⟨w, rfl, hP sf q⟩)
/-- the contract by its body -/
theorem Con.of {ws : List Cond} {y : MethodName} {rm : Room} {as' : Array Value} (hp : plainFor y = true) (hO : Old Z Z.heap.size h)
    (body : ∀ (p : Program) (e : Env) (s : State) (m : MethodId) (below : List Frame) (meth : Method) (c : Code) (T : State), Me p meth c y.name bytes maxL ret → Wk p l e rm s m as' below meth c Z EL kn y.cls T h ss 0 0 → Fi p e below s Z EL rm.cells rm.slots P T (entryFrame m as' maxL)) :
    Con l Z EL kn ws y bytes maxL ret rm as' h ss P := by
  refine MetFree.of_bodySF hp hisR ?_
  intro p e s m args below meth c s₁ Bd hml0 hP hK
  obtain ⟨rfl, hZ, hh, hC, hS⟩ := hP
  have X0 : Stand p l e rm s m args below meth c s₁ [] 0 0 := Stand.of_body Bd
  have e0 : s₁.heap = h := by rw [← hh, Bd.state]; rfl
  have hown : s.vm.findClass y.cls = some m.cls := findClass_of_methodNamed Bd.named
  have hnm := (name_of_methodNamed Bd.named Bd.method).1
  have W : Wk p l e rm s m args below meth c Z EL kn y.cls s₁ h ss 0 0 := ⟨s.vm, [], 0, X0, e0, hZ, (State.WarmedH.refl s).since 0, Nat.zero_le _, hown, Fr.nil _, hO, by rw [hh]; exact CHr.refl hC, hS, hK⟩
  obtain ⟨s₂, v, L, q1, q2, q3, q4, q5, q6, q7, q8⟩ := body p e s m below meth c s₁ ⟨Bd.exec, Bd.bytes, hml0, Bd.returns, Bd.notSynchronized, hnm⟩ W
  exact ⟨s₂, _, q1, q2, q3, v, L, rfl, ⟨q4, q5, q6⟩, q7, q8⟩
theorem Con.back {y : MethodName} {rm : Room} {as' : Array Value} {vm0 : Vm} {len Wt : Nat} (hM : Con l Z EL kn [] y bytes maxL ret rm as' h ss P) (hZ : Z.Warmed39 vm0) (wc : (Cond.code y bytes maxL ret).before a0 Z = true) (wz : (Cond.initialized y.cls).before a0 Z = true)
    (hf : rm.frames + 1 ≤ R.frames) (hl : Wt + (maxL + 11) + rm.locals ≤ R.locals) (hEL : EW Z a0 EL) (H : CHv Z EL vm0 h) (hS : ∀ x ∈ ss, x < h.size ∧ Safe Z EL vm0 h x) (hK : kn = true → vm0.MethodsKnown ∧ vm0.FramesKnown below) :
    BackS l R p e below (s.setVm vm0) args y len Wt (fun A a => a = as' ∧ A.U.heap = h ∧ A.cells + rm.cells ≤ R.cells ∧ A.slots + rm.slots ≤ R.slots)
      (fun A _ v B => ∃ L, (P v B.U.heap (SF Z EL B.U) ∧ Fr Z.heap.size L ∧ Old Z Z.heap.size B.U.heap) ∧ B.locs = A.locs ++ L ∧ B.cells = A.cells + rm.cells ∧ B.slots = A.slots + rm.slots ∧ CHr Z EL vm0 h B.U.vm B.U.heap) := by
  refine BackS.of_freeWG (bytes := bytes) (maxL := maxL) (ret := ret) (E := fun _ first o t L k n => k = rm.cells ∧ n = rm.slots ∧ (∃ v, o = .returned v ∧ P v t.heap (SF Z EL t) ∧ Fr Z.heap.size L ∧ Old Z Z.heap.size t.heap) ∧ CHr Z EL first.vm first.heap t.vm t.heap) hM hf hl ?_ ?_ ?_ ?_ ?_
  · intro m meth c A a Y hp
    have hU : Z.Warmed39 A.U.vm := wtrans (s := s.setVm vm0) hZ Y.warmed
    exact ⟨by show (Cond.and _ .tt).before a A.U = true; rw [Cond.before_and, mv hU wc]; rfl, mv hU wc, mv hU wz, hp.2.2.1, hp.2.2.2⟩
  · intro m meth c A a g mk Y hp
    have q := CHv.at Y hZ hEL H
    exact ⟨hp.1, wtrans (s := s.setVm vm0) hZ Y.warmed, hp.2.1, q.1, fun x hx => ⟨(hS x hx).1, q.safe (hS x hx).1 (hS x hx).2⟩⟩
  · intro m meth c A a g mk Y _ hg k
    exact known_frames Y hg (hK k).1 (hK k).2
  · rintro _ _ _ _ ⟨v, L, h1, h2, h3, h4⟩
    exact ⟨L, _, _, h4, rfl, rfl, ⟨v, h1, h2⟩, h3⟩
  · rintro m meth c A a g mk v t L k n Y hp _ _ ⟨e1, e2, ⟨v', e3, e4⟩, e5⟩
    cases e3; subst e1 e2
    refine ⟨L, e4, rfl, rfl, rfl, (CHv.at Y hZ hEL H).trans ?_⟩
    rw [← hp.2.1]; exact e5
/-- the walk behind a call that may intern -/
theorem Wk.behind {B : Pt} {vm0 : Vm} {locs L : List Loc} {k0 k n : Nat} (X : Stand p l e R ((s.setVm vm0).setVm B.U.vm) m args below meth c B.U B.locs B.cells B.slots) (hZ : Z.Warmed39 vm0) (hS : s.Since vm0 k0) (hk : k0 ≤ h.size) (hown : vm0.findClass own = some m.cls) (N : Fr Z.heap.size locs) (C : CHr Z EL s.vm s.heap vm0 h)
    (hss : ∀ x ∈ ss, x < h.size ∧ Safe Z EL vm0 h x) (hK : kn = true → vm0.MethodsKnown ∧ vm0.FramesKnown below) (hS2 : (s.setVm vm0).Since B.U.vm B.U.heap.size) (hg : h.size ≤ B.U.heap.size)
    (NL : Fr Z.heap.size L) (O : Old Z Z.heap.size B.U.heap) (e1 : B.locs = locs ++ L) (e2 : B.cells = cells + k) (e3 : B.slots = slots + n) (C2 : CHr Z EL vm0 h B.U.vm B.U.heap) :
    ∀ xs : List Addr, (∀ x ∈ xs, SF Z EL B.U x) → Wk p l e R s m args below meth c Z EL kn own B.U B.U.heap (xs ++ ss) (cells + k) (slots + n) := by
  intro xs hxs
  have hZ' : Z.Warmed39 B.U.vm := State.Warmed39.trans (t := s.setVm vm0) hZ hS2.1
  have hal : vm0.Alike B.U.vm := hS2.1.alike
  refine ⟨B.U.vm, B.locs, _, e3 ▸ e2 ▸ X, rfl, hZ', hS.trans hS2 (Nat.le_trans hk hg), Nat.le_refl _, by rw [hal.findClass]; exact hown, e1 ▸ N.app NL, O, C.trans C2, fun x hx => (List.mem_append.mp hx).elim (hxs x) (fun hx => ⟨Nat.lt_of_lt_of_le (hss x hx).1 hg, C2.safe (hss x hx).1 (hss x hx).2⟩), fun k => ?_⟩
  refine ⟨Vm.MethodsKnown.alikeC hal (hK k).1, ?_⟩
  exact Vm.FramesKnown.alikeC hal (hK k).2
end Kit
end Jvm.OwnKit
namespace Jvm.OwnKit
open Jvm Jvm.ClassFile Sem Op Lib Jvm.Free Jvm.Stand Jvm.LawKit Jvm.RoadKit Bundle
section Steps2
variable {p : Program} {l : Launch} {e : Env} {R : Room} {s : State} {m : MethodId} {args : Array Value} {below : List Frame} {meth : Method} {c : Code} {Z : State} {a0 : Array Value} {EL : List (String × Nat)} {kn : Bool} {own : String}
  {T : State} {h h' h2 : Heap} {ss : List Addr} {cells slots : Nat} {nm : String} {bytes : ByteArray} {maxL : Nat} {ret : Option FieldType} {kc ks : Nat} {P : Option Value → Heap → (Addr → Prop) → Prop} {pc : Nat} {Ls : Array Slot} {st : List Value}
theorem Wk.aloadN (W : Wk p l e R s m args below meth c Z EL kn own T h ss cells slots) (me : Me p meth c nm bytes maxL ret) {k : Fin 4} {v : Value} (hd : decode bytes pc = .ok (.aload_n k, 1)) (hl : Ls[k.val]? = some (.val v)) (hv : v.isRef = true) (F : Fi p e below s Z EL kc ks P T (mkF m (pc + 1) Ls (v :: st))) : Fi p e below s Z EL kc ks P T (mkF m pc Ls st) :=
  F.step fun _ => XS.aloadN W.here me.x rfl (hb me.b hd) hl hv
theorem Wk.aload (W : Wk p l e R s m args below meth c Z EL kn own T h ss cells slots) (me : Me p meth c nm bytes maxL ret) {k : Nat} {v : Value} (hd : decode bytes pc = .ok (.aload k, 2)) (hl : Ls[k]? = some (.val v)) (hv : v.isRef = true) (F : Fi p e below s Z EL kc ks P T (mkF m (pc + 2) Ls (v :: st))) : Fi p e below s Z EL kc ks P T (mkF m pc Ls st) :=
  F.step fun _ => XS.aload W.here me.x rfl (hb me.b hd) hl hv
theorem Wk.iloadN (W : Wk p l e R s m args below meth c Z EL kn own T h ss cells slots) (me : Me p meth c nm bytes maxL ret) {k : Fin 4} {v : Int32} (hd : decode bytes pc = .ok (.iload_n k, 1)) (hl : Ls[k.val]? = some (.val (.int v))) (F : Fi p e below s Z EL kc ks P T (mkF m (pc + 1) Ls (.int v :: st))) : Fi p e below s Z EL kc ks P T (mkF m pc Ls st) :=
  F.step fun _ => XS.iloadN W.here me.x rfl (hb me.b hd) hl
theorem Wk.iload (W : Wk p l e R s m args below meth c Z EL kn own T h ss cells slots) (me : Me p meth c nm bytes maxL ret) {k : Nat} {v : Int32} (hd : decode bytes pc = .ok (.iload k, 2)) (hl : Ls[k]? = some (.val (.int v))) (F : Fi p e below s Z EL kc ks P T (mkF m (pc + 2) Ls (.int v :: st))) : Fi p e below s Z EL kc ks P T (mkF m pc Ls st) :=
  F.step fun _ => XS.iload W.here me.x rfl (hb me.b hd) hl
theorem Wk.lloadN (W : Wk p l e R s m args below meth c Z EL kn own T h ss cells slots) (me : Me p meth c nm bytes maxL ret) {k : Fin 4} {v : Int64} (hd : decode bytes pc = .ok (.lload_n k, 1)) (hl : Ls[k.val]? = some (.val (.long v))) (F : Fi p e below s Z EL kc ks P T (mkF m (pc + 1) Ls (.long v :: st))) : Fi p e below s Z EL kc ks P T (mkF m pc Ls st) :=
  F.step fun _ => XT.lloadN W.here me.x rfl (hb me.b hd) hl
theorem Wk.lload (W : Wk p l e R s m args below meth c Z EL kn own T h ss cells slots) (me : Me p meth c nm bytes maxL ret) {k : Nat} {v : Int64} (hd : decode bytes pc = .ok (.lload k, 2)) (hl : Ls[k]? = some (.val (.long v))) (F : Fi p e below s Z EL kc ks P T (mkF m (pc + 2) Ls (.long v :: st))) : Fi p e below s Z EL kc ks P T (mkF m pc Ls st) :=
  F.step fun _ => XT.lload W.here me.x rfl (hb me.b hd) hl
theorem Wk.istoreN (W : Wk p l e R s m args below meth c Z EL kn own T h ss cells slots) (me : Me p meth c nm bytes maxL ret) {k : Fin 4} {x : Int32} {l' : Array Slot} (hd : decode bytes pc = .ok (.istore_n k, 1)) (hl : storeLocals Ls k.val (.int x) = some l') (F : Fi p e below s Z EL kc ks P T (mkF m (pc + 1) l' st)) : Fi p e below s Z EL kc ks P T (mkF m pc Ls (.int x :: st)) :=
  F.step fun _ => XS.istoreN W.here me.x rfl (hb me.b hd) rfl hl
theorem Wk.istore (W : Wk p l e R s m args below meth c Z EL kn own T h ss cells slots) (me : Me p meth c nm bytes maxL ret) {k : Nat} {x : Int32} {l' : Array Slot} (hd : decode bytes pc = .ok (.istore k, 2)) (hl : storeLocals Ls k (.int x) = some l') (F : Fi p e below s Z EL kc ks P T (mkF m (pc + 2) l' st)) : Fi p e below s Z EL kc ks P T (mkF m pc Ls (.int x :: st)) :=
  F.step fun _ => XS.istore W.here me.x rfl (hb me.b hd) rfl hl
theorem Wk.astoreN (W : Wk p l e R s m args below meth c Z EL kn own T h ss cells slots) (me : Me p meth c nm bytes maxL ret) {k : Fin 4} {x : Value} {l' : Array Slot} (hd : decode bytes pc = .ok (.astore_n k, 1)) (hv : x.isRef = true) (hl : storeLocals Ls k.val x = some l') (F : Fi p e below s Z EL kc ks P T (mkF m (pc + 1) l' st)) : Fi p e below s Z EL kc ks P T (mkF m pc Ls (x :: st)) :=
  F.step fun _ => XS.astoreN W.here me.x rfl (hb me.b hd) rfl hv hl
theorem Wk.astore (W : Wk p l e R s m args below meth c Z EL kn own T h ss cells slots) (me : Me p meth c nm bytes maxL ret) {k : Nat} {x : Value} {l' : Array Slot} (hd : decode bytes pc = .ok (.astore k, 2)) (hv : x.isRef = true) (hl : storeLocals Ls k x = some l') (F : Fi p e below s Z EL kc ks P T (mkF m (pc + 2) l' st)) : Fi p e below s Z EL kc ks P T (mkF m pc Ls (x :: st)) :=
  F.step fun _ => XS.astore W.here me.x rfl (hb me.b hd) rfl hv hl
theorem Wk.lstoreN (W : Wk p l e R s m args below meth c Z EL kn own T h ss cells slots) (me : Me p meth c nm bytes maxL ret) {k : Fin 4} {x : Int64} {l' : Array Slot} (hd : decode bytes pc = .ok (.lstore_n k, 1)) (hl : storeLocals Ls k.val (.long x) = some l') (F : Fi p e below s Z EL kc ks P T (mkF m (pc + 1) l' st)) : Fi p e below s Z EL kc ks P T (mkF m pc Ls (.long x :: st)) :=
  F.step fun _ => XT.lstoreN W.here me.x rfl (hb me.b hd) rfl hl
theorem Wk.lstore (W : Wk p l e R s m args below meth c Z EL kn own T h ss cells slots) (me : Me p meth c nm bytes maxL ret) {k : Nat} {x : Int64} {l' : Array Slot} (hd : decode bytes pc = .ok (.lstore k, 2)) (hl : storeLocals Ls k (.long x) = some l') (F : Fi p e below s Z EL kc ks P T (mkF m (pc + 2) l' st)) : Fi p e below s Z EL kc ks P T (mkF m pc Ls (.long x :: st)) :=
  F.step fun _ => XT.lstore W.here me.x rfl (hb me.b hd) rfl hl
theorem Wk.iconst (W : Wk p l e R s m args below meth c Z EL kn own T h ss cells slots) (me : Me p meth c nm bytes maxL ret) {i : Int} {v : Int32} (hd : decode bytes pc = .ok (.iconst i, 1)) (hv : Int32.ofInt i = v) (F : Fi p e below s Z EL kc ks P T (mkF m (pc + 1) Ls (.int v :: st))) : Fi p e below s Z EL kc ks P T (mkF m pc Ls st) :=
  F.step fun _ => XT.iconstV W.here me.x rfl v (hb me.b hd) hv
theorem Wk.bipush (W : Wk p l e R s m args below meth c Z EL kn own T h ss cells slots) (me : Me p meth c nm bytes maxL ret) {i : Int} {v : Int32} (hd : decode bytes pc = .ok (.bipush i, 2)) (hv : (Int8.ofInt i).toInt32 = v) (F : Fi p e below s Z EL kc ks P T (mkF m (pc + 2) Ls (.int v :: st))) : Fi p e below s Z EL kc ks P T (mkF m pc Ls st) :=
  F.step fun _ => XT.bipushV W.here me.x rfl v (hb me.b hd) hv
theorem Wk.sipush (W : Wk p l e R s m args below meth c Z EL kn own T h ss cells slots) (me : Me p meth c nm bytes maxL ret) {i : Int} {v : Int32} (hd : decode bytes pc = .ok (.sipush i, 3)) (hv : (Int16.ofInt i).toInt32 = v) (F : Fi p e below s Z EL kc ks P T (mkF m (pc + 3) Ls (.int v :: st))) : Fi p e below s Z EL kc ks P T (mkF m pc Ls st) :=
  F.step fun _ => XT.sipushV W.here me.x rfl v (hb me.b hd) hv
theorem Wk.aconstNull (W : Wk p l e R s m args below meth c Z EL kn own T h ss cells slots) (me : Me p meth c nm bytes maxL ret)  (hd : decode bytes pc = .ok (.aconst_null, 1))  (F : Fi p e below s Z EL kc ks P T (mkF m (pc + 1) Ls (.null :: st))) : Fi p e below s Z EL kc ks P T (mkF m pc Ls st) :=
  F.step fun _ => XS.aconstNull W.here me.x rfl (hb me.b hd) 
theorem Wk.iadd (W : Wk p l e R s m args below meth c Z EL kn own T h ss cells slots) (me : Me p meth c nm bytes maxL ret) {x y : Int32} (hd : decode bytes pc = .ok (.iadd, 1))  (F : Fi p e below s Z EL kc ks P T (mkF m (pc + 1) Ls (.int (x + y) :: st))) : Fi p e below s Z EL kc ks P T (mkF m pc Ls (.int y :: .int x :: st)) :=
  F.step fun _ => XS.iadd W.here me.x rfl (hb me.b hd) rfl
theorem Wk.isub (W : Wk p l e R s m args below meth c Z EL kn own T h ss cells slots) (me : Me p meth c nm bytes maxL ret) {x y : Int32} (hd : decode bytes pc = .ok (.isub, 1))  (F : Fi p e below s Z EL kc ks P T (mkF m (pc + 1) Ls (.int (x - y) :: st))) : Fi p e below s Z EL kc ks P T (mkF m pc Ls (.int y :: .int x :: st)) :=
  F.step fun _ => XS.isub W.here me.x rfl (hb me.b hd) rfl
theorem Wk.imul (W : Wk p l e R s m args below meth c Z EL kn own T h ss cells slots) (me : Me p meth c nm bytes maxL ret) {x y : Int32} (hd : decode bytes pc = .ok (.imul, 1))  (F : Fi p e below s Z EL kc ks P T (mkF m (pc + 1) Ls (.int (x * y) :: st))) : Fi p e below s Z EL kc ks P T (mkF m pc Ls (.int y :: .int x :: st)) :=
  F.step fun _ => XS.imul W.here me.x rfl (hb me.b hd) rfl
theorem Wk.iand (W : Wk p l e R s m args below meth c Z EL kn own T h ss cells slots) (me : Me p meth c nm bytes maxL ret) {x y : Int32} (hd : decode bytes pc = .ok (.iand, 1))  (F : Fi p e below s Z EL kc ks P T (mkF m (pc + 1) Ls (.int (x &&& y) :: st))) : Fi p e below s Z EL kc ks P T (mkF m pc Ls (.int y :: .int x :: st)) :=
  F.step fun _ => XS.iand W.here me.x rfl (hb me.b hd) rfl
theorem Wk.ior (W : Wk p l e R s m args below meth c Z EL kn own T h ss cells slots) (me : Me p meth c nm bytes maxL ret) {x y : Int32} (hd : decode bytes pc = .ok (.ior, 1))  (F : Fi p e below s Z EL kc ks P T (mkF m (pc + 1) Ls (.int (x ||| y) :: st))) : Fi p e below s Z EL kc ks P T (mkF m pc Ls (.int y :: .int x :: st)) :=
  F.step fun _ => XT.ior W.here me.x rfl (hb me.b hd) rfl
theorem Wk.ixor (W : Wk p l e R s m args below meth c Z EL kn own T h ss cells slots) (me : Me p meth c nm bytes maxL ret) {x y : Int32} (hd : decode bytes pc = .ok (.ixor, 1))  (F : Fi p e below s Z EL kc ks P T (mkF m (pc + 1) Ls (.int (x ^^^ y) :: st))) : Fi p e below s Z EL kc ks P T (mkF m pc Ls (.int y :: .int x :: st)) :=
  F.step fun _ => XT.ixor W.here me.x rfl (hb me.b hd) rfl
theorem Wk.ishl (W : Wk p l e R s m args below meth c Z EL kn own T h ss cells slots) (me : Me p meth c nm bytes maxL ret) {x y : Int32} (hd : decode bytes pc = .ok (.ishl, 1))  (F : Fi p e below s Z EL kc ks P T (mkF m (pc + 1) Ls (.int (x <<< (y &&& 31)) :: st))) : Fi p e below s Z EL kc ks P T (mkF m pc Ls (.int y :: .int x :: st)) :=
  F.step fun _ => XT.ishl W.here me.x rfl (hb me.b hd) rfl
theorem Wk.ishr (W : Wk p l e R s m args below meth c Z EL kn own T h ss cells slots) (me : Me p meth c nm bytes maxL ret) {x y : Int32} (hd : decode bytes pc = .ok (.ishr, 1))  (F : Fi p e below s Z EL kc ks P T (mkF m (pc + 1) Ls (.int (x >>> (y &&& 31)) :: st))) : Fi p e below s Z EL kc ks P T (mkF m pc Ls (.int y :: .int x :: st)) :=
  F.step fun _ => XT.ishr W.here me.x rfl (hb me.b hd) rfl
theorem Wk.iushr (W : Wk p l e R s m args below meth c Z EL kn own T h ss cells slots) (me : Me p meth c nm bytes maxL ret) {x y : Int32} (hd : decode bytes pc = .ok (.iushr, 1))  (F : Fi p e below s Z EL kc ks P T (mkF m (pc + 1) Ls (.int (XT.ushr x y) :: st))) : Fi p e below s Z EL kc ks P T (mkF m pc Ls (.int y :: .int x :: st)) :=
  F.step fun _ => XT.iushr W.here me.x rfl (hb me.b hd) rfl
theorem Wk.irem (W : Wk p l e R s m args below meth c Z EL kn own T h ss cells slots) (me : Me p meth c nm bytes maxL ret) {x y : Int32} (hd : decode bytes pc = .ok (.irem, 1)) (hy : y ≠ 0) (F : Fi p e below s Z EL kc ks P T (mkF m (pc + 1) Ls (.int (x % y) :: st))) : Fi p e below s Z EL kc ks P T (mkF m pc Ls (.int y :: .int x :: st)) := by
  obtain ⟨vm0, locs, k0, X, -⟩ := W
  exact F.step fun _ => iremM X me.x rfl (hb me.b hd) rfl hy
theorem Wk.ladd (W : Wk p l e R s m args below meth c Z EL kn own T h ss cells slots) (me : Me p meth c nm bytes maxL ret) {x y : Int64} (hd : decode bytes pc = .ok (.ladd, 1))  (F : Fi p e below s Z EL kc ks P T (mkF m (pc + 1) Ls (.long (x + y) :: st))) : Fi p e below s Z EL kc ks P T (mkF m pc Ls (.long y :: .long x :: st)) :=
  F.step fun _ => XT.ladd W.here me.x rfl (hb me.b hd) rfl
theorem Wk.lsub (W : Wk p l e R s m args below meth c Z EL kn own T h ss cells slots) (me : Me p meth c nm bytes maxL ret) {x y : Int64} (hd : decode bytes pc = .ok (.lsub, 1))  (F : Fi p e below s Z EL kc ks P T (mkF m (pc + 1) Ls (.long (x - y) :: st))) : Fi p e below s Z EL kc ks P T (mkF m pc Ls (.long y :: .long x :: st)) :=
  F.step fun _ => XT.lsub W.here me.x rfl (hb me.b hd) rfl
theorem Wk.lmul (W : Wk p l e R s m args below meth c Z EL kn own T h ss cells slots) (me : Me p meth c nm bytes maxL ret) {x y : Int64} (hd : decode bytes pc = .ok (.lmul, 1))  (F : Fi p e below s Z EL kc ks P T (mkF m (pc + 1) Ls (.long (x * y) :: st))) : Fi p e below s Z EL kc ks P T (mkF m pc Ls (.long y :: .long x :: st)) :=
  F.step fun _ => XT.lmul W.here me.x rfl (hb me.b hd) rfl
theorem Wk.lcmp (W : Wk p l e R s m args below meth c Z EL kn own T h ss cells slots) (me : Me p meth c nm bytes maxL ret) {x y : Int64} (hd : decode bytes pc = .ok (.lcmp, 1))  (F : Fi p e below s Z EL kc ks P T (mkF m (pc + 1) Ls (.int (XT.cmpL x y) :: st))) : Fi p e below s Z EL kc ks P T (mkF m pc Ls (.long y :: .long x :: st)) :=
  F.step fun _ => XT.lcmp W.here me.x rfl (hb me.b hd) rfl
theorem Wk.i2l (W : Wk p l e R s m args below meth c Z EL kn own T h ss cells slots) (me : Me p meth c nm bytes maxL ret) {x : Int32} (hd : decode bytes pc = .ok (.i2l, 1))  (F : Fi p e below s Z EL kc ks P T (mkF m (pc + 1) Ls (.long x.toInt64 :: st))) : Fi p e below s Z EL kc ks P T (mkF m pc Ls (.int x :: st)) :=
  F.step fun _ => XT.i2l W.here me.x rfl (hb me.b hd) rfl
theorem Wk.l2i (W : Wk p l e R s m args below meth c Z EL kn own T h ss cells slots) (me : Me p meth c nm bytes maxL ret) {x : Int64} (hd : decode bytes pc = .ok (.l2i, 1))  (F : Fi p e below s Z EL kc ks P T (mkF m (pc + 1) Ls (.int x.toInt32 :: st))) : Fi p e below s Z EL kc ks P T (mkF m pc Ls (.long x :: st)) :=
  F.step fun _ => XT.l2i W.here me.x rfl (hb me.b hd) rfl
theorem Wk.i2b (W : Wk p l e R s m args below meth c Z EL kn own T h ss cells slots) (me : Me p meth c nm bytes maxL ret) {x : Int32} (hd : decode bytes pc = .ok (.i2b, 1))  (F : Fi p e below s Z EL kc ks P T (mkF m (pc + 1) Ls (.int x.toInt8.toInt32 :: st))) : Fi p e below s Z EL kc ks P T (mkF m pc Ls (.int x :: st)) :=
  F.step fun _ => XT.i2b W.here me.x rfl (hb me.b hd) rfl
theorem Wk.i2c (W : Wk p l e R s m args below meth c Z EL kn own T h ss cells slots) (me : Me p meth c nm bytes maxL ret) {x : Int32} (hd : decode bytes pc = .ok (.i2c, 1))  (F : Fi p e below s Z EL kc ks P T (mkF m (pc + 1) Ls (.int x.toUInt32.toUInt16.toUInt32.toInt32 :: st))) : Fi p e below s Z EL kc ks P T (mkF m pc Ls (.int x :: st)) :=
  F.step fun _ => XT.i2c W.here me.x rfl (hb me.b hd) rfl
theorem Wk.dup (W : Wk p l e R s m args below meth c Z EL kn own T h ss cells slots) (me : Me p meth c nm bytes maxL ret) {x : Value} (hd : decode bytes pc = .ok (.dup, 1)) (hc : x.category = 1) (F : Fi p e below s Z EL kc ks P T (mkF m (pc + 1) Ls (x :: x :: st))) : Fi p e below s Z EL kc ks P T (mkF m pc Ls (x :: st)) :=
  F.step fun _ => XS.dup W.here me.x rfl (hb me.b hd) rfl hc
theorem Wk.pop (W : Wk p l e R s m args below meth c Z EL kn own T h ss cells slots) (me : Me p meth c nm bytes maxL ret) {x : Value} (hd : decode bytes pc = .ok (.pop, 1)) (hc : x.category = 1) (F : Fi p e below s Z EL kc ks P T (mkF m (pc + 1) Ls st)) : Fi p e below s Z EL kc ks P T (mkF m pc Ls (x :: st)) :=
  F.step fun _ => XT.pop W.here me.x rfl (hb me.b hd) rfl hc
theorem Wk.dupX1 (W : Wk p l e R s m args below meth c Z EL kn own T h ss cells slots) (me : Me p meth c nm bytes maxL ret) {x y : Value} (hd : decode bytes pc = .ok (.dup_x1, 1)) (hc : x.category = 1) (hc' : y.category = 1) (F : Fi p e below s Z EL kc ks P T (mkF m (pc + 1) Ls (x :: y :: x :: st))) : Fi p e below s Z EL kc ks P T (mkF m pc Ls (x :: y :: st)) :=
  F.step fun _ => XT.dupX1 W.here me.x rfl (hb me.b hd) rfl hc hc'
theorem Wk.dup2 (W : Wk p l e R s m args below meth c Z EL kn own T h ss cells slots) (me : Me p meth c nm bytes maxL ret) {x y : Value} (hd : decode bytes pc = .ok (.dup2, 1)) (hc : x.category = 1) (hc' : y.category = 1) (F : Fi p e below s Z EL kc ks P T (mkF m (pc + 1) Ls (x :: y :: x :: y :: st))) : Fi p e below s Z EL kc ks P T (mkF m pc Ls (x :: y :: st)) :=
  F.step fun _ => XT.dup2 W.here me.x rfl (hb me.b hd) rfl hc hc'
theorem Wk.iinc (W : Wk p l e R s m args below meth c Z EL kn own T h ss cells slots) (me : Me p meth c nm bytes maxL ret) {k : Nat} {cst : Int} {x v : Int32} {l' : Array Slot} (hd : decode bytes pc = .ok (.iinc k cst, 3)) (hv : Int32.ofInt cst = v) (hl : Ls[k]? = some (.val (.int x))) (hl' : storeLocals Ls k (.int (x + v)) = some l') (F : Fi p e below s Z EL kc ks P T (mkF m (pc + 3) l' st)) : Fi p e below s Z EL kc ks P T (mkF m pc Ls st) :=
  F.step fun _ => XT.iincV W.here me.x rfl v (hb me.b hd) hv hl hl'
theorem Wk.goto (W : Wk p l e R s m args below meth c Z EL kn own T h ss cells slots) (me : Me p meth c nm bytes maxL ret) {o : Int} {pc' : Nat} (hd : decode bytes pc = .ok (.goto o, 3)) (ho : 0 ≤ (pc : Int) + o) (hp : ((pc : Int) + o).toNat = pc') (F : Fi p e below s Z EL kc ks P T (mkF m pc' Ls st)) : Fi p e below s Z EL kc ks P T (mkF m pc Ls st) :=
  F.step fun _ => XS.goto W.here me.x rfl rfl (hb me.b hd) ho hp
theorem Wk.ifY (W : Wk p l e R s m args below meth c Z EL kn own T h ss cells slots) (me : Me p meth c nm bytes maxL ret) {cd : ClassFile.Cond} {x : Int32} {o : Int} {pc' : Nat} (hd : decode bytes pc = .ok (.ifCond cd o, 3)) (hc : ifCond.holds cd x = true) (ho : 0 ≤ (pc : Int) + o) (hp : ((pc : Int) + o).toNat = pc') (F : Fi p e below s Z EL kc ks P T (mkF m pc' Ls st)) : Fi p e below s Z EL kc ks P T (mkF m pc Ls (.int x :: st)) :=
  F.step fun _ => XS.ifYes W.here me.x rfl rfl (hb me.b hd) rfl hc ho hp
theorem Wk.ifN (W : Wk p l e R s m args below meth c Z EL kn own T h ss cells slots) (me : Me p meth c nm bytes maxL ret) {cd : ClassFile.Cond} {x : Int32} {o : Int} (hd : decode bytes pc = .ok (.ifCond cd o, 3)) (hc : ifCond.holds cd x = false) (F : Fi p e below s Z EL kc ks P T (mkF m (pc + 3) Ls st)) : Fi p e below s Z EL kc ks P T (mkF m pc Ls (.int x :: st)) :=
  F.step fun _ => XS.ifNo W.here me.x rfl (hb me.b hd) rfl hc
theorem Wk.icY (W : Wk p l e R s m args below meth c Z EL kn own T h ss cells slots) (me : Me p meth c nm bytes maxL ret) {cd : ClassFile.Cond} {x y : Int32} {o : Int} {pc' : Nat} (hd : decode bytes pc = .ok (.if_icmp cd o, 3)) (hc : if_icmp.holds cd x y = true) (ho : 0 ≤ (pc : Int) + o) (hp : ((pc : Int) + o).toNat = pc') (F : Fi p e below s Z EL kc ks P T (mkF m pc' Ls st)) : Fi p e below s Z EL kc ks P T (mkF m pc Ls (.int y :: .int x :: st)) :=
  F.step fun _ => XS.icmpYes W.here me.x rfl rfl (hb me.b hd) rfl hc ho hp
theorem Wk.icN (W : Wk p l e R s m args below meth c Z EL kn own T h ss cells slots) (me : Me p meth c nm bytes maxL ret) {cd : ClassFile.Cond} {x y : Int32} {o : Int} (hd : decode bytes pc = .ok (.if_icmp cd o, 3)) (hc : if_icmp.holds cd x y = false) (F : Fi p e below s Z EL kc ks P T (mkF m (pc + 3) Ls st)) : Fi p e below s Z EL kc ks P T (mkF m pc Ls (.int y :: .int x :: st)) :=
  F.step fun _ => XS.icmpNo W.here me.x rfl (hb me.b hd) rfl hc
theorem Wk.ic_eq (W : Wk p l e R s m args below meth c Z EL kn own T h ss cells slots) (me : Me p meth c nm bytes maxL ret) {x y : Int32} {o : Int} {pc' : Nat} (hd : decode bytes pc = .ok (.if_icmp .eq o, 3)) (ho : 0 ≤ (pc : Int) + o) (hp : ((pc : Int) + o).toNat = pc') (F : x = y → Fi p e below s Z EL kc ks P T (mkF m pc' Ls st)) (G : ¬ x = y → Fi p e below s Z EL kc ks P T (mkF m (pc + 3) Ls st)) : Fi p e below s Z EL kc ks P T (mkF m pc Ls (.int y :: .int x :: st)) := by
  by_cases q : x = y
  · exact W.icY me hd (teq q).1 ho hp (F q)
  · exact W.icN me hd (feq (by first | exact q | exact Decidable.not_not.mp q)).1 (G (by first | exact q | exact Decidable.not_not.mp q))
theorem Wk.if_eq (W : Wk p l e R s m args below meth c Z EL kn own T h ss cells slots) (me : Me p meth c nm bytes maxL ret) {x : Int32} {o : Int} {pc' : Nat} (hd : decode bytes pc = .ok (.ifCond .eq o, 3)) (ho : 0 ≤ (pc : Int) + o) (hp : ((pc : Int) + o).toNat = pc') (F : x = 0 → Fi p e below s Z EL kc ks P T (mkF m pc' Ls st)) (G : ¬ x = 0 → Fi p e below s Z EL kc ks P T (mkF m (pc + 3) Ls st)) : Fi p e below s Z EL kc ks P T (mkF m pc Ls (.int x :: st)) := by
  by_cases q : x = 0
  · exact W.ifY me hd ((if0 _ _).trans (teq q).1) ho hp (F q)
  · exact W.ifN me hd ((if0 _ _).trans (feq (by first | exact q | exact Decidable.not_not.mp q)).1) (G (by first | exact q | exact Decidable.not_not.mp q))
theorem Wk.icY_eq (W : Wk p l e R s m args below meth c Z EL kn own T h ss cells slots) (me : Me p meth c nm bytes maxL ret) {x y : Int32} {o : Int} {pc' : Nat} (hd : decode bytes pc = .ok (.if_icmp .eq o, 3)) (q : x = y) (ho : 0 ≤ (pc : Int) + o) (hp : ((pc : Int) + o).toNat = pc') (F : Fi p e below s Z EL kc ks P T (mkF m pc' Ls st)) : Fi p e below s Z EL kc ks P T (mkF m pc Ls (.int y :: .int x :: st)) := W.icY me hd (teq q).1 ho hp F
theorem Wk.icN_eq (W : Wk p l e R s m args below meth c Z EL kn own T h ss cells slots) (me : Me p meth c nm bytes maxL ret) {x y : Int32} {o : Int} (hd : decode bytes pc = .ok (.if_icmp .eq o, 3)) (q : ¬ x = y) (F : Fi p e below s Z EL kc ks P T (mkF m (pc + 3) Ls st)) : Fi p e below s Z EL kc ks P T (mkF m pc Ls (.int y :: .int x :: st)) := W.icN me hd (feq q).1 F
theorem Wk.ifY_eq (W : Wk p l e R s m args below meth c Z EL kn own T h ss cells slots) (me : Me p meth c nm bytes maxL ret) {x : Int32} {o : Int} {pc' : Nat} (hd : decode bytes pc = .ok (.ifCond .eq o, 3)) (q : x = 0) (ho : 0 ≤ (pc : Int) + o) (hp : ((pc : Int) + o).toNat = pc') (F : Fi p e below s Z EL kc ks P T (mkF m pc' Ls st)) : Fi p e below s Z EL kc ks P T (mkF m pc Ls (.int x :: st)) := W.ifY me hd ((if0 _ _).trans (teq q).1) ho hp F
theorem Wk.ifN_eq (W : Wk p l e R s m args below meth c Z EL kn own T h ss cells slots) (me : Me p meth c nm bytes maxL ret) {x : Int32} {o : Int} (hd : decode bytes pc = .ok (.ifCond .eq o, 3)) (q : ¬ x = 0) (F : Fi p e below s Z EL kc ks P T (mkF m (pc + 3) Ls st)) : Fi p e below s Z EL kc ks P T (mkF m pc Ls (.int x :: st)) := W.ifN me hd ((if0 _ _).trans (feq q).1) F
theorem Wk.ic_ne (W : Wk p l e R s m args below meth c Z EL kn own T h ss cells slots) (me : Me p meth c nm bytes maxL ret) {x y : Int32} {o : Int} {pc' : Nat} (hd : decode bytes pc = .ok (.if_icmp .ne o, 3)) (ho : 0 ≤ (pc : Int) + o) (hp : ((pc : Int) + o).toNat = pc') (F : ¬ x = y → Fi p e below s Z EL kc ks P T (mkF m pc' Ls st)) (G : x = y → Fi p e below s Z EL kc ks P T (mkF m (pc + 3) Ls st)) : Fi p e below s Z EL kc ks P T (mkF m pc Ls (.int y :: .int x :: st)) := by
  by_cases q : ¬ x = y
  · exact W.icY me hd (feq q).2 ho hp (F q)
  · exact W.icN me hd (teq (by first | exact q | exact Decidable.not_not.mp q)).2 (G (by first | exact q | exact Decidable.not_not.mp q))
theorem Wk.if_ne (W : Wk p l e R s m args below meth c Z EL kn own T h ss cells slots) (me : Me p meth c nm bytes maxL ret) {x : Int32} {o : Int} {pc' : Nat} (hd : decode bytes pc = .ok (.ifCond .ne o, 3)) (ho : 0 ≤ (pc : Int) + o) (hp : ((pc : Int) + o).toNat = pc') (F : ¬ x = 0 → Fi p e below s Z EL kc ks P T (mkF m pc' Ls st)) (G : x = 0 → Fi p e below s Z EL kc ks P T (mkF m (pc + 3) Ls st)) : Fi p e below s Z EL kc ks P T (mkF m pc Ls (.int x :: st)) := by
  by_cases q : ¬ x = 0
  · exact W.ifY me hd ((if0 _ _).trans (feq q).2) ho hp (F q)
  · exact W.ifN me hd ((if0 _ _).trans (teq (by first | exact q | exact Decidable.not_not.mp q)).2) (G (by first | exact q | exact Decidable.not_not.mp q))
theorem Wk.icY_ne (W : Wk p l e R s m args below meth c Z EL kn own T h ss cells slots) (me : Me p meth c nm bytes maxL ret) {x y : Int32} {o : Int} {pc' : Nat} (hd : decode bytes pc = .ok (.if_icmp .ne o, 3)) (q : ¬ x = y) (ho : 0 ≤ (pc : Int) + o) (hp : ((pc : Int) + o).toNat = pc') (F : Fi p e below s Z EL kc ks P T (mkF m pc' Ls st)) : Fi p e below s Z EL kc ks P T (mkF m pc Ls (.int y :: .int x :: st)) := W.icY me hd (feq q).2 ho hp F
theorem Wk.icN_ne (W : Wk p l e R s m args below meth c Z EL kn own T h ss cells slots) (me : Me p meth c nm bytes maxL ret) {x y : Int32} {o : Int} (hd : decode bytes pc = .ok (.if_icmp .ne o, 3)) (q : x = y) (F : Fi p e below s Z EL kc ks P T (mkF m (pc + 3) Ls st)) : Fi p e below s Z EL kc ks P T (mkF m pc Ls (.int y :: .int x :: st)) := W.icN me hd (teq q).2 F
theorem Wk.ifY_ne (W : Wk p l e R s m args below meth c Z EL kn own T h ss cells slots) (me : Me p meth c nm bytes maxL ret) {x : Int32} {o : Int} {pc' : Nat} (hd : decode bytes pc = .ok (.ifCond .ne o, 3)) (q : ¬ x = 0) (ho : 0 ≤ (pc : Int) + o) (hp : ((pc : Int) + o).toNat = pc') (F : Fi p e below s Z EL kc ks P T (mkF m pc' Ls st)) : Fi p e below s Z EL kc ks P T (mkF m pc Ls (.int x :: st)) := W.ifY me hd ((if0 _ _).trans (feq q).2) ho hp F
theorem Wk.ifN_ne (W : Wk p l e R s m args below meth c Z EL kn own T h ss cells slots) (me : Me p meth c nm bytes maxL ret) {x : Int32} {o : Int} (hd : decode bytes pc = .ok (.ifCond .ne o, 3)) (q : x = 0) (F : Fi p e below s Z EL kc ks P T (mkF m (pc + 3) Ls st)) : Fi p e below s Z EL kc ks P T (mkF m pc Ls (.int x :: st)) := W.ifN me hd ((if0 _ _).trans (teq q).2) F
theorem Wk.ic_lt (W : Wk p l e R s m args below meth c Z EL kn own T h ss cells slots) (me : Me p meth c nm bytes maxL ret) {x y : Int32} {o : Int} {pc' : Nat} (hd : decode bytes pc = .ok (.if_icmp .lt o, 3)) (ho : 0 ≤ (pc : Int) + o) (hp : ((pc : Int) + o).toNat = pc') (F : x < y → Fi p e below s Z EL kc ks P T (mkF m pc' Ls st)) (G : ¬ x < y → Fi p e below s Z EL kc ks P T (mkF m (pc + 3) Ls st)) : Fi p e below s Z EL kc ks P T (mkF m pc Ls (.int y :: .int x :: st)) := by
  by_cases q : x < y
  · exact W.icY me hd (tlt q).1 ho hp (F q)
  · exact W.icN me hd (flt (by first | exact q | exact Decidable.not_not.mp q)).1 (G (by first | exact q | exact Decidable.not_not.mp q))
theorem Wk.if_lt (W : Wk p l e R s m args below meth c Z EL kn own T h ss cells slots) (me : Me p meth c nm bytes maxL ret) {x : Int32} {o : Int} {pc' : Nat} (hd : decode bytes pc = .ok (.ifCond .lt o, 3)) (ho : 0 ≤ (pc : Int) + o) (hp : ((pc : Int) + o).toNat = pc') (F : x < 0 → Fi p e below s Z EL kc ks P T (mkF m pc' Ls st)) (G : ¬ x < 0 → Fi p e below s Z EL kc ks P T (mkF m (pc + 3) Ls st)) : Fi p e below s Z EL kc ks P T (mkF m pc Ls (.int x :: st)) := by
  by_cases q : x < 0
  · exact W.ifY me hd ((if0 _ _).trans (tlt q).1) ho hp (F q)
  · exact W.ifN me hd ((if0 _ _).trans (flt (by first | exact q | exact Decidable.not_not.mp q)).1) (G (by first | exact q | exact Decidable.not_not.mp q))
theorem Wk.icY_lt (W : Wk p l e R s m args below meth c Z EL kn own T h ss cells slots) (me : Me p meth c nm bytes maxL ret) {x y : Int32} {o : Int} {pc' : Nat} (hd : decode bytes pc = .ok (.if_icmp .lt o, 3)) (q : x < y) (ho : 0 ≤ (pc : Int) + o) (hp : ((pc : Int) + o).toNat = pc') (F : Fi p e below s Z EL kc ks P T (mkF m pc' Ls st)) : Fi p e below s Z EL kc ks P T (mkF m pc Ls (.int y :: .int x :: st)) := W.icY me hd (tlt q).1 ho hp F
theorem Wk.icN_lt (W : Wk p l e R s m args below meth c Z EL kn own T h ss cells slots) (me : Me p meth c nm bytes maxL ret) {x y : Int32} {o : Int} (hd : decode bytes pc = .ok (.if_icmp .lt o, 3)) (q : ¬ x < y) (F : Fi p e below s Z EL kc ks P T (mkF m (pc + 3) Ls st)) : Fi p e below s Z EL kc ks P T (mkF m pc Ls (.int y :: .int x :: st)) := W.icN me hd (flt q).1 F
theorem Wk.ifY_lt (W : Wk p l e R s m args below meth c Z EL kn own T h ss cells slots) (me : Me p meth c nm bytes maxL ret) {x : Int32} {o : Int} {pc' : Nat} (hd : decode bytes pc = .ok (.ifCond .lt o, 3)) (q : x < 0) (ho : 0 ≤ (pc : Int) + o) (hp : ((pc : Int) + o).toNat = pc') (F : Fi p e below s Z EL kc ks P T (mkF m pc' Ls st)) : Fi p e below s Z EL kc ks P T (mkF m pc Ls (.int x :: st)) := W.ifY me hd ((if0 _ _).trans (tlt q).1) ho hp F
theorem Wk.ifN_lt (W : Wk p l e R s m args below meth c Z EL kn own T h ss cells slots) (me : Me p meth c nm bytes maxL ret) {x : Int32} {o : Int} (hd : decode bytes pc = .ok (.ifCond .lt o, 3)) (q : ¬ x < 0) (F : Fi p e below s Z EL kc ks P T (mkF m (pc + 3) Ls st)) : Fi p e below s Z EL kc ks P T (mkF m pc Ls (.int x :: st)) := W.ifN me hd ((if0 _ _).trans (flt q).1) F
theorem Wk.ic_ge (W : Wk p l e R s m args below meth c Z EL kn own T h ss cells slots) (me : Me p meth c nm bytes maxL ret) {x y : Int32} {o : Int} {pc' : Nat} (hd : decode bytes pc = .ok (.if_icmp .ge o, 3)) (ho : 0 ≤ (pc : Int) + o) (hp : ((pc : Int) + o).toNat = pc') (F : ¬ x < y → Fi p e below s Z EL kc ks P T (mkF m pc' Ls st)) (G : x < y → Fi p e below s Z EL kc ks P T (mkF m (pc + 3) Ls st)) : Fi p e below s Z EL kc ks P T (mkF m pc Ls (.int y :: .int x :: st)) := by
  by_cases q : ¬ x < y
  · exact W.icY me hd (flt q).2.1 ho hp (F q)
  · exact W.icN me hd (tlt (by first | exact q | exact Decidable.not_not.mp q)).2.1 (G (by first | exact q | exact Decidable.not_not.mp q))
theorem Wk.if_ge (W : Wk p l e R s m args below meth c Z EL kn own T h ss cells slots) (me : Me p meth c nm bytes maxL ret) {x : Int32} {o : Int} {pc' : Nat} (hd : decode bytes pc = .ok (.ifCond .ge o, 3)) (ho : 0 ≤ (pc : Int) + o) (hp : ((pc : Int) + o).toNat = pc') (F : ¬ x < 0 → Fi p e below s Z EL kc ks P T (mkF m pc' Ls st)) (G : x < 0 → Fi p e below s Z EL kc ks P T (mkF m (pc + 3) Ls st)) : Fi p e below s Z EL kc ks P T (mkF m pc Ls (.int x :: st)) := by
  by_cases q : ¬ x < 0
  · exact W.ifY me hd ((if0 _ _).trans (flt q).2.1) ho hp (F q)
  · exact W.ifN me hd ((if0 _ _).trans (tlt (by first | exact q | exact Decidable.not_not.mp q)).2.1) (G (by first | exact q | exact Decidable.not_not.mp q))
theorem Wk.icY_ge (W : Wk p l e R s m args below meth c Z EL kn own T h ss cells slots) (me : Me p meth c nm bytes maxL ret) {x y : Int32} {o : Int} {pc' : Nat} (hd : decode bytes pc = .ok (.if_icmp .ge o, 3)) (q : ¬ x < y) (ho : 0 ≤ (pc : Int) + o) (hp : ((pc : Int) + o).toNat = pc') (F : Fi p e below s Z EL kc ks P T (mkF m pc' Ls st)) : Fi p e below s Z EL kc ks P T (mkF m pc Ls (.int y :: .int x :: st)) := W.icY me hd (flt q).2.1 ho hp F
theorem Wk.icN_ge (W : Wk p l e R s m args below meth c Z EL kn own T h ss cells slots) (me : Me p meth c nm bytes maxL ret) {x y : Int32} {o : Int} (hd : decode bytes pc = .ok (.if_icmp .ge o, 3)) (q : x < y) (F : Fi p e below s Z EL kc ks P T (mkF m (pc + 3) Ls st)) : Fi p e below s Z EL kc ks P T (mkF m pc Ls (.int y :: .int x :: st)) := W.icN me hd (tlt q).2.1 F
theorem Wk.ifY_ge (W : Wk p l e R s m args below meth c Z EL kn own T h ss cells slots) (me : Me p meth c nm bytes maxL ret) {x : Int32} {o : Int} {pc' : Nat} (hd : decode bytes pc = .ok (.ifCond .ge o, 3)) (q : ¬ x < 0) (ho : 0 ≤ (pc : Int) + o) (hp : ((pc : Int) + o).toNat = pc') (F : Fi p e below s Z EL kc ks P T (mkF m pc' Ls st)) : Fi p e below s Z EL kc ks P T (mkF m pc Ls (.int x :: st)) := W.ifY me hd ((if0 _ _).trans (flt q).2.1) ho hp F
theorem Wk.ifN_ge (W : Wk p l e R s m args below meth c Z EL kn own T h ss cells slots) (me : Me p meth c nm bytes maxL ret) {x : Int32} {o : Int} (hd : decode bytes pc = .ok (.ifCond .ge o, 3)) (q : x < 0) (F : Fi p e below s Z EL kc ks P T (mkF m (pc + 3) Ls st)) : Fi p e below s Z EL kc ks P T (mkF m pc Ls (.int x :: st)) := W.ifN me hd ((if0 _ _).trans (tlt q).2.1) F
theorem Wk.ic_gt (W : Wk p l e R s m args below meth c Z EL kn own T h ss cells slots) (me : Me p meth c nm bytes maxL ret) {x y : Int32} {o : Int} {pc' : Nat} (hd : decode bytes pc = .ok (.if_icmp .gt o, 3)) (ho : 0 ≤ (pc : Int) + o) (hp : ((pc : Int) + o).toNat = pc') (F : y < x → Fi p e below s Z EL kc ks P T (mkF m pc' Ls st)) (G : ¬ y < x → Fi p e below s Z EL kc ks P T (mkF m (pc + 3) Ls st)) : Fi p e below s Z EL kc ks P T (mkF m pc Ls (.int y :: .int x :: st)) := by
  by_cases q : y < x
  · exact W.icY me hd (tlt q).2.2.1 ho hp (F q)
  · exact W.icN me hd (flt (by first | exact q | exact Decidable.not_not.mp q)).2.2.1 (G (by first | exact q | exact Decidable.not_not.mp q))
theorem Wk.if_gt (W : Wk p l e R s m args below meth c Z EL kn own T h ss cells slots) (me : Me p meth c nm bytes maxL ret) {x : Int32} {o : Int} {pc' : Nat} (hd : decode bytes pc = .ok (.ifCond .gt o, 3)) (ho : 0 ≤ (pc : Int) + o) (hp : ((pc : Int) + o).toNat = pc') (F : 0 < x → Fi p e below s Z EL kc ks P T (mkF m pc' Ls st)) (G : ¬ 0 < x → Fi p e below s Z EL kc ks P T (mkF m (pc + 3) Ls st)) : Fi p e below s Z EL kc ks P T (mkF m pc Ls (.int x :: st)) := by
  by_cases q : 0 < x
  · exact W.ifY me hd ((if0 _ _).trans (tlt q).2.2.1) ho hp (F q)
  · exact W.ifN me hd ((if0 _ _).trans (flt (by first | exact q | exact Decidable.not_not.mp q)).2.2.1) (G (by first | exact q | exact Decidable.not_not.mp q))
theorem Wk.icY_gt (W : Wk p l e R s m args below meth c Z EL kn own T h ss cells slots) (me : Me p meth c nm bytes maxL ret) {x y : Int32} {o : Int} {pc' : Nat} (hd : decode bytes pc = .ok (.if_icmp .gt o, 3)) (q : y < x) (ho : 0 ≤ (pc : Int) + o) (hp : ((pc : Int) + o).toNat = pc') (F : Fi p e below s Z EL kc ks P T (mkF m pc' Ls st)) : Fi p e below s Z EL kc ks P T (mkF m pc Ls (.int y :: .int x :: st)) := W.icY me hd (tlt q).2.2.1 ho hp F
theorem Wk.icN_gt (W : Wk p l e R s m args below meth c Z EL kn own T h ss cells slots) (me : Me p meth c nm bytes maxL ret) {x y : Int32} {o : Int} (hd : decode bytes pc = .ok (.if_icmp .gt o, 3)) (q : ¬ y < x) (F : Fi p e below s Z EL kc ks P T (mkF m (pc + 3) Ls st)) : Fi p e below s Z EL kc ks P T (mkF m pc Ls (.int y :: .int x :: st)) := W.icN me hd (flt q).2.2.1 F
theorem Wk.ifY_gt (W : Wk p l e R s m args below meth c Z EL kn own T h ss cells slots) (me : Me p meth c nm bytes maxL ret) {x : Int32} {o : Int} {pc' : Nat} (hd : decode bytes pc = .ok (.ifCond .gt o, 3)) (q : 0 < x) (ho : 0 ≤ (pc : Int) + o) (hp : ((pc : Int) + o).toNat = pc') (F : Fi p e below s Z EL kc ks P T (mkF m pc' Ls st)) : Fi p e below s Z EL kc ks P T (mkF m pc Ls (.int x :: st)) := W.ifY me hd ((if0 _ _).trans (tlt q).2.2.1) ho hp F
theorem Wk.ifN_gt (W : Wk p l e R s m args below meth c Z EL kn own T h ss cells slots) (me : Me p meth c nm bytes maxL ret) {x : Int32} {o : Int} (hd : decode bytes pc = .ok (.ifCond .gt o, 3)) (q : ¬ 0 < x) (F : Fi p e below s Z EL kc ks P T (mkF m (pc + 3) Ls st)) : Fi p e below s Z EL kc ks P T (mkF m pc Ls (.int x :: st)) := W.ifN me hd ((if0 _ _).trans (flt q).2.2.1) F
theorem Wk.ic_le (W : Wk p l e R s m args below meth c Z EL kn own T h ss cells slots) (me : Me p meth c nm bytes maxL ret) {x y : Int32} {o : Int} {pc' : Nat} (hd : decode bytes pc = .ok (.if_icmp .le o, 3)) (ho : 0 ≤ (pc : Int) + o) (hp : ((pc : Int) + o).toNat = pc') (F : ¬ y < x → Fi p e below s Z EL kc ks P T (mkF m pc' Ls st)) (G : y < x → Fi p e below s Z EL kc ks P T (mkF m (pc + 3) Ls st)) : Fi p e below s Z EL kc ks P T (mkF m pc Ls (.int y :: .int x :: st)) := by
  by_cases q : ¬ y < x
  · exact W.icY me hd (flt q).2.2.2 ho hp (F q)
  · exact W.icN me hd (tlt (by first | exact q | exact Decidable.not_not.mp q)).2.2.2 (G (by first | exact q | exact Decidable.not_not.mp q))
theorem Wk.if_le (W : Wk p l e R s m args below meth c Z EL kn own T h ss cells slots) (me : Me p meth c nm bytes maxL ret) {x : Int32} {o : Int} {pc' : Nat} (hd : decode bytes pc = .ok (.ifCond .le o, 3)) (ho : 0 ≤ (pc : Int) + o) (hp : ((pc : Int) + o).toNat = pc') (F : ¬ 0 < x → Fi p e below s Z EL kc ks P T (mkF m pc' Ls st)) (G : 0 < x → Fi p e below s Z EL kc ks P T (mkF m (pc + 3) Ls st)) : Fi p e below s Z EL kc ks P T (mkF m pc Ls (.int x :: st)) := by
  by_cases q : ¬ 0 < x
  · exact W.ifY me hd ((if0 _ _).trans (flt q).2.2.2) ho hp (F q)
  · exact W.ifN me hd ((if0 _ _).trans (tlt (by first | exact q | exact Decidable.not_not.mp q)).2.2.2) (G (by first | exact q | exact Decidable.not_not.mp q))
theorem Wk.icY_le (W : Wk p l e R s m args below meth c Z EL kn own T h ss cells slots) (me : Me p meth c nm bytes maxL ret) {x y : Int32} {o : Int} {pc' : Nat} (hd : decode bytes pc = .ok (.if_icmp .le o, 3)) (q : ¬ y < x) (ho : 0 ≤ (pc : Int) + o) (hp : ((pc : Int) + o).toNat = pc') (F : Fi p e below s Z EL kc ks P T (mkF m pc' Ls st)) : Fi p e below s Z EL kc ks P T (mkF m pc Ls (.int y :: .int x :: st)) := W.icY me hd (flt q).2.2.2 ho hp F
theorem Wk.icN_le (W : Wk p l e R s m args below meth c Z EL kn own T h ss cells slots) (me : Me p meth c nm bytes maxL ret) {x y : Int32} {o : Int} (hd : decode bytes pc = .ok (.if_icmp .le o, 3)) (q : y < x) (F : Fi p e below s Z EL kc ks P T (mkF m (pc + 3) Ls st)) : Fi p e below s Z EL kc ks P T (mkF m pc Ls (.int y :: .int x :: st)) := W.icN me hd (tlt q).2.2.2 F
theorem Wk.ifY_le (W : Wk p l e R s m args below meth c Z EL kn own T h ss cells slots) (me : Me p meth c nm bytes maxL ret) {x : Int32} {o : Int} {pc' : Nat} (hd : decode bytes pc = .ok (.ifCond .le o, 3)) (q : ¬ 0 < x) (ho : 0 ≤ (pc : Int) + o) (hp : ((pc : Int) + o).toNat = pc') (F : Fi p e below s Z EL kc ks P T (mkF m pc' Ls st)) : Fi p e below s Z EL kc ks P T (mkF m pc Ls (.int x :: st)) := W.ifY me hd ((if0 _ _).trans (flt q).2.2.2) ho hp F
theorem Wk.ifN_le (W : Wk p l e R s m args below meth c Z EL kn own T h ss cells slots) (me : Me p meth c nm bytes maxL ret) {x : Int32} {o : Int} (hd : decode bytes pc = .ok (.ifCond .le o, 3)) (q : 0 < x) (F : Fi p e below s Z EL kc ks P T (mkF m (pc + 3) Ls st)) : Fi p e below s Z EL kc ks P T (mkF m pc Ls (.int x :: st)) := W.ifN me hd ((if0 _ _).trans (tlt q).2.2.2) F
theorem Wk.nullY (W : Wk p l e R s m args below meth c Z EL kn own T h ss cells slots) (me : Me p meth c nm bytes maxL ret) {o : Int} {pc' : Nat} (hd : decode bytes pc = .ok (.ifnull o, 3)) (ho : 0 ≤ (pc : Int) + o) (hp : ((pc : Int) + o).toNat = pc') (F : Fi p e below s Z EL kc ks P T (mkF m pc' Ls st)) : Fi p e below s Z EL kc ks P T (mkF m pc Ls (.null :: st)) :=
  F.step fun _ => XS.ifnullYes W.here me.x rfl rfl (hb me.b hd) rfl ho hp
theorem Wk.nullN (W : Wk p l e R s m args below meth c Z EL kn own T h ss cells slots) (me : Me p meth c nm bytes maxL ret) {o : Int} {b : Addr} (hd : decode bytes pc = .ok (.ifnull o, 3)) (F : Fi p e below s Z EL kc ks P T (mkF m (pc + 3) Ls st)) : Fi p e below s Z EL kc ks P T (mkF m pc Ls (.ref b :: st)) :=
  F.step fun _ => XS.ifnullNo W.here me.x rfl (hb me.b hd) rfl
theorem Wk.nonnullY (W : Wk p l e R s m args below meth c Z EL kn own T h ss cells slots) (me : Me p meth c nm bytes maxL ret) {o : Int} {b : Addr} {pc' : Nat} (hd : decode bytes pc = .ok (.ifnonnull o, 3)) (ho : 0 ≤ (pc : Int) + o) (hp : ((pc : Int) + o).toNat = pc') (F : Fi p e below s Z EL kc ks P T (mkF m pc' Ls st)) : Fi p e below s Z EL kc ks P T (mkF m pc Ls (.ref b :: st)) :=
  F.step fun _ => XT.ifnonnullYes W.here me.x rfl rfl (hb me.b hd) rfl ho hp
theorem Wk.nonnullN (W : Wk p l e R s m args below meth c Z EL kn own T h ss cells slots) (me : Me p meth c nm bytes maxL ret) {o : Int} (hd : decode bytes pc = .ok (.ifnonnull o, 3)) (F : Fi p e below s Z EL kc ks P T (mkF m (pc + 3) Ls st)) : Fi p e below s Z EL kc ks P T (mkF m pc Ls (.null :: st)) :=
  F.step fun _ => XT.ifnonnullNo W.here me.x rfl (hb me.b hd) rfl
theorem Wk.acY (W : Wk p l e R s m args below meth c Z EL kn own T h ss cells slots) (me : Me p meth c nm bytes maxL ret) {cd : ClassFile.ACond} {x y : Value} {o : Int} {pc' : Nat} (hd : decode bytes pc = .ok (.if_acmp cd o, 3)) (hx : x.isRef = true) (hy : y.isRef = true) (hc : XT.acmp cd x y = true) (ho : 0 ≤ (pc : Int) + o) (hp : ((pc : Int) + o).toNat = pc') (F : Fi p e below s Z EL kc ks P T (mkF m pc' Ls st)) : Fi p e below s Z EL kc ks P T (mkF m pc Ls (y :: x :: st)) :=
  F.step fun _ => XT.acmpYes W.here me.x rfl rfl (hb me.b hd) rfl hx hy hc ho hp
theorem Wk.acN (W : Wk p l e R s m args below meth c Z EL kn own T h ss cells slots) (me : Me p meth c nm bytes maxL ret) {cd : ClassFile.ACond} {x y : Value} {o : Int} (hd : decode bytes pc = .ok (.if_acmp cd o, 3)) (hx : x.isRef = true) (hy : y.isRef = true) (hc : XT.acmp cd x y = false) (F : Fi p e below s Z EL kc ks P T (mkF m (pc + 3) Ls st)) : Fi p e below s Z EL kc ks P T (mkF m pc Ls (y :: x :: st)) :=
  F.step fun _ => XT.acmpNo W.here me.x rfl (hb me.b hd) rfl hx hy hc
end Steps2
end Jvm.OwnKit
namespace Jvm.OwnKit
open Jvm Jvm.ClassFile Sem Op Lib Jvm.Free Jvm.Stand Jvm.LawKit Jvm.RoadKit Bundle
section Steps3
variable {p : Program} {l : Launch} {e : Env} {R : Room} {s : State} {m : MethodId} {args : Array Value} {below : List Frame} {meth : Method} {c : Code} {Z : State} {a0 : Array Value} {EL : List (String × Nat)} {kn : Bool} {own : String}
  {T : State} {h h' h2 : Heap} {ss : List Addr} {cells slots : Nat} {nm : String} {bytes : ByteArray} {maxL : Nat} {ret : Option FieldType} {kc ks : Nat} {P : Option Value → Heap → (Addr → Prop) → Prop} {pc : Nat} {Ls : Array Slot} {st : List Value}
theorem own_xr (h : Heap) : Ext h h := ⟨Nat.le_refl _, fun _ _ q => q⟩
theorem own_xt (E : Ext h h') (F : Ext h' h2) : Ext h h2 := ⟨Nat.le_trans E.1 F.1, fun a c q => F.2 a c (E.2 a c q)⟩
theorem own_xw {a : Addr} {sl : Nat} {v : Value} (E : Ext h h') (q : h.size ≤ a) (W : Wr h' h2 a sl v) : Ext h h2 := by
  refine ⟨by rw [W.size]; exact E.1, fun b cb hb => ?_⟩
  obtain ⟨c0, -, -, -, rfl⟩ := W
  have hne : a ≠ b := by
    intro z
    subst z
    have := (Array.getElem?_eq_some_iff.mp hb).1
    omega
  rw [Array.getElem?_setIfInBounds_ne hne]; exact E.2 _ _ hb
theorem own_xk {ws : List Addr} (E : Ext h h') (K : Keep h' h2 ws) (q : ∀ x ∈ ws, h.size ≤ x) : Ext h h2 :=
  ⟨Nat.le_trans E.1 K.1, fun b cb hb => K.2.1 b cb (E.2 b cb hb) fun z => by have := (Array.getElem?_eq_some_iff.mp hb).1; have := q b z; omega⟩
theorem own_le {a b : Nat} (q : Nat.ble a b = true) : a ≤ b := Nat.le_of_ble_eq_true q
theorem own_lt {a b : Nat} (q : a < b) : a < b := q
theorem own_ge {a b : Nat} (q : a ≤ b) : a ≤ b := q
theorem own_ne {a b : Nat} (q : a < b) : a ≠ b := Nat.ne_of_lt q
theorem own_en {a b : Nat} (q : a < b) : b ≠ a := (Nat.ne_of_lt q).symm
theorem own_xK (E : Ext h h') (ws : List Addr) : Keep h h' ws := ⟨E.1, fun x c q _ => E.2 x c q, fun x c q => ⟨c, E.2 x c q, rfl, rfl, rfl⟩⟩
theorem Sf.safe {a : Addr} {vm0 : Vm} (hal : Z.vm.Alike vm0) (S : Sf Z h ss a) (hss : ∀ x ∈ ss, x < h.size ∧ Safe Z EL vm0 h x) : Safe Z EL vm0 h a := by
  rcases S with q | ⟨C, E, h1, h2⟩ | ⟨cl, ty, A, ht⟩
  · exact (hss a q).2
  · exact Safe.exa hal E h1 h2
  · exact Safe.arr hal A ht
/-- a step that moves no heap -/
theorem Wk.quiet {g g' : JFrame} (W : Wk p l e R s m args below meth c Z EL kn own T h ss cells slots)
    (law : ∀ {vm0 : Vm} {locs : List Loc}, Stand p l e R (s.setVm vm0) m args below meth c T locs cells slots → Z.Warmed39 vm0 → vm0.findClass own = some m.cls → ∃ T', Stand p l e R (s.setVm vm0) m args below meth c T' locs cells slots ∧ T'.heap = h ∧ ∀ target, Steps p.tables e below (T'.setTop g') target → Steps p.tables e below (T.setTop g) target)
    (F : ∀ T', Wk p l e R s m args below meth c Z EL kn own T' h ss cells slots → Fi p e below s Z EL kc ks P T' g') : Fi p e below s Z EL kc ks P T g := by
  obtain ⟨vm0, locs, k0, X, eT, hZ, hS, hk, hown, N, O, C, hss, hK⟩ := W
  obtain ⟨T', X', e', st⟩ := law X hZ hown
  exact (F T' ⟨vm0, locs, k0, X', e', hZ, hS, hk, hown, N, O, C, hss, hK⟩).step st
/-- a step that only makes cells -/
theorem Wk.grows {g g' : JFrame} {k n : Nat} {Q : State → Heap → Prop} (W : Wk p l e R s m args below meth c Z EL kn own T h ss cells slots)
    (law : ∀ {vm0 : Vm} {locs : List Loc}, Stand p l e R (s.setVm vm0) m args below meth c T locs cells slots → Z.Warmed39 vm0 → vm0.findClass own = some m.cls → ∃ T' h', Stand p l e R (s.setVm vm0) m args below meth c T' locs (cells + k) (slots + n) ∧ T'.heap = h' ∧ Ext h h' ∧ (h.size < h'.size) ∧ Q T' h' ∧ ∀ target, Steps p.tables e below (T'.setTop g') target → Steps p.tables e below (T.setTop g) target)
    (F : ∀ T' h', Wk p l e R s m args below meth c Z EL kn own T' h' (h.size :: ss) (cells + k) (slots + n) → Ext h h' → Q T' h' → Fi p e below s Z EL kc ks P T' g') : Fi p e below s Z EL kc ks P T g := by
  obtain ⟨vm0, locs, k0, X, eT, hZ, hS, hk, hown, N, O, C, hss, hK⟩ := W
  obtain ⟨T', h', X', e', E, hlt, q, st⟩ := law X hZ hown
  have C2 := CHr.ext E C.1
  refine (F T' h' ⟨vm0, locs, k0, X', e', hZ, hS, Nat.le_trans hk E.1, hown, N, O.ext E, C.trans C2, fun x hx => ?_, hK⟩ E q).step st
  rcases List.mem_cons.mp hx with rfl | hx
  · exact ⟨hlt, Safe.ext E C.1 (Safe.new (Nat.le_refl _))⟩
  · exact ⟨Nat.lt_of_lt_of_le (hss x hx).1 E.1, Safe.ext E C.1 (hss x hx).2⟩
/-- a step that writes one place -/
theorem Wk.writes {g g' : JFrame} {a : Addr} {sl : Nat} {v : Value} (W : Wk p l e R s m args below meth c Z EL kn own T h ss cells slots) (hS : Sf Z h ss a) (hn : Z.heap.size ≤ a)
    (law : ∀ {vm0 : Vm} {locs : List Loc}, Stand p l e R (s.setVm vm0) m args below meth c T locs cells slots → Z.Warmed39 vm0 → vm0.findClass own = some m.cls → ∃ T' h', Stand p l e R (s.setVm vm0) m args below meth c T' (locs ++ [⟨a, sl⟩]) cells slots ∧ T'.heap = h' ∧ Wr h h' a sl v ∧ ∀ target, Steps p.tables e below (T'.setTop g') target → Steps p.tables e below (T.setTop g) target)
    (F : ∀ T' h', Wk p l e R s m args below meth c Z EL kn own T' h' ss cells slots → Wr h h' a sl v → Fi p e below s Z EL kc ks P T' g') : Fi p e below s Z EL kc ks P T g := by
  obtain ⟨vm0, locs, k0, X, eT, hZ, hSi, hk, hown, N, O, C, hss, hK⟩ := W
  obtain ⟨T', h', X', e', q, st⟩ := law X hZ hown
  have S0 := hS.safe hZ.alike hss
  have C2 := CHr.wr q S0 C.1
  exact (F T' h' ⟨vm0, _, k0, X', e', hZ, hSi, by rw [q.size]; exact hk, hown, Fr.snoc X' N hn, O.wr q hn, C.trans C2, fun x hx => ⟨by rw [q.size]; exact (hss x hx).1, Safe.wr q S0 C.1 (hss x hx).2⟩, hK⟩ q).step st
section Fields
variable {R0 O n d C : String} {index kk : Nat} {a : Addr} {v old : Value} {ty : FieldType}
theorem Wk.getF (W : Wk p l e R s m args below meth c Z EL kn own T h ss cells slots) (me : Me p meth c nm bytes maxL ret) (w : (Cond.fieldLink own index R0 n d).before a0 Z = true) (F : Fld Z h a O n d v) (via : Via Z R0 O n d) (hd : decode bytes pc = .ok (.getfield index, 3))
    (k : ∀ T', Wk p l e R s m args below meth c Z EL kn own T' h ss cells slots → Fi p e below s Z EL kc ks P T' (mkF m (pc + 3) Ls (v :: st))) : Fi p e below s Z EL kc ks P T (mkF m pc Ls (.ref a :: st)) :=
  W.quiet (fun X hZ hown => Jvm.RoadKit.getF X me.x hZ hown (host := "") (Or.inl w) via W.heap F rfl rfl (hb me.b hd)) k
theorem Wk.getS (W : Wk p l e R s m args below meth c Z EL kn own T h ss cells slots) (me : Me p meth c nm bytes maxL ret) (w : (Cond.fieldLink own index R0 n d).before a0 Z = true) (F : Sta Z Z.heap O n d v) (via : Via Z R0 O n d) (hd : decode bytes pc = .ok (.getstatic index, 3))
    (k : ∀ T', Wk p l e R s m args below meth c Z EL kn own T' h ss cells slots → Fi p e below s Z EL kc ks P T' (mkF m (pc + 3) Ls (v :: st))) : Fi p e below s Z EL kc ks P T (mkF m pc Ls st) :=
  W.quiet (fun X hZ hown => Jvm.RoadKit.getS X me.x hZ hown (host := "") w via W.heap (F.ext W.old.2) rfl (hb me.b hd)) k
theorem Wk.putF (W : Wk p l e R s m args below meth c Z EL kn own T h ss cells slots) (me : Me p meth c nm bytes maxL ret) (w : (Cond.fieldLink own index R0 n d).before a0 Z = true) (F : Fld Z h a O n d old) (via : Via Z R0 O n d) (E : Exa Z h a C)
    (L : (Cond.lays C O n d).before a0 Z = true ∨ ((Cond.laysFinal C O n d).before a0 Z = true ∧ own = O ∧ nm = "<init>")) (wi : (Cond.instantiable C kk).before a0 Z = true) (hty : parseFieldDescriptor d = some ty) (hn : narrow ty v = v) (hf : fits ty v = true) (hS : Sf Z h ss a) (hz : Z.heap.size ≤ a)
    (hd : decode bytes pc = .ok (.putfield index, 3))
    (k : ∀ T' h', Wk p l e R s m args below meth c Z EL kn own T' h' ss cells slots → Wr h h' a (Jvm.RoadKit.slotOf Z O n d) v → Fi p e below s Z EL kc ks P T' (mkF m (pc + 3) Ls st)) : Fi p e below s Z EL kc ks P T (mkF m pc Ls (v :: .ref a :: st)) :=
  W.writes hS hz (fun X hZ hown => Jvm.RoadKit.putF X me.x hZ hown (host := "") (Or.inl w) via W.heap F E (L.imp id fun q => ⟨q.1, q.2.1, me.n.trans q.2.2⟩) wi hty hn hf rfl rfl (hb me.b hd)) k
theorem Wk.newO (W : Wk p l e R s m args below meth c Z EL kn own T h ss cells slots) (me : Me p meth c nm bytes maxL ret) (w : (Cond.classLink own index C).before a0 Z = true) (wi : (Cond.instantiable C kk).before a0 Z = true) (wz : (Cond.initialized C).before a0 Z = true) (hd : decode bytes pc = .ok (.new index, 3)) (hc : cells + 1 ≤ R.cells) (hl : slots + kk ≤ R.slots)
    (k : ∀ T' h' a, @Eq Nat h.size a → Wk p l e R s m args below meth c Z EL kn own T' h' (a :: ss) (cells + 1) (slots + kk) → Ext h h' → Exa Z h' a C → (∀ {O nm d : String} {ty : FieldType}, Laid Z a0 C O nm d → parseFieldDescriptor d = some ty → Fld Z h' a O nm d (defaultValue ty)) → (∃ cell : Cell, h'[a]? = some cell ∧ cell.vm = .none ∧ cell.monitor = {}) →
      Fi p e below s Z EL kc ks P T' (mkF m (pc + 3) Ls (.ref a :: st))) : Fi p e below s Z EL kc ks P T (mkF m pc Ls st) :=
  W.grows (k := 1) (n := kk) (Q := fun _ h' => Exa Z h' h.size C ∧ (∀ {O nm d : String} {ty : FieldType}, Laid Z a0 C O nm d → parseFieldDescriptor d = some ty → Fld Z h' h.size O nm d (defaultValue ty)) ∧ (∃ cell : Cell, h'[h.size]? = some cell ∧ cell.vm = .none ∧ cell.monitor = {}))
    (fun X hZ hown => by
      obtain ⟨T', h', X', e', E, A, D, U, st⟩ := Jvm.RoadKit.newO X me.x hZ hown w wi wz W.heap (g := mkF m pc Ls st) rfl (hb me.b hd) hc hl
      exact ⟨T', h', X', e', E, A.lt, ⟨A, D, U⟩, st⟩)
    (fun T' h' W' E q => k T' h' h.size rfl W' E q.1 q.2.1 q.2.2)
end Fields
section Arrays
variable {a : Addr} {n j x : Int32} {ka : ClassId} {vs : List Value} {dv : Value}
theorem Wk.newA {aty : ArrayType} {cap : Nat} (W : Wk p l e R s m args below meth c Z EL kn own T h ss cells slots) (me : Me p meth c nm bytes maxL ret) (w : (Cond.arrayClass (newarray.typeOf aty)).before a0 Z = true) (hd : decode bytes pc = .ok (.newarray aty, 2)) (hn : ¬ n < 0) (hcap : n.toNatClampNeg ≤ cap) (hbig : cap * 8 ≤ 536870912) (hc : cells + 1 ≤ R.cells) (hl : slots + cap ≤ R.slots)
    (k : ∀ T' h' a ka, @Eq Nat h.size a → Wk p l e R s m args below meth c Z EL kn own T' h' (a :: ss) (cells + 1) (slots + cap) → Ext h h' → Arv Z h' a ka (newarray.typeOf aty) n [] (defaultValue (newarray.typeOf aty)) → Fi p e below s Z EL kc ks P T' (mkF m (pc + 2) Ls (.ref a :: st))) : Fi p e below s Z EL kc ks P T (mkF m pc Ls (.int n :: st)) :=
  W.grows (k := 1) (n := cap) (Q := fun _ h' => ∃ ka, Arv Z h' h.size ka (newarray.typeOf aty) n [] (defaultValue (newarray.typeOf aty)))
    (fun X hZ hown => by
      obtain ⟨T', h', cA, X', e', E, A, st⟩ := Jvm.RoadKit.newP X me.x hZ w W.heap (g := mkF m pc Ls (.int n :: st)) rfl (hb me.b hd) rfl hn hcap hbig hc hl
      exact ⟨T', h', X', e', E, A.lt, ⟨cA, Arv.new A hn⟩, st⟩)
    (fun T' h' W' E q => by obtain ⟨ka, A⟩ := q; exact k T' h' h.size ka rfl W' E A)
/-- castore at place i of an array whose places are told -/
theorem Wk.castore {i : Nat} (W : Wk p l e R s m args below meth c Z EL kn own T h ss cells slots) (me : Me p meth c nm bytes maxL ret) (A : Arv Z h a ka .char n vs dv) (hd : decode bytes pc = .ok (.castore, 1)) (hj : ¬ j < 0 ∧ j < n) (hi : j.toNatClampNeg = i) (hv : i < vs.length) (hz : Z.heap.size ≤ a)
    (k : ∀ T' h', Wk p l e R s m args below meth c Z EL kn own T' h' ss cells slots → Wr h h' a i (.int (nar .char x)) → Arv Z h' a ka .char n (vs.set i (.int (nar .char x))) dv → Fi p e below s Z EL kc ks P T' (mkF m (pc + 1) Ls st)) : Fi p e below s Z EL kc ks P T (mkF m pc Ls (.int x :: .int j :: .ref a :: st)) := by
  obtain ⟨cl, A1, q, S, M, H, U⟩ := A
  subst hi
  exact W.writes (Or.inr (Or.inr ⟨cl, .char, A1, by decide⟩)) hz (fun X hZ _ => Jvm.RoadKit.stC X me.x hZ W.heap A1 (inb_of S hj) rfl rfl (hb me.b hd))
    (fun T' h' W' q' => k T' h' W' q' (Arv.set A1 q S M H U (fits_nar_char _) q' _ rfl hv))
theorem Wk.bastore {i : Nat} (W : Wk p l e R s m args below meth c Z EL kn own T h ss cells slots) (me : Me p meth c nm bytes maxL ret) (A : Arv Z h a ka .byte n vs dv) (hd : decode bytes pc = .ok (.bastore, 1)) (hj : ¬ j < 0 ∧ j < n) (hi : j.toNatClampNeg = i) (hv : i < vs.length) (hS : a ∈ ss) (hz : Z.heap.size ≤ a)
    (k : ∀ T' h', Wk p l e R s m args below meth c Z EL kn own T' h' ss cells slots → Wr h h' a i (.int (nar .byte x)) → Arv Z h' a ka .byte n (vs.set i (.int (nar .byte x))) dv → Fi p e below s Z EL kc ks P T' (mkF m (pc + 1) Ls st)) : Fi p e below s Z EL kc ks P T (mkF m pc Ls (.int x :: .int j :: .ref a :: st)) := by
  obtain ⟨cl, A1, q, S, M, H, U⟩ := A
  subst hi
  exact W.writes (Or.inl hS) hz (fun X hZ _ => Jvm.RoadKit.stB X me.x hZ W.heap A1 (inb_of S hj) rfl rfl (hb me.b hd))
    (fun T' h' W' q' => k T' h' W' q' (Arv.set A1 q S M H U (fits_nar_byte _) q' _ rfl hv))
theorem Wk.caload {v : Value} (W : Wk p l e R s m args below meth c Z EL kn own T h ss cells slots) (me : Me p meth c nm bytes maxL ret) (A : Arv Z h a ka .char n vs dv) (hd : decode bytes pc = .ok (.caload, 1)) (hj : ¬ j < 0 ∧ j < n) (hv : vs.getD j.toNatClampNeg dv = v)
    (F : Fi p e below s Z EL kc ks P T (mkF m (pc + 1) Ls (v :: st))) : Fi p e below s Z EL kc ks P T (mkF m pc Ls (.int j :: .ref a :: st)) := by
  obtain ⟨cl, A1, q, S, M, H, U⟩ := A
  obtain ⟨vm0, locs, k0, X, eT, hZ, -⟩ := W
  exact F.step fun t F' => X.caload me.x (by rw [eT]; exact A1.1) (State.isArrayOf_alike (s := Z) (T := s.setVm vm0) hZ.alike A1.2.1) A1.2.2 (inb_of S hj) (H.at (inb_of S hj) hv) (g := mkF m pc Ls (.int j :: .ref a :: st)) rfl rfl (hb me.b hd) t F'
theorem Wk.baload {v : Value} (W : Wk p l e R s m args below meth c Z EL kn own T h ss cells slots) (me : Me p meth c nm bytes maxL ret) (A : Arv Z h a ka .byte n vs dv) (hd : decode bytes pc = .ok (.baload, 1)) (hj : ¬ j < 0 ∧ j < n) (hv : vs.getD j.toNatClampNeg dv = v)
    (F : Fi p e below s Z EL kc ks P T (mkF m (pc + 1) Ls (v :: st))) : Fi p e below s Z EL kc ks P T (mkF m pc Ls (.int j :: .ref a :: st)) := by
  obtain ⟨cl, A1, q, S, M, H, U⟩ := A
  obtain ⟨vm0, locs, k0, X, eT, hZ, -⟩ := W
  exact F.step fun t F' => X.baloadBytes me.x (by rw [eT]; exact A1.1) (State.isArrayOf_alike (s := Z) (T := s.setVm vm0) hZ.alike A1.2.1) A1.2.2 (inb_of S hj) (H.at (inb_of S hj) hv) (g := mkF m pc Ls (.int j :: .ref a :: st)) rfl rfl (hb me.b hd) t F'
theorem Wk.alen {ty : FieldType} (W : Wk p l e R s m args below meth c Z EL kn own T h ss cells slots) (me : Me p meth c nm bytes maxL ret) (A : Arv Z h a ka ty n vs dv) (hd : decode bytes pc = .ok (.arraylength, 1))
    (F : Fi p e below s Z EL kc ks P T (mkF m (pc + 1) Ls (.int n :: st))) : Fi p e below s Z EL kc ks P T (mkF m pc Ls (.ref a :: st)) := by
  obtain ⟨cl, A1, q, S, M, H, U⟩ := A
  obtain ⟨vm0, locs, k0, X, eT, hZ, -⟩ := W
  exact F.step fun t F' => X.arraylength me.x (by rw [eT]; exact A1.1) (State.isArrayOf_alike (s := Z) (T := s.setVm vm0) hZ.alike A1.2.1) (g := mkF m pc Ls (.ref a :: st)) rfl rfl (hb me.b hd) t (by rw [len_of S M]; exact F')
end Arrays
section Consts
variable {index : Nat}
theorem Wk.ldc2J {v : Int64} (W : Wk p l e R s m args below meth c Z EL kn own T h ss cells slots) (me : Me p meth c nm bytes maxL ret) (w : (Cond.constantLong own index v).before a0 Z = true) (hd : decode bytes pc = .ok (.ldc2_w index, 3))
    (F : Fi p e below s Z EL kc ks P T (mkF m (pc + 3) Ls (.long v :: st))) : Fi p e below s Z EL kc ks P T (mkF m pc Ls st) := by
  obtain ⟨vm0, locs, k0, X, eT, hZ, -, -, hown, -⟩ := W
  exact F.step fun t F' => X.ldc2Long me.x hown (mvT (s := s.setVm vm0) hZ w) (g := mkF m pc Ls st) rfl (hb me.b hd) t F'
theorem Wk.ldcI {v : Int32} (W : Wk p l e R s m args below meth c Z EL kn own T h ss cells slots) (me : Me p meth c nm bytes maxL ret) (w : (Cond.constant own index v).before a0 Z = true) (hd : decode bytes pc = .ok (.ldc index, 2))
    (F : Fi p e below s Z EL kc ks P T (mkF m (pc + 2) Ls (.int v :: st))) : Fi p e below s Z EL kc ks P T (mkF m pc Ls st) := by
  obtain ⟨vm0, locs, k0, X, eT, hZ, -, -, hown, -⟩ := W
  exact F.step fun t F' => X.ldcInt me.x hown (mvT (s := s.setVm vm0) hZ w) (g := mkF m pc Ls st) rfl (hb me.b hd) t F'
theorem Wk.cast {K : String} {a : Addr} (W : Wk p l e R s m args below meth c Z EL kn own T h ss cells slots) (me : Me p meth c nm bytes maxL ret) (w : (Cond.classLink own index K).before a0 Z = true) (I : Ins Z h a K true) (hd : decode bytes pc = .ok (.checkcast index, 3))
    (k : ∀ T', Wk p l e R s m args below meth c Z EL kn own T' h ss cells slots → Fi p e below s Z EL kc ks P T' (mkF m (pc + 3) Ls (.ref a :: st))) : Fi p e below s Z EL kc ks P T (mkF m pc Ls (.ref a :: st)) :=
  W.quiet (fun X hZ hown => Jvm.RoadKit.castY X me.x hZ hown w W.heap I rfl rfl (hb me.b hd)) k
theorem Wk.instY {K : String} {a : Addr} (W : Wk p l e R s m args below meth c Z EL kn own T h ss cells slots) (me : Me p meth c nm bytes maxL ret) (w : (Cond.classLink own index K).before a0 Z = true) (I : Ins Z h a K true) (hd : decode bytes pc = .ok (.instanceof index, 3))
    (k : ∀ T', Wk p l e R s m args below meth c Z EL kn own T' h ss cells slots → Fi p e below s Z EL kc ks P T' (mkF m (pc + 3) Ls (.int 1 :: st))) : Fi p e below s Z EL kc ks P T (mkF m pc Ls (.ref a :: st)) :=
  W.quiet (fun X hZ hown => Jvm.RoadKit.instY X me.x hZ hown w W.heap I rfl rfl (hb me.b hd)) k
theorem Wk.initO {a : Addr} (W : Wk p l e R s m args below meth c Z EL kn own T h ss cells slots) (me : Me p meth c nm bytes maxL ret) (w1 : (Cond.methodLink own index Lib.objectInit).before a0 Z = true) (w2 : (Cond.instanceMethod Lib.objectInit).before a0 Z = true) (w3 : (Cond.code Lib.objectInit ⟨#[0xb1]⟩ 1 none).before a0 Z = true)
    (hd : decode bytes pc = .ok (.invokespecial index, 3)) (hsz : Ls.size = maxL) (hf : 1 ≤ R.frames) (hl : (st.map fun v => v.category).sum + 12 ≤ R.locals)
    (k : ∀ T', Wk p l e R s m args below meth c Z EL kn own T' h ss cells slots → Fi p e below s Z EL kc ks P T' (mkF m (pc + 3) Ls st)) : Fi p e below s Z EL kc ks P T (mkF m pc Ls (.ref a :: st)) :=
  W.quiet (fun X hZ hown => Jvm.RoadKit.initO X me.x hZ hown w1 w2 w3 W.heap (g := mkF m pc Ls (.ref a :: st)) rfl (hsz.trans me.ml.symm) rfl (hb me.b hd) hf (W := (st.map fun v => v.category).sum) (by show 2 * 0 + _ ≤ _; omega) hl) k
/-- ldc of a String constant that is told, read -/
theorem Wk.ldcS {text : String} {vs : List Value} {z : Int32} {n : Nat} (W : Wk p l e R s m args below meth c Z EL kn own T h ss cells slots) (me : Me p meth c nm bytes maxL ret) (hEL : EW Z a0 EL) (hmem : (own, index) ∈ EL) (w : (Cond.stringLink own index text).before a0 Z = true) (wS : ∀ a ∈ Bundle.stringAtoms, a.before a0 Z = true)
    (ht : (∀ c ∈ text.toList, c.toNat < 256) ∧ text.toList.map (fun c => Value.int (Jvm.Lit.byteI c.toNat.toUInt16)) = vs) (hz : ¬ z < 0) (hl : z.toNatClampNeg = vs.length) (hd : decode bytes pc = .ok (.ldc index, 2)) (hn : 4 * text.toList.length ≤ n) (hbig : n ≤ 536870912) (hc : cells + 2 ≤ R.cells) (hl' : slots + (n + 4) ≤ R.slots)
    (k : ∀ T' h' a b ka, Wk p l e R s m args below meth c Z EL kn own T' h' ss (cells + 2) (slots + (n + 4)) → Ext h h' → Exa Z h' a "java/lang/String" → Fld Z h' a "java/lang/String" "coder" "B" (.int 0) → Fld Z h' a "java/lang/String" "value" "[B" (.ref b) → Arv Z h' b ka .byte z vs (.int 0) → (∀ x ∈ ss, x ≠ a ∧ x ≠ b) →
      Fi p e below s Z EL kc ks P T' (mkF m (pc + 2) Ls (.ref a :: st))) : Fi p e below s Z EL kc ks P T (mkF m pc Ls st) := by
  obtain ⟨vm0, locs, k0, X, eT, hZ, hS, hk, hown, N, O, C, hss, hK⟩ := W
  obtain ⟨a, T', h', k1, b, ka, X', e', E, hS2, hk2, hW, hf, EA, FC, FV, A, -, -, C2, -, hne, stp⟩ := ldcCH X me.x hZ hown w wS eT hS hk hEL hmem C.1 ht hz hl (g := mkF m pc Ls st) rfl (hb me.b hd) hn hbig hc hl'
  have hal : vm0.Alike T'.vm := by
    have q := State.Warmed39.alike hW
    exact (State.Warmed39.alike hZ).symm.trans q
  have ss2 : ∀ x ∈ ss, x < h'.size ∧ Safe Z EL T'.vm h' x := fun x hx => ⟨Nat.lt_of_lt_of_le (hss x hx).1 E.1, C2.safe (hss x hx).1 (hss x hx).2⟩
  refine (k T' h' a b ka ⟨T'.vm, locs, k1, X', e', hW, hS2, hk2, hf, N, O.ext E, C.trans C2, ss2, fun q => ⟨Vm.MethodsKnown.alikeC hal (hK q).1, Vm.FramesKnown.alikeC hal (hK q).2⟩⟩ E EA FC FV A (fun x hx => hne x (ss2 x hx).2)).step stp
end Consts
section Calls
variable {index : Nat} {y y' z : MethodName} {ybytes : ByteArray} {ymaxL : Nat} {yret : Option FieldType} {rm : Room} {ss' : List Addr} {rest : List Value}
theorem Wk.callS {argsL : List Value} {Q : Option Value → Heap → (Addr → Prop) → Prop} (W : Wk p l e R s m args below meth c Z EL kn own T h ss cells slots) (me : Me p meth c nm bytes maxL ret) (hEL : EW Z a0 EL) (w1 : (Cond.methodLink own index y).before a0 Z = true) (w2 : (Cond.static y).before a0 Z = true) (w3 : (Cond.initialized y.cls).before a0 Z = true) (w4 : (Cond.code y ybytes ymaxL yret).before a0 Z = true)
    (hM : Con l Z EL kn [] y ybytes ymaxL yret rm argsL.toArray h ss' Q) (hd : decode bytes pc = .ok (.invokestatic index, 3)) (hy : y.cls ≠ "java/lang/invoke/MethodHandle" ∧ y.cls ≠ "java/lang/invoke/VarHandle") (hss : ∀ x ∈ ss', x ∈ ss) (hsz : Ls.size = maxL) (hlen : ∀ sig, parseMethodDescriptor y.desc = some sig → argsL.length = sig.parameters.length)
    (hf : rm.frames + 1 ≤ R.frames) (hl : (rest.map fun v => v.category).sum + (ymaxL + 11) + rm.locals ≤ R.locals) (hc : cells + rm.cells ≤ R.cells) (hs : slots + rm.slots ≤ R.slots) {stk : List Value} (hstk : stk = argsL.reverse ++ rest)
    (k : ∀ T' h' v, Wk p l e R s m args below meth c Z EL kn own T' h' ss (cells + rm.cells) (slots + rm.slots) → h.size ≤ h'.size → (∃ sf : Addr → Prop, (∀ xs : List Addr, (∀ x ∈ xs, sf x) → Wk p l e R s m args below meth c Z EL kn own T' h' (xs ++ ss) (cells + rm.cells) (slots + rm.slots)) ∧ Q v h' sf) → Fi p e below s Z EL kc ks P T' (mkF m (pc + 3) Ls (v.toList ++ rest))) : Fi p e below s Z EL kc ks P T (mkF m pc Ls stk) := by
  obtain ⟨vm0, locs, k0, X, eT, hZ, hS, hk, hown, N, O, C, hsf, hK⟩ := W
  subst hstk
  obtain ⟨v, vm1, B, hW1, X', hS2, hg, ⟨L, ⟨hq, NL, OB⟩, e1, e2, e3, C2⟩, stp⟩ := callSS X me.x hown (mvT (s := s.setVm vm0) hZ w1) (mvT (s := s.setVm vm0) hZ w2) (mvT (s := s.setVm vm0) hZ w3) (mvT (s := s.setVm vm0) hZ w4) hy
    (Con.back (Wt := (rest.map fun v => v.category).sum) hM hZ w4 w3 hf hl hEL C.1 (fun x hx => hsf x (hss x hx)) hK) (g := mkF m pc Ls (argsL.reverse ++ rest)) rfl (hsz.trans me.ml.symm) hlen rfl (by show 2 * 0 + _ ≤ _; omega) (hb me.b hd) (fun _ _ => ⟨rfl, eT, hc, hs⟩)
  have hg' : h.size ≤ B.U.heap.size := by rw [← eT]; exact hg
  have WB := Wk.behind X' hZ hS hk hown N C hsf hK hS2 hg' NL OB e1 e2 e3 C2
  exact (k B.U B.U.heap v (WB [] (fun _ q => nomatch q)) hg' ⟨_, WB, hq⟩).step fun t F => stp.trans F
theorem Wk.callI {argsL : List Value} {a : Addr} {Q : Option Value → Heap → (Addr → Prop) → Prop} (W : Wk p l e R s m args below meth c Z EL kn own T h ss cells slots) (me : Me p meth c nm bytes maxL ret) (hEL : EW Z a0 EL) (w1 : (Cond.methodLink own index y).before a0 Z = true) (w2 : (Cond.instanceMethod y).before a0 Z = true) (w3 : (Cond.initialized y.cls).before a0 Z = true) (w4 : (Cond.code y ybytes ymaxL none).before a0 Z = true) (hy1 : y.name = "<init>")
    (hM : Con l Z EL kn [] y ybytes ymaxL none rm (.ref a :: argsL).toArray h ss' Q) (hd : decode bytes pc = .ok (.invokespecial index, 3)) (hy : y.cls ≠ "java/lang/invoke/MethodHandle" ∧ y.cls ≠ "java/lang/invoke/VarHandle") (hss : ∀ x ∈ ss', x ∈ ss) (hsz : Ls.size = maxL) (hlen : ∀ sig, parseMethodDescriptor y.desc = some sig → argsL.length = sig.parameters.length)
    (hf : rm.frames + 1 ≤ R.frames) (hl : (rest.map fun v => v.category).sum + (ymaxL + 11) + rm.locals ≤ R.locals) (hc : cells + rm.cells ≤ R.cells) (hs : slots + rm.slots ≤ R.slots) {stk : List Value} (hstk : stk = argsL.reverse ++ .ref a :: rest)
    (k : ∀ T' h' v, Wk p l e R s m args below meth c Z EL kn own T' h' ss (cells + rm.cells) (slots + rm.slots) → h.size ≤ h'.size → (∃ sf : Addr → Prop, (∀ xs : List Addr, (∀ x ∈ xs, sf x) → Wk p l e R s m args below meth c Z EL kn own T' h' (xs ++ ss) (cells + rm.cells) (slots + rm.slots)) ∧ Q v h' sf) → Fi p e below s Z EL kc ks P T' (mkF m (pc + 3) Ls (v.toList ++ rest))) : Fi p e below s Z EL kc ks P T (mkF m pc Ls stk) := by
  obtain ⟨vm0, locs, k0, X, eT, hZ, hS, hk, hown, N, O, C, hsf, hK⟩ := W
  subst hstk
  obtain ⟨v, vm1, B, hW1, X', hS2, hg, ⟨L, ⟨hq, NL, OB⟩, e1, e2, e3, C2⟩, stp⟩ := X.specialBackS me.x hy1 hown (mvT (s := s.setVm vm0) hZ w1) (mvT (s := s.setVm vm0) hZ w2) (mvT (s := s.setVm vm0) hZ w4) hy
    (Con.back (Wt := (rest.map fun v => v.category).sum) hM hZ w4 w3 hf hl hEL C.1 (fun x hx => hsf x (hss x hx)) hK) (g := mkF m pc Ls (argsL.reverse ++ .ref a :: rest)) rfl (hsz.trans me.ml.symm) (Steps.refl _) hlen rfl (by show 2 * 0 + _ ≤ _; omega) (hb me.b hd) (fun _ _ => ⟨rfl, eT, hc, hs⟩)
  have hg' : h.size ≤ B.U.heap.size := by rw [← eT]; exact hg
  have WB := Wk.behind X' hZ hS hk hown N C hsf hK hS2 hg' NL OB e1 e2 e3 C2
  exact (k B.U B.U.heap v (WB [] (fun _ q => nomatch q)) hg' ⟨_, WB, hq⟩).step fun t F => stp.trans F
theorem Wk.callV {argsL : List Value} {a : Addr} {CC : String} {Q : Option Value → Heap → (Addr → Prop) → Prop} (W : Wk p l e R s m args below meth c Z EL kn own T h ss cells slots) (me : Me p meth c nm bytes maxL ret) (hEL : EW Z a0 EL) (w1 : (Cond.methodLink own index y).before a0 Z = true) (w2 : (Cond.declares y).before a0 Z = true) (hnf : ∀ {vm0 : Vm}, Z.Warmed39 vm0 → NotFace (s.setVm vm0) y) (w3 : (Cond.selects CC y z).before a0 Z = true) (w4 : (Cond.instanceMethod z).before a0 Z = true) (w5 : (Cond.initialized z.cls).before a0 Z = true) (w6 : (Cond.code z ybytes ymaxL yret).before a0 Z = true)
    (E : Exa Z h a CC) (hM : Con l Z EL kn [] z ybytes ymaxL yret rm (.ref a :: argsL).toArray h ss' Q) (hd : decode bytes pc = .ok (.invokevirtual index, 3)) (hy : y.cls ≠ "java/lang/invoke/MethodHandle" ∧ y.cls ≠ "java/lang/invoke/VarHandle") (hss : ∀ x ∈ ss', x ∈ ss) (hsz : Ls.size = maxL) (hlen : ∀ sig, parseMethodDescriptor y.desc = some sig → argsL.length = sig.parameters.length)
    (hf : rm.frames + 1 ≤ R.frames) (hl : (rest.map fun v => v.category).sum + (ymaxL + 11) + rm.locals ≤ R.locals) (hc : cells + rm.cells ≤ R.cells) (hs : slots + rm.slots ≤ R.slots) {stk : List Value} (hstk : stk = argsL.reverse ++ .ref a :: rest)
    (k : ∀ T' h' v, Wk p l e R s m args below meth c Z EL kn own T' h' ss (cells + rm.cells) (slots + rm.slots) → h.size ≤ h'.size → (∃ sf : Addr → Prop, (∀ xs : List Addr, (∀ x ∈ xs, sf x) → Wk p l e R s m args below meth c Z EL kn own T' h' (xs ++ ss) (cells + rm.cells) (slots + rm.slots)) ∧ Q v h' sf) → Fi p e below s Z EL kc ks P T' (mkF m (pc + 3) Ls (v.toList ++ rest))) : Fi p e below s Z EL kc ks P T (mkF m pc Ls stk) := by
  obtain ⟨vm0, locs, k0, X, eT, hZ, hS, hk, hown, N, O, C, hsf, hK⟩ := W
  subst hstk
  obtain ⟨cB, kB, qa, qb, qc⟩ := isOf (s := s.setVm vm0) (T := T) hZ eT E
  obtain ⟨v, vm1, B, hW1, X', hS2, hg, ⟨L, ⟨hq, NL, OB⟩, e1, e2, e3, C2⟩, stp⟩ := X.virtualBackS me.x hown (mvT (s := s.setVm vm0) hZ w1) (mvT (s := s.setVm vm0) hZ w2) (hnf hZ) (mvT (s := s.setVm vm0) hZ w3) (mvT (s := s.setVm vm0) hZ w4) hy
    (Con.back (Wt := (rest.map fun v => v.category).sum) hM hZ w6 w5 hf hl hEL C.1 (fun x hx => hsf x (hss x hx)) hK) qa qc (g := mkF m pc Ls (argsL.reverse ++ .ref a :: rest)) rfl (hsz.trans me.ml.symm) (Steps.refl _) hlen rfl (by show 2 * 0 + _ ≤ _; omega) (hb me.b hd) (fun _ _ => ⟨rfl, eT, hc, hs⟩)
  have hg' : h.size ≤ B.U.heap.size := by rw [← eT]; exact hg
  have WB := Wk.behind X' hZ hS hk hown N C hsf hK hS2 hg' NL OB e1 e2 e3 C2
  exact (k B.U B.U.heap v (WB [] (fun _ q => nomatch q)) hg' ⟨_, WB, hq⟩).step fun t F => stp.trans F
theorem Wk.callF {argsL : List Value} {a : Addr} {CC : String} {count : Nat} {Q : Option Value → Heap → (Addr → Prop) → Prop} (W : Wk p l e R s m args below meth c Z EL kn own T h ss cells slots) (me : Me p meth c nm bytes maxL ret) (hEL : EW Z a0 EL) (w1 : (Cond.methodLink own index y).before a0 Z = true) (w2 : (Cond.declares y).before a0 Z = true) (w2' : (Cond.interfaceMethod y.cls y.cls y.name y.desc).before a0 Z = true) (hi' : ((Cond.interfaceMethod y.cls y.cls y.name y.desc).onTables && (Cond.interfaceMethod y.cls y.cls y.name y.desc).keepsFace) = true) (w3 : (Cond.selects CC y z).before a0 Z = true) (w4 : (Cond.instanceMethod z).before a0 Z = true) (w4' : (Cond.publicMethod z).before a0 Z = true) (w4u : (Cond.unhidden CC y.name y.desc).before a0 Z = true) (w4c : (Cond.castable CC y.cls).before a0 Z = true) (w5 : (Cond.initialized z.cls).before a0 Z = true) (w6 : (Cond.code z ybytes ymaxL yret).before a0 Z = true)
    (E : Exa Z h a CC) (hM : Con l Z EL kn [] z ybytes ymaxL yret rm (.ref a :: argsL).toArray h ss' Q) (hd : decode bytes pc = .ok (.invokeinterface index count, 5)) (hy : y.cls ≠ "java/lang/invoke/MethodHandle" ∧ y.cls ≠ "java/lang/invoke/VarHandle") (hss : ∀ x ∈ ss', x ∈ ss) (hsz : Ls.size = maxL) (hlen : ∀ sig, parseMethodDescriptor y.desc = some sig → argsL.length = sig.parameters.length)
    (hf : rm.frames + 1 ≤ R.frames) (hl : (rest.map fun v => v.category).sum + (ymaxL + 11) + rm.locals ≤ R.locals) (hc : cells + rm.cells ≤ R.cells) (hs : slots + rm.slots ≤ R.slots) {stk : List Value} (hstk : stk = argsL.reverse ++ .ref a :: rest)
    (k : ∀ T' h' v, Wk p l e R s m args below meth c Z EL kn own T' h' ss (cells + rm.cells) (slots + rm.slots) → h.size ≤ h'.size → (∃ sf : Addr → Prop, (∀ xs : List Addr, (∀ x ∈ xs, sf x) → Wk p l e R s m args below meth c Z EL kn own T' h' (xs ++ ss) (cells + rm.cells) (slots + rm.slots)) ∧ Q v h' sf) → Fi p e below s Z EL kc ks P T' (mkF m (pc + 5) Ls (v.toList ++ rest))) : Fi p e below s Z EL kc ks P T (mkF m pc Ls stk) := by
  obtain ⟨vm0, locs, k0, X, eT, hZ, hS, hk, hown, N, O, C, hsf, hK⟩ := W
  subst hstk
  obtain ⟨cB, kB, qa, qb, qc⟩ := isOf (s := s.setVm vm0) (T := T) hZ eT E
  obtain ⟨v, vm1, B, hW1, X', hS2, hg, ⟨L, ⟨hq, NL, OB⟩, e1, e2, e3, C2⟩, stp⟩ := X.interfaceBackS me.x hown (mvT (s := s.setVm vm0) hZ w1) (mvT (s := s.setVm vm0) hZ w2) (mvT (s := s.setVm vm0) hZ w2' hi') (mvT (s := s.setVm vm0) hZ w3) (mvT (s := s.setVm vm0) hZ w4) (mvT (s := s.setVm vm0) hZ w4') (mvT (s := s.setVm vm0) hZ w4u) (mvT (s := s.setVm vm0) hZ w4c) hy
    (Con.back (Wt := (rest.map fun v => v.category).sum) hM hZ w6 w5 hf hl hEL C.1 (fun x hx => hsf x (hss x hx)) hK) qa qb qc (g := mkF m pc Ls (argsL.reverse ++ .ref a :: rest)) rfl (hsz.trans me.ml.symm) (Steps.refl _) hlen rfl (by show 2 * 0 + _ ≤ _; omega) (hb me.b hd) (fun _ _ => ⟨rfl, eT, hc, hs⟩)
  have hg' : h.size ≤ B.U.heap.size := by rw [← eT]; exact hg
  have WB := Wk.behind X' hZ hS hk hown N C hsf hK hS2 hg' NL OB e1 e2 e3 C2
  exact (k B.U B.U.heap v (WB [] (fun _ q => nomatch q)) hg' ⟨_, WB, hq⟩).step fun t F => stp.trans F
end Calls
end Steps3
end Jvm.OwnKit
namespace Jvm.OwnKit
open Jvm Jvm.ClassFile Sem Op Lib Jvm.Free Jvm.Stand Jvm.LawKit Jvm.RoadKit Bundle
section Nums
theorem on_int {i : Nat} (h : i < 2 ^ 31) : (Int32.ofNat i).toInt = (i : Int) := Int32.toInt_ofNat_small h
theorem on_clamp {i : Nat} (h : i < 2 ^ 31) : (Int32.ofNat i).toNatClampNeg = i := Int32.toNatClampNeg_ofNat_of_lt h
theorem on_lt {i n : Nat} (h : i < n) (hn : n < 2 ^ 31) : Int32.ofNat i < Int32.ofNat n := by
  rw [Int32.lt_iff_toInt_lt, on_int (by omega), on_int hn]; omega
theorem on_nlt {i n : Nat} (h : n ≤ i) (hi : i < 2 ^ 31) : ¬ Int32.ofNat i < Int32.ofNat n := by
  rw [Int32.lt_iff_toInt_lt, on_int hi, on_int (by omega)]; omega
theorem on_nneg {i : Nat} (hi : i < 2 ^ 31) : ¬ Int32.ofNat i < 0 := by
  rw [Int32.lt_iff_toInt_lt, on_int hi, Int32.toInt_zero]; omega
theorem on_in {i n : Nat} (h : i < n) (hn : n < 2 ^ 31) : ¬ Int32.ofNat i < 0 ∧ Int32.ofNat i < Int32.ofNat n := ⟨on_nneg (by omega), on_lt h hn⟩
theorem on_inj {i n : Nat} (hi : i < 2 ^ 31) (hn : n < 2 ^ 31) : Int32.ofNat i = Int32.ofNat n ↔ i = n := by
  rw [← Int32.toInt_inj, on_int hi, on_int hn]; omega
theorem on_add (i j : Nat) : Int32.ofNat i + Int32.ofNat j = Int32.ofNat (i + j) := (Int32.ofNat_add i j).symm
theorem on_succ (i : Nat) : Int32.ofNat i + 1 = Int32.ofNat (i + 1) := (inc_ofNat i).symm
theorem on_sub {i j : Nat} (h : j ≤ i) : Int32.ofNat i - Int32.ofNat j = Int32.ofNat (i - j) := by
  have e := on_add (i - j) j
  rw [Nat.sub_add_cancel h] at e
  rw [← e, Int32.add_sub_cancel]
theorem nar_char_of {x : Int32} (h : ¬ x < 0 ∧ ¬ (65535 : Int32) < x) : nar .char x = x := by
  have q := c_i2c x
  have h1 := h.1; have h2 := h.2
  rw [Int32.lt_iff_toInt_lt] at h1 h2
  have e : (65535 : Int32).toInt = 65535 := rfl
  rw [Int32.toInt_zero] at h1
  rw [e] at h2
  show x.toUInt32.toUInt16.toUInt32.toInt32 = x
  rw [← Int32.toInt_inj]
  have := q.1; have := q.2.1; have := q.2.2
  omega
theorem nar_byte_idem (x : Int32) : nar .byte x.toInt8.toInt32 = x.toInt8.toInt32 := by
  show x.toInt8.toInt32.toInt8.toInt32 = _
  simp
/-- a char below 256: its byte read back -/
theorem byte_back {x : Int32} (h : ¬ x < 0 ∧ ¬ (255 : Int32) < x) : x.toInt8.toInt32 &&& 255 = x := by
  have h1 := h.1; have h2 := h.2
  rw [Int32.lt_iff_toInt_lt] at h1 h2
  have e : (255 : Int32).toInt = 255 := rfl
  rw [Int32.toInt_zero] at h1
  rw [e] at h2
  rw [← Int32.toInt_inj, c_mask _ _ 8 (by omega) (by decide)]
  have := c_i2b x
  omega
theorem up16 {x : Int32} (h : ¬ x < 0 ∧ ¬ (255 : Int32) < x) : ¬ x < 0 ∧ ¬ (65535 : Int32) < x := ⟨h.1, fun q => h.2 (by
  rw [Int32.lt_iff_toInt_lt] at q ⊢
  have e1 : (65535 : Int32).toInt = 65535 := rfl
  have e2 : (255 : Int32).toInt = 255 := rfl
  omega)⟩
/-- (char) (x & 255) -/
theorem c255 (x : Int32) : ¬ (x &&& (255 : Int32)).toUInt32.toUInt16.toUInt32.toInt32 < 0 ∧ ¬ (255 : Int32) < (x &&& (255 : Int32)).toUInt32.toUInt16.toUInt32.toInt32 := by
  rw [i2c_mask]
  have q := c_mask x 255 8 (by omega) (by decide)
  have e : (255 : Int32).toInt = 255 := rfl
  rw [Int32.lt_iff_toInt_lt, Int32.lt_iff_toInt_lt, Int32.toInt_zero, e, q]
  omega
end Nums
section Kit4
variable {p : Program} {l : Launch} {e : Env} {R : Room} {s : State} {m : MethodId} {args : Array Value} {below : List Frame} {meth : Method} {c : Code} {Z : State} {a0 : Array Value} {EL : List (String × Nat)} {kn : Bool} {own : String}
  {T : State} {h h' h2 : Heap} {ss : List Addr} {cells slots : Nat} {nm : String} {bytes : ByteArray} {maxL : Nat} {ret : Option FieldType} {kc ks : Nat} {P : Option Value → Heap → (Addr → Prop) → Prop} {pc : Nat} {Ls : Array Slot} {st : List Value}
  {a : Addr} {n j x : Int32} {ka : ClassId} {vs : List Value} {dv : Value}
theorem Fi.entry {L : Array Slot} {as' : Array Value} (q : entryFrame m as' maxL = mkF m 0 L []) (F : Fi p e below s Z EL kc ks P T (mkF m 0 L [])) : Fi p e below s Z EL kc ks P T (entryFrame m as' maxL) := q ▸ F
theorem set_push (vs : List Value) (dv v : Value) {i : Nat} (hi : vs.length = i) : (vs ++ List.replicate 1 dv).set i v = vs ++ [v] := by subst hi; simp
/-- castore behind the last place told -/
theorem Wk.castoreP {i : Nat} (W : Wk p l e R s m args below meth c Z EL kn own T h ss cells slots) (me : Me p meth c nm bytes maxL ret) (A : Arv Z h a ka .char n vs dv) (hx : ¬ x < 0 ∧ ¬ (65535 : Int32) < x) (hd : decode bytes pc = .ok (.castore, 1)) (hv : vs.length = i) (hi : j.toNatClampNeg = i) (hj : ¬ j < 0 ∧ j < n) (hz : Z.heap.size ≤ a)
    (k : ∀ T' h', Wk p l e R s m args below meth c Z EL kn own T' h' ss cells slots → Wr h h' a i (.int x) → Arv Z h' a ka .char n (vs ++ [.int x]) dv → Fi p e below s Z EL kc ks P T' (mkF m (pc + 1) Ls st)) : Fi p e below s Z EL kc ks P T (mkF m pc Ls (.int x :: .int j :: .ref a :: st)) :=
  W.castore me (A.pad (pad_rep vs dv 1)) hd hj hi (by simp [← hv]) hz (fun T' h' W' q A' => by
    rw [nar_char_of hx] at q A'
    rw [set_push _ _ _ hv] at A'
    exact k T' h' W' q A')
theorem Wk.bastoreP {i : Nat} (W : Wk p l e R s m args below meth c Z EL kn own T h ss cells slots) (me : Me p meth c nm bytes maxL ret) (A : Arv Z h a ka .byte n vs dv) (hx : nar .byte x = x) (hd : decode bytes pc = .ok (.bastore, 1)) (hv : vs.length = i) (hi : j.toNatClampNeg = i) (hj : ¬ j < 0 ∧ j < n) (hS : a ∈ ss) (hz : Z.heap.size ≤ a)
    (k : ∀ T' h', Wk p l e R s m args below meth c Z EL kn own T' h' ss cells slots → Wr h h' a i (.int x) → Arv Z h' a ka .byte n (vs ++ [.int x]) dv → Fi p e below s Z EL kc ks P T' (mkF m (pc + 1) Ls st)) : Fi p e below s Z EL kc ks P T (mkF m pc Ls (.int x :: .int j :: .ref a :: st)) :=
  W.bastore me (A.pad (pad_rep vs dv 1)) hd hj hi (by simp [← hv]) hS hz (fun T' h' W' q A' => by
    rw [hx] at q A'
    rw [set_push _ _ _ hv] at A'
    exact k T' h' W' q A')
/-- what a Latin-1 String's byte[] holds -/
def lb (cs : List Int32) : List Value := cs.map fun c => Value.int c.toInt8.toInt32
/-- every sign below 256 -/
def C8 (cs : List Int32) : Prop := ∀ c ∈ cs, ¬ c < 0 ∧ ¬ (255 : Int32) < c
/-- a String of signs below 256 -/
def Lat (Z : State) (h : Heap) (a : Addr) (cs : List Int32) : Prop :=
  ∃ (b : Addr) (k : ClassId), Exa Z h a "java/lang/String" ∧ Fld Z h a "java/lang/String" "coder" "B" (.int 0) ∧ Fld Z h a "java/lang/String" "value" "[B" (.ref b) ∧ Arv Z h b k .byte (Int32.ofNat cs.length) (lb cs) (.int 0) ∧ cs.length < 2 ^ 20 ∧ C8 cs
theorem Lat.ext {cs : List Int32} (E : Ext h h') (S : Lat Z h a cs) : Lat Z h' a cs := by
  obtain ⟨b, k, h1, h2, h3, h4, h5⟩ := S; exact ⟨b, k, h1.ext E, h2.ext E, h3.ext E, h4.ext E, h5⟩
theorem lb_len (cs : List Int32) : (lb cs).length = cs.length := by simp [lb]
theorem lb_get {cs : List Int32} {i : Nat} (hi : i < cs.length) : (lb cs).getD i (.int 0) = .int (cs.getD i 0).toInt8.toInt32 := by
  simp [lb, List.getD_eq_getElem?_getD, hi]
theorem ci_get {cs : List Int32} {i : Nat} {dv : Value} (hi : i < cs.length) : (cs.map Value.int).getD i dv = .int (cs.getD i 0) := by
  simp [List.getD_eq_getElem?_getD, hi]
theorem C8.at {cs : List Int32} (q : C8 cs) {i : Nat} (hi : i < cs.length) : ¬ cs.getD i 0 < 0 ∧ ¬ (255 : Int32) < cs.getD i 0 := by
  have : cs.getD i 0 = cs[i] := by simp [List.getD_eq_getElem?_getD, hi]
  rw [this]; exact q _ (List.getElem_mem hi)
theorem lb_take_succ {cs : List Int32} {i : Nat} (hi : i < cs.length) : lb (cs.take i) ++ [.int (cs.getD i 0).toInt8.toInt32] = lb (cs.take (i + 1)) := by
  have e : cs.take (i + 1) = cs.take i ++ [cs.getD i 0] := by rw [List.take_add_one]; simp [List.getD_eq_getElem?_getD, hi]
  rw [e]
  show _ = List.map _ (_ ++ [_])
  rw [List.map_append]
  rfl
theorem C8.nil : C8 [] := fun _ q => nomatch q
theorem C8.cons {c : Int32} {cs : List Int32} (q : ¬ c < 0 ∧ ¬ (255 : Int32) < c) (r : C8 cs) : C8 (c :: cs) := fun x hx => by
  rcases List.mem_cons.mp hx with rfl | hx
  · exact q
  · exact r x hx
end Kit4
end Jvm.OwnKit
namespace Jvm.OwnKit
open Jvm Jvm.ClassFile Sem Op Lib Jvm.Free Jvm.Stand Jvm.LawKit Jvm.RoadKit Bundle
section Kit5
variable {p : Program} {l : Launch} {e : Env} {R : Room} {s : State} {m : MethodId} {args : Array Value} {below : List Frame} {meth : Method} {c : Code} {Z : State} {a0 : Array Value} {EL : List (String × Nat)} {kn : Bool} {own : String}
  {T : State} {h h' h2 : Heap} {ss : List Addr} {cells slots : Nat} {nm : String} {bytes : ByteArray} {maxL : Nat} {ret : Option FieldType} {kc ks : Nat} {P : Option Value → Heap → (Addr → Prop) → Prop} {pc : Nat} {Ls : Array Slot} {st : List Value}
theorem own_nfw : nativeFrameWords "java/lang/System" "arraycopy" 5 = 7 := by decide
theorem Wk.keeps {g g' : JFrame} {ws : List Addr} {Q : Heap → Prop} (W : Wk p l e R s m args below meth c Z EL kn own T h ss cells slots) (hS : ∀ x ∈ ws, Sf Z h ss x) (hn : ∀ x ∈ ws, Z.heap.size ≤ x)
    (law : ∀ {vm0 : Vm} {locs : List Loc}, Stand p l e R (s.setVm vm0) m args below meth c T locs cells slots → Z.Warmed39 vm0 → vm0.findClass own = some m.cls → Fr Z.heap.size locs → ∃ T' h' L, Stand p l e R (s.setVm vm0) m args below meth c T' L cells slots ∧ T'.heap = h' ∧ Fr Z.heap.size L ∧ Keep h h' ws ∧ Q h' ∧ ∀ target, Steps p.tables e below (T'.setTop g') target → Steps p.tables e below (T.setTop g) target)
    (F : ∀ T' h', Wk p l e R s m args below meth c Z EL kn own T' h' ss cells slots → Keep h h' ws → Q h' → Fi p e below s Z EL kc ks P T' g') : Fi p e below s Z EL kc ks P T g := by
  obtain ⟨vm0, locs, k0, X, eT, hZ, hSi, hk, hown, N, O, C, hss, hK⟩ := W
  obtain ⟨T', h', L, X', e', N', K, q, st⟩ := law X hZ hown N
  have S0 : ∀ x ∈ ws, Safe Z EL vm0 h x := fun x hx => (hS x hx).safe hZ.alike hss
  have C2 := CHr.keep K S0 C.1
  exact (F T' h' ⟨vm0, L, k0, X', e', hZ, hSi, Nat.le_trans hk K.1, hown, N', O.keep K hn, C.trans C2, fun x hx => ⟨Nat.lt_of_lt_of_le (hss x hx).1 K.1, Safe.keep K S0 C.1 (hss x hx).2⟩, hK⟩ K q).step st
/-- System.arraycopy between two byte[]s, the places told -/
theorem Wk.acopy {index : Nat} {a b : Addr} {k k' : ClassId} {z z' sp dp nn : Int32} {vs vd us : List Value} {dv dd : Value} {ty : FieldType} (W : Wk p l e R s m args below meth c Z EL kn own T h ss cells slots) (me : Me p meth c nm bytes maxL ret)
    (w1 : (Cond.methodLink own index Jvm.Stand.acN).before a0 Z = true) (w2 : (Cond.native Jvm.Stand.acN).before a0 Z = true) (w3 : (Cond.static Jvm.Stand.acN).before a0 Z = true) (w4 : (Cond.initialized "java/lang/System").before a0 Z = true)
    (A : Arv Z h a k ty z vs dv) (B : Arv Z h b k' ty z' vd dd) (hty : refKind ty = false) (hS : Sf Z h ss b) (hz : Z.heap.size ≤ b)
    (h1 : ¬ sp < 0) (h2 : ¬ dp < 0) (h3 : ¬ nn < 0) (h4 : sp.toNatClampNeg + nn.toNatClampNeg ≤ z.toNatClampNeg) (h5 : dp.toNatClampNeg + nn.toNatClampNeg ≤ z'.toNatClampNeg)
    (hus : us = (List.range nn.toNatClampNeg).map fun i => vs.getD (sp.toNatClampNeg + i) dv) (hl : dp.toNatClampNeg + nn.toNatClampNeg ≤ vd.length) (hd : decode bytes pc = .ok (.invokestatic index, 3)) (hsz : Ls.size = maxL) (hf : 1 ≤ R.frames) (hlo : (st.map fun v => v.category).sum + 18 ≤ R.locals)
    (F : ∀ T' h', Wk p l e R s m args below meth c Z EL kn own T' h' ss cells slots → Keep h h' [b] → Arv Z h' b k' ty z' (vd.take dp.toNatClampNeg ++ us ++ vd.drop (dp.toNatClampNeg + nn.toNatClampNeg)) dd → Fi p e below s Z EL kc ks P T' (mkF m (pc + 3) Ls st)) :
    Fi p e below s Z EL kc ks P T (mkF m pc Ls (.int nn :: .int dp :: .ref b :: .int sp :: .ref a :: st)) :=
  W.keeps (ws := [b]) (Q := fun h' => Arv Z h' b k' ty z' (vd.take dp.toNatClampNeg ++ us ++ vd.drop (dp.toNatClampNeg + nn.toNatClampNeg)) dd) (allS hS all0) (allS hz all0)
    (fun X hZ hown N => by
      obtain ⟨T', h', L, X', e', N', K, q, st'⟩ := cpA X me.x hZ hown w1 w2 w3 w4 W.heap A B (Or.inl ⟨rfl, hty⟩) h1 h2 h3 h4 h5 hus hl N hz (g := mkF m pc Ls (.int nn :: .int dp :: .ref b :: .int sp :: .ref a :: st)) rfl (hsz.trans me.ml.symm) rfl (hb me.b hd) hf (W := (st.map fun v => v.category).sum) (by show 2 * 0 + _ ≤ _; omega) (by rw [own_nfw]; exact hlo)
      exact ⟨T', h', L, X', e', N', K, q, st'⟩)
    F
theorem own_fill {a : Addr} {k : ClassId} {ty : FieldType} {z : Int32} {dv : Value} (A : Arv Z h a k ty z [] dv) (n : Nat) : Arv Z h a k ty z (List.replicate n dv) dv := A.pad (pad_rep [] dv n)
/-- the signs from f on, n of them -/
def sub (cs : List Int32) (f n : Nat) : List Int32 := (cs.drop f).take n
theorem sub_len {cs : List Int32} {f n : Nat} (q : f + n ≤ cs.length) : (sub cs f n).length = n := by simp [sub]; omega
theorem sub_all (cs : List Int32) : sub cs 0 cs.length = cs := by simp [sub]
theorem sub_nil (cs : List Int32) (f : Nat) : sub cs f 0 = [] := by simp [sub]
theorem sub_get {cs : List Int32} {f n i : Nat} (hi : i < n) : (sub cs f n).getD i 0 = cs.getD (f + i) 0 := by
  simp [sub, List.getD_eq_getElem?_getD, List.getElem?_take, hi]
theorem C8.sub {cs : List Int32} (q : C8 cs) (f n : Nat) : C8 (Jvm.OwnKit.sub cs f n) := fun c hc => q c (List.mem_of_mem_drop (List.mem_of_mem_take hc))
theorem own_us {cs : List Int32} {f n : Nat} (q : f + n ≤ cs.length) : (List.range n).map (fun i => (lb cs).getD (f + i) (.int 0)) = lb (sub cs f n) := by
  apply List.ext_getElem
  · simp [lb_len, sub_len q]
  · intro i h1 h2
    have hi : i < n := by simpa using h1
    have e : (lb (sub cs f n))[i] = (lb (sub cs f n)).getD i (.int 0) := by simp [List.getD_eq_getElem?_getD, h2]
    rw [e, lb_get (by rw [sub_len q]; exact hi), sub_get hi]
    simp only [List.getElem_map, List.getElem_range]
    rw [lb_get (by omega)]
theorem byte_inj {x y : Int32} (hx : ¬ x < 0 ∧ ¬ (255 : Int32) < x) (hy : ¬ y < 0 ∧ ¬ (255 : Int32) < y) (q : x.toInt8.toInt32 = y.toInt8.toInt32) : x = y := by rw [← byte_back hx, q, byte_back hy]
/-- the first place of x, or -1 -/
def ixF (x : Int32) (cs : List Int32) : Int32 := if cs.findIdx (· == x) < cs.length then Int32.ofNat (cs.findIdx (· == x)) else -1
theorem gd {cs : List Int32} {i : Nat} (h : i < cs.length) : cs.getD i 0 = cs[i] := by simp [List.getD_eq_getElem?_getD, h]
theorem ixF_found {cs : List Int32} {x : Int32} {i : Nat} (h : i < cs.length) (e : cs.getD i 0 = x) (q : ∀ j, j < i → cs.getD j 0 ≠ x) : ixF x cs = Int32.ofNat i ∧ cs.findIdx (· == x) = i := by
  have e1 : cs.findIdx (· == x) = i := by
    rw [List.findIdx_eq h]
    refine ⟨by rw [← gd h, e]; simp, fun j hj => ?_⟩
    have := q j hj
    rw [gd (by omega)] at this
    simp [this]
  exact ⟨by rw [ixF, e1, if_pos h], e1⟩
theorem ixF_none {cs : List Int32} {x : Int32} (q : ∀ j, j < cs.length → cs.getD j 0 ≠ x) : ixF x cs = -1 := by
  rw [ixF, if_neg]
  intro h
  have e := List.findIdx_getElem (p := (· == x)) (w := h)
  have := q _ h
  rw [gd h] at this
  simp at e
  exact this e
theorem Lat.exa {a : Addr} {cs : List Int32} (L : Lat Z h a cs) : Exa Z h a "java/lang/String" := by obtain ⟨_, _, q, _⟩ := L; exact q
theorem al0 {P : Nat → Prop} : ∀ j, j < 0 → P j := fun j q => absurd q (Nat.not_lt_zero _)
theorem alS {P : Nat → Prop} {n : Nat} (q : ∀ j, j < n → P j) (r : P n) : ∀ j, j < n + 1 → P j := fun j z => (Nat.lt_succ_iff_lt_or_eq.mp z).elim (q j) (fun u => u ▸ r)
end Kit5
end Jvm.OwnKit
namespace Jvm.OwnKit
open Jvm Jvm.ClassFile Sem Op Lib Jvm.Free Jvm.Stand Jvm.LawKit Jvm.RoadKit Bundle
section Kit6
variable {p : Program} {l : Launch} {e : Env} {R : Room} {s : State} {m : MethodId} {args : Array Value} {below : List Frame} {meth : Method} {c : Code} {Z : State} {a0 : Array Value} {EL : List (String × Nat)} {kn : Bool} {own : String}
  {T : State} {h h' h2 : Heap} {ss : List Addr} {cells slots : Nat} {nm : String} {bytes : ByteArray} {maxL : Nat} {ret : Option FieldType} {kc ks : Nat} {P : Option Value → Heap → (Addr → Prop) → Prop} {pc : Nat} {Ls : Array Slot} {st : List Value}
/-- a class that bears a selected method is no interface -/
theorem nf_of_sel {C : String} {x y y' : MethodName} (w : (Cond.selects C x y).before a0 Z = true) (hc : y'.cls = y.cls) {vm0 : Vm} (hZ : Z.Warmed39 vm0) : NotFace (s.setVm vm0) y' := fun r0 h0 => by
  obtain ⟨-, -, m2, -, -, q3, -, mk, q5, q6⟩ := Cond.selects_spec (mvT (s := s.setVm vm0) (args := #[]) hZ w)
  have e1 := findClass_of_methodNamed q3
  have e2 := findClass_of_methodNamed h0
  rw [hc] at e2
  have e3 : r0.cls = m2.cls := Option.some.inj (e2.symm.trans e1)
  exact ⟨mk, by rw [e3]; exact q5, q6⟩
theorem own_same {C : String} {x y y' : MethodName} (w : (Cond.instanceMethod y).before a0 Z = true) (ws : (Cond.selects C x y').before a0 Z = true) (hc : y'.cls = y.cls) (hy : y.cls ≠ "java/lang/invoke/MethodHandle" ∧ y.cls ≠ "java/lang/invoke/VarHandle") : (Cond.sameMethod y.cls y.cls y.name y.desc).before a0 Z = true := by
  obtain ⟨mk, methM, hn, hm, -, -⟩ := Cond.instanceMethod_spec w
  obtain ⟨-, -, m2, -, -, q3, -, kk, q5, q6⟩ := Cond.selects_spec ws
  have e1 := findClass_of_methodNamed q3
  have e2 := findClass_of_methodNamed hn
  have e3 : mk.cls = m2.cls := by
    rw [hc] at e1
    exact Option.some.inj (e2.symm.trans e1)
  have hf := State.methodFound?_of_named hn hy
  have hn' : Z.methodNamed? ⟨y.cls, y.name, y.desc⟩ = some mk := hn
  show (Cond.sameMethod y.cls y.cls y.name y.desc).holds a0 Z none Z [] = true
  simp only [Cond.holds, Cond.value, e2, hf, hn', e3, q5, Option.any_some, q6, decide_true, Bool.not_false, Bool.and_self]
  rfl
theorem own_selp {C : String} {x y : MethodName} (w : (Cond.instanceMethod y).before a0 Z = true) (wp : (Cond.privateMethod y).before a0 Z = true) (ws : (Cond.selects C x y).before a0 Z = true) (hy : y.cls ≠ "java/lang/invoke/MethodHandle" ∧ y.cls ≠ "java/lang/invoke/VarHandle") : (Cond.selects y.cls y y).before a0 Z = true := by
  obtain ⟨mk, methM, hn, hm, -, -⟩ := Cond.instanceMethod_spec w
  obtain ⟨-, -, m2, -, -, q3, -, kk, q5, q6⟩ := Cond.selects_spec ws
  cases hn.symm.trans q3
  have e2 := findClass_of_methodNamed hn
  have hf := State.methodFound?_of_named hn hy
  have hpr : methM.isPrivate = true := Cond.privateMethod_at wp mk methM hn hm
  have hsel : selectMethod {} Z.vm mk.cls mk = .method mk := selectMethod_private hm hpr
  show (Cond.selects y.cls y y).holds a0 Z none Z [] = true
  simp only [Cond.holds, Cond.value, e2, hf, hn, hsel, q5, Option.any_some, q6, decide_true, Bool.not_false, Bool.and_self]
  rfl
section Calls6
variable {index : Nat} {y : MethodName} {ybytes : ByteArray} {ymaxL : Nat} {yret : Option FieldType} {rm : Room} {ss' : List Addr} {rest : List Value} {Q : Option Value → Heap → (Addr → Prop) → Prop} {argsL : List Value} {a : Addr} {CC : String}
/-- a private method, by invokevirtual -/
theorem Wk.callP {C : String} {x : MethodName} (W : Wk p l e R s m args below meth c Z EL kn own T h ss cells slots) (me : Me p meth c nm bytes maxL ret) (hEL : EW Z a0 EL) (w1 : (Cond.methodLink own index y).before a0 Z = true) (w2 : (Cond.instanceMethod y).before a0 Z = true) (wp : (Cond.privateMethod y).before a0 Z = true) (ws : (Cond.selects C x y).before a0 Z = true) (w5 : (Cond.initialized y.cls).before a0 Z = true) (w6 : (Cond.code y ybytes ymaxL yret).before a0 Z = true)
    (E : Exa Z h a CC) (hM : Con l Z EL kn [] y ybytes ymaxL yret rm (.ref a :: argsL).toArray h ss' Q) (hd : decode bytes pc = .ok (.invokevirtual index, 3)) (hy : y.cls ≠ "java/lang/invoke/MethodHandle" ∧ y.cls ≠ "java/lang/invoke/VarHandle") (hss : ∀ x ∈ ss', x ∈ ss) (hsz : Ls.size = maxL) (hlen : ∀ sig, parseMethodDescriptor y.desc = some sig → argsL.length = sig.parameters.length)
    (hf : rm.frames + 1 ≤ R.frames) (hl : (rest.map fun v => v.category).sum + (ymaxL + 11) + rm.locals ≤ R.locals) (hc : cells + rm.cells ≤ R.cells) (hs : slots + rm.slots ≤ R.slots) {stk : List Value} (hstk : stk = argsL.reverse ++ .ref a :: rest)
    (k : ∀ T' h' v, Wk p l e R s m args below meth c Z EL kn own T' h' ss (cells + rm.cells) (slots + rm.slots) → h.size ≤ h'.size → (∃ sf : Addr → Prop, (∀ xs : List Addr, (∀ x ∈ xs, sf x) → Wk p l e R s m args below meth c Z EL kn own T' h' (xs ++ ss) (cells + rm.cells) (slots + rm.slots)) ∧ Q v h' sf) → Fi p e below s Z EL kc ks P T' (mkF m (pc + 3) Ls (v.toList ++ rest))) : Fi p e below s Z EL kc ks P T (mkF m pc Ls stk) := by
  obtain ⟨vm0, locs, k0, X, eT, hZ, hS, hk, hown, N, O, C, hsf, hK⟩ := W
  subst hstk
  obtain ⟨cell, q1, q2⟩ := E.cell
  obtain ⟨v, vm1, B, hW1, X', hS2, hg, ⟨L, ⟨hq, NL, OB⟩, e1, e2, e3, C2⟩, stp⟩ := X.privateBackS me.x hown (mvT (s := s.setVm vm0) hZ w1) (mvT (s := s.setVm vm0) hZ w2) (mvT (s := s.setVm vm0) hZ (own_selp w2 wp ws hy)) (Cond.privateMethod_at (mvP (s := s.setVm vm0) (args := #[]) hZ wp)) (mvT (s := s.setVm vm0) hZ w6) hy
    (Con.back (Wt := (rest.map fun v => v.category).sum) hM hZ w6 w5 hf hl hEL C.1 (fun x hx => hsf x (hss x hx)) hK) (g := mkF m pc Ls (argsL.reverse ++ .ref a :: rest)) rfl (hsz.trans me.ml.symm) (Steps.refl _) (by rw [eT]; exact q1) q2 hlen rfl (by show 2 * 0 + _ ≤ _; omega) (hb me.b hd) (fun _ _ => ⟨rfl, eT, hc, hs⟩)
  have hg' : h.size ≤ B.U.heap.size := by rw [← eT]; exact hg
  have WB := Wk.behind X' hZ hS hk hown N C hsf hK hS2 hg' NL OB e1 e2 e3 C2
  exact (k B.U B.U.heap v (WB [] (fun _ q => nomatch q)) hg' ⟨_, WB, hq⟩).step fun t F => stp.trans F
/-- a superclass's method, by invokespecial -/
theorem Wk.callU {C : String} {x y' : MethodName} (W : Wk p l e R s m args below meth c Z EL kn own T h ss cells slots) (me : Me p meth c nm bytes maxL ret) (hEL : EW Z a0 EL) (w1 : (Cond.methodLink own index y).before a0 Z = true) (w2 : (Cond.instanceMethod y).before a0 Z = true) (wu : (Cond.superclass own y.cls).before a0 Z = true) (ws : (Cond.selects C x y').before a0 Z = true) (hcy : y'.cls = y.cls) (w5 : (Cond.initialized y.cls).before a0 Z = true) (w6 : (Cond.code y ybytes ymaxL yret).before a0 Z = true) (hyn : y.name ≠ "<init>")
    (E : Exa Z h a CC) (hM : Con l Z EL kn [] y ybytes ymaxL yret rm (.ref a :: argsL).toArray h ss' Q) (hd : decode bytes pc = .ok (.invokespecial index, 3)) (hy : y.cls ≠ "java/lang/invoke/MethodHandle" ∧ y.cls ≠ "java/lang/invoke/VarHandle") (hss : ∀ x ∈ ss', x ∈ ss) (hsz : Ls.size = maxL) (hlen : ∀ sig, parseMethodDescriptor y.desc = some sig → argsL.length = sig.parameters.length)
    (hf : rm.frames + 1 ≤ R.frames) (hl : (rest.map fun v => v.category).sum + (ymaxL + 11) + rm.locals ≤ R.locals) (hc : cells + rm.cells ≤ R.cells) (hs : slots + rm.slots ≤ R.slots) {stk : List Value} (hstk : stk = argsL.reverse ++ .ref a :: rest)
    (k : ∀ T' h' v, Wk p l e R s m args below meth c Z EL kn own T' h' ss (cells + rm.cells) (slots + rm.slots) → h.size ≤ h'.size → (∃ sf : Addr → Prop, (∀ xs : List Addr, (∀ x ∈ xs, sf x) → Wk p l e R s m args below meth c Z EL kn own T' h' (xs ++ ss) (cells + rm.cells) (slots + rm.slots)) ∧ Q v h' sf) → Fi p e below s Z EL kc ks P T' (mkF m (pc + 3) Ls (v.toList ++ rest))) : Fi p e below s Z EL kc ks P T (mkF m pc Ls stk) := by
  obtain ⟨vm0, locs, k0, X, eT, hZ, hS, hk, hown, N, O, C, hsf, hK⟩ := W
  subst hstk
  obtain ⟨v, vm1, B, hW1, X', hS2, hg, ⟨L, ⟨hq, NL, OB⟩, e1, e2, e3, C2⟩, stp⟩ := superBackS X me.x (Z := Z) hZ hown w1 (own_same w2 ws hcy hy) w2 wu hyn
    (Con.back (Wt := (rest.map fun v => v.category).sum) hM hZ w6 w5 hf hl hEL C.1 (fun x hx => hsf x (hss x hx)) hK) eT (Ins.self E) (g := mkF m pc Ls (argsL.reverse ++ .ref a :: rest)) rfl (hsz.trans me.ml.symm) w6 hlen rfl (by show 2 * 0 + _ ≤ _; omega) (hb me.b hd) (fun _ _ => ⟨rfl, eT, hc, hs⟩)
  have hg' : h.size ≤ B.U.heap.size := by rw [← eT]; exact hg
  have WB := Wk.behind X' hZ hS hk hown N C hsf hK hS2 hg' NL OB e1 e2 e3 C2
  exact (k B.U B.U.heap v (WB [] (fun _ q => nomatch q)) hg' ⟨_, WB, hq⟩).step fun t F => stp.trans F
end Calls6
/-- newarray, its class told -/
theorem Wk.newAE {aty : ArrayType} {cap : Nat} {n : Int32} {ad : String} (W : Wk p l e R s m args below meth c Z EL kn own T h ss cells slots) (me : Me p meth c nm bytes maxL ret) (w : (Cond.arrayClass (newarray.typeOf aty)).before a0 Z = true) (hd : decode bytes pc = .ok (.newarray aty, 2)) (hn : ¬ n < 0) (hcap : n.toNatClampNeg ≤ cap) (hbig : cap * 8 ≤ 536870912) (hc : cells + 1 ≤ R.cells) (hl : slots + cap ≤ R.slots) (had : "[" ++ (newarray.typeOf aty).toString = ad)
    (k : ∀ T' h' a ka, @Eq Nat h.size a → Wk p l e R s m args below meth c Z EL kn own T' h' (a :: ss) (cells + 1) (slots + cap) → Ext h h' → Arv Z h' a ka (newarray.typeOf aty) n [] (defaultValue (newarray.typeOf aty)) → Exa Z h' a ad → Fi p e below s Z EL kc ks P T' (mkF m (pc + 2) Ls (.ref a :: st))) : Fi p e below s Z EL kc ks P T (mkF m pc Ls (.int n :: st)) :=
  W.grows (k := 1) (n := cap) (Q := fun _ h' => (∃ ka, Arv Z h' h.size ka (newarray.typeOf aty) n [] (defaultValue (newarray.typeOf aty))) ∧ Exa Z h' h.size ad)
    (fun X hZ hown => by
      obtain ⟨T', h', cA, X', e', E, A, EX, st⟩ := Jvm.RoadKit.newPE X me.x hZ w W.heap (g := mkF m pc Ls (.int n :: st)) rfl (hb me.b hd) rfl hn hcap hbig hc hl had
      exact ⟨T', h', X', e', E, A.lt, ⟨⟨cA, Arv.new A hn⟩, EX⟩, st⟩)
    (fun T' h' W' E q => by obtain ⟨⟨ka, A⟩, EX⟩ := q; exact k T' h' h.size ka rfl W' E A EX)
/-- an array's clone() -/
theorem Wk.clone {index cap : Nat} {a : Addr} {ad : String} {k : ClassId} {ty : FieldType} {z : Int32} {vs : List Value} {dv : Value} (W : Wk p l e R s m args below meth c Z EL kn own T h ss cells slots) (me : Me p meth c nm bytes maxL ret)
    (w1 : (Cond.methodLink own index ⟨ad, "clone", "()Ljava/lang/Object;"⟩).before a0 Z = true) (w2 : (Cond.sameMethod ad "java/lang/Object" "clone" "()Ljava/lang/Object;").before a0 Z = true) (w3 : (Cond.native ⟨"java/lang/Object", "clone", "()Ljava/lang/Object;"⟩).before a0 Z = true)
    (w4 : (Cond.instanceMethod ⟨"java/lang/Object", "clone", "()Ljava/lang/Object;"⟩).before a0 Z = true) (w5 : (Cond.selects ad ⟨ad, "clone", "()Ljava/lang/Object;"⟩ ⟨"java/lang/Object", "clone", "()Ljava/lang/Object;"⟩).before a0 Z = true) (w6 : (Cond.castable ad "java/lang/Cloneable").before a0 Z = true)
    (A : Arv Z h a k ty z vs dv) (E : Exa Z h a ad) (hd : decode bytes pc = .ok (.invokevirtual index, 3)) (hsz : Ls.size = maxL) (hf : 1 ≤ R.frames) (hl : (st.map fun v => v.category).sum + 14 ≤ R.locals) (hcap : z.toNatClampNeg ≤ cap) (hc : cells + 1 ≤ R.cells) (hsl : slots + cap ≤ R.slots)
    (F : ∀ T' h' d, @Eq Nat h.size d → Wk p l e R s m args below meth c Z EL kn own T' h' (d :: ss) (cells + 1) (slots + cap) → Ext h h' → Arv Z h' d k ty z vs dv → Exa Z h' d ad → Fi p e below s Z EL kc ks P T' (mkF m (pc + 3) Ls (.ref d :: st))) :
    Fi p e below s Z EL kc ks P T (mkF m pc Ls (.ref a :: st)) :=
  W.grows (k := 1) (n := cap) (Q := fun _ h' => Arv Z h' h.size k ty z vs dv ∧ Exa Z h' h.size ad)
    (fun X hZ hown => by
      obtain ⟨T', h', X', e', E', A', EX, st'⟩ := cloneH X me.x hZ hown w1 w2 w3 w4 w5 w6 W.heap A.arh E (g := mkF m pc Ls (.ref a :: st)) rfl (hsz.trans me.ml.symm) rfl (hb me.b hd) hf (W := (st.map fun v => v.category).sum) (by show 2 * 0 + _ ≤ _; omega) hl hcap hc hsl
      exact ⟨T', h', X', e', E', EX.lt, ⟨A', EX⟩, st'⟩)
    (fun T' h' W' E' q => F T' h' h.size rfl W' E' q.1 q.2)
/-- a Latin-1 String and its array -/
def LatB (Z : State) (h : Heap) (a b : Addr) (cs : List Int32) : Prop :=
  ∃ k : ClassId, Exa Z h a "java/lang/String" ∧ Fld Z h a "java/lang/String" "coder" "B" (.int 0) ∧ Fld Z h a "java/lang/String" "value" "[B" (.ref b) ∧ Arv Z h b k .byte (Int32.ofNat cs.length) (lb cs) (.int 0) ∧ cs.length < 2 ^ 20 ∧ C8 cs
theorem Lat.opn {a : Addr} {cs : List Int32} (L : Lat Z h a cs) : ∃ b, LatB Z h a b cs := by obtain ⟨b, k, q⟩ := L; exact ⟨b, k, q⟩
theorem LatB.lat {a b : Addr} {cs : List Int32} (L : LatB Z h a b cs) : Lat Z h a cs := by obtain ⟨k, q⟩ := L; exact ⟨b, k, q⟩
theorem LatB.ext {a b : Addr} {cs : List Int32} (E : Ext h h') (L : LatB Z h a b cs) : LatB Z h' a b cs := by obtain ⟨k, h1, h2, h3, h4, h5⟩ := L; exact ⟨k, h1.ext E, h2.ext E, h3.ext E, h4.ext E, h5⟩
theorem LatB.exa {a b : Addr} {cs : List Int32} (L : LatB Z h a b cs) : Exa Z h a "java/lang/String" := L.lat.exa
theorem LatB.lt {a b : Addr} {cs : List Int32} (L : LatB Z h a b cs) : b < h.size := by obtain ⟨k, -, -, -, q, -⟩ := L; exact q.lt
/-- a StringBuilder that holds Latin-1 signs: its array b of cap places -/
def Sbd (Z : State) (h : Heap) (a b : Addr) (cs : List Int32) (cap : Nat) : Prop :=
  ∃ k : ClassId, Exa Z h a "java/lang/StringBuilder" ∧ Fld Z h a "java/lang/AbstractStringBuilder" "value" "[B" (.ref b) ∧ Fld Z h a "java/lang/AbstractStringBuilder" "coder" "B" (.int 0) ∧ Fld Z h a "java/lang/AbstractStringBuilder" "count" "I" (.int (Int32.ofNat cs.length)) ∧
    Arv Z h b k .byte (Int32.ofNat cap) (lb cs) (.int 0) ∧ Exa Z h b "[B" ∧ cs.length ≤ cap ∧ cap < 2 ^ 20 ∧ C8 cs
theorem Sbd.exa {a b : Addr} {cs : List Int32} {cap : Nat} (L : Sbd Z h a b cs cap) : Exa Z h a "java/lang/StringBuilder" := by obtain ⟨k, q, -⟩ := L; exact q
theorem Sbd.ext {a b : Addr} {cs : List Int32} {cap : Nat} (E : Ext h h') (L : Sbd Z h a b cs cap) : Sbd Z h' a b cs cap := by obtain ⟨k, h1, h2, h3, h4, h5, h6, h7⟩ := L; exact ⟨k, h1.ext E, h2.ext E, h3.ext E, h4.ext E, h5.ext E, h6.ext E, h7⟩
theorem C8.app {cs ds : List Int32} (q : C8 cs) (r : C8 ds) : C8 (cs ++ ds) := fun x hx => (List.mem_append.mp hx).elim (q x) (r x)
theorem lb_app (cs ds : List Int32) : lb (cs ++ ds) = lb cs ++ lb ds := by simp [lb]
end Kit6
end Jvm.OwnKit
namespace Jvm.OwnKit
open Jvm Jvm.ClassFile Sem Op Lib Jvm.Free Jvm.Stand Jvm.LawKit Jvm.RoadKit Bundle
section Kit7
variable {Z : State} {h h' h2 : Heap}
theorem own_shl0 (x : Int32) : x <<< ((0 : Int32) &&& 31) = x := by simp
theorem own_shr0 (x : Int32) : x >>> ((0 : Int32) &&& 31) = x := by simp
theorem own_plus2 (n : Nat) : Int32.ofNat n + 2 = Int32.ofNat (n + 2) := on_add n 2
theorem own_nmax {n : Nat} (h : n < 2 ^ 30) : ¬ Int32.ofNat n = (2147483647 : Int32) := by
  rw [← Int32.toInt_inj, on_int (by omega)]
  have : (2147483647 : Int32).toInt = 2147483647 := rfl
  omega
theorem own_cap {n : Nat} (h : n < 2 ^ 30) : ¬ (2147483639 : Int32) < Int32.ofNat n := by
  rw [Int32.lt_iff_toInt_lt, on_int (by omega)]
  have : (2147483639 : Int32).toInt = 2147483639 := rfl
  omega
theorem own_subint {i j : Nat} (hi : i < 2 ^ 30) (hj : j < 2 ^ 30) : (Int32.ofNat i - Int32.ofNat j).toInt = (i : Int) - j := by
  have q := c_isub (Int32.ofNat i) (Int32.ofNat j)
  rw [on_int (by omega), on_int (by omega)] at q
  have r := rng32 (Int32.ofNat i - Int32.ofNat j)
  omega
theorem own_suble {i j : Nat} (h : i ≤ j) (hj : j < 2 ^ 30) : ¬ 0 < Int32.ofNat i - Int32.ofNat j := by
  rw [Int32.lt_iff_toInt_lt, own_subint (by omega) hj, Int32.toInt_zero]; omega
theorem own_subgt {i j : Nat} (h : j < i) (hi : i < 2 ^ 30) : 0 < Int32.ofNat i - Int32.ofNat j := by
  rw [Int32.lt_iff_toInt_lt, own_subint hi (by omega), Int32.toInt_zero]; omega
theorem own_pad {a : Addr} {k : ClassId} {ty : FieldType} {z : Int32} {vs : List Value} {dv : Value} {N : Nat} (A : Arv Z h a k ty z vs dv) : Arv Z h a k ty z (vs ++ List.replicate (N - vs.length) dv) dv := A.pad (pad_rep vs dv _)
theorem own_padlen {vs : List Value} {dv : Value} {N : Nat} (q : vs.length ≤ N) : (vs ++ List.replicate (N - vs.length) dv).length = N := by simp; omega
theorem own_all (ds : List Int32) : lb ds = (List.range ds.length).map fun i => (lb ds).getD ((0 : Int32).toNatClampNeg + i) (.int 0) := by
  have q := own_us (cs := ds) (f := 0) (n := ds.length) (by omega)
  rw [sub_all] at q
  exact q.symm
theorem own_copied {a : Addr} {k : ClassId} {cs : List Int32} {N n : Nat} (A : Arv Z h a k .byte (Int32.ofNat n) (List.take (0 : Int32).toNatClampNeg (List.replicate N (Value.int 0)) ++ ((List.range N).map fun i => (lb cs).getD (0 + i) (.int 0)) ++ List.drop ((0 : Int32).toNatClampNeg + (Int32.ofNat N).toNatClampNeg) (List.replicate N (Value.int 0))) (.int 0)) (hN : N < 2 ^ 31) (hc : cs.length ≤ N) :
    Arv Z h a k .byte (Int32.ofNat n) (lb cs) (.int 0) := by
  refine A.pad fun i => ?_
  rw [on_clamp hN]
  have e : (List.take (0 : Int32).toNatClampNeg (List.replicate N (Value.int 0)) ++ ((List.range N).map fun i => (lb cs).getD (0 + i) (.int 0)) ++ List.drop ((0 : Int32).toNatClampNeg + N) (List.replicate N (Value.int 0))) = (List.range N).map fun i => (lb cs).getD i (.int 0) := by
    show List.take 0 _ ++ _ ++ List.drop (0 + N) _ = _
    simp
  rw [e]
  by_cases hi : i < N
  · simp [List.getD_eq_getElem?_getD, hi]
  · have h1 : (lb cs).length ≤ i := by rw [lb_len]; omega
    simp [List.getD_eq_getElem?_getD, hi, h1]
theorem own_laid {a : Addr} {k : ClassId} {cs ds : List Int32} {N : Nat} (A : Arv Z h a k .byte (Int32.ofNat N) (List.take (Int32.ofNat cs.length).toNatClampNeg (lb cs ++ List.replicate (N - (lb cs).length) (Value.int 0)) ++ lb ds ++ List.drop ((Int32.ofNat cs.length).toNatClampNeg + (Int32.ofNat ds.length).toNatClampNeg) (lb cs ++ List.replicate (N - (lb cs).length) (Value.int 0))) (.int 0)) (hN : N < 2 ^ 31) (hf : cs.length + ds.length ≤ N) :
    Arv Z h a k .byte (Int32.ofNat N) (lb (cs ++ ds)) (.int 0) := by
  refine A.pad fun i => ?_
  rw [on_clamp (by omega), on_clamp (by omega)]
  have e1 : List.take cs.length (lb cs ++ List.replicate (N - (lb cs).length) (Value.int 0)) = lb cs := by
    rw [List.take_append_of_le_length (by rw [lb_len]; exact Nat.le_refl _), List.take_of_length_le (by rw [lb_len]; exact Nat.le_refl _)]
  have e2 : List.drop (cs.length + ds.length) (lb cs ++ List.replicate (N - (lb cs).length) (Value.int 0)) = List.replicate (N - (cs.length + ds.length)) (Value.int 0) := by
    rw [List.drop_append, List.drop_eq_nil_of_le (by rw [lb_len]; omega), List.nil_append, List.drop_replicate, lb_len]
    congr 1
    omega
  rw [e1, e2, lb_app]
  exact (pad_rep (lb cs ++ lb ds) (.int 0) _ i).symm
theorem own_keep1 {a b : Addr} (K : Keep h h' [b]) : Keep h h' [a, b] := ⟨K.1, fun x c q r => K.2.1 x c q (fun z => r (List.mem_cons_of_mem _ z)), K.2.2⟩
theorem own_keep2 {h3 h4 : Heap} {a b d : Addr} {sl : Nat} {v : Value} (K : Keep h h' [a]) (K2 : Keep h' h3 [d]) (W : Wr h3 h4 a sl v) (y : h.size ≤ d) : Keep h h4 [a, b] := by
  have K' : Keep h h' [a, b] := ⟨K.1, fun x c q r => K.2.1 x c q (fun z => r (by rw [List.mem_singleton.mp z]; exact List.mem_cons_self ..)), K.2.2⟩
  have K3 : Keep h h3 [a, b] := K'.trans K2 (fun x hx => by rw [List.mem_singleton.mp hx]; exact Or.inr y)
  exact K3.wr W (Or.inl (List.mem_cons_self ..))
theorem LatB.keep {a b : Addr} {cs : List Int32} {ws : List Addr} (L : LatB Z h a b cs) (K : Keep h h' ws) (ha : a ∉ ws) (hb : b ∉ ws) : LatB Z h' a b cs := by
  obtain ⟨k, h1, h2, h3, h4, h5⟩ := L
  exact ⟨k, h1.keep K, h2.keep K ha, h3.keep K ha, h4.keep K hb, h5⟩
end Kit7
end Jvm.OwnKit
namespace Jvm.OwnKit
open Jvm Jvm.ClassFile Sem Op Lib Jvm.Free Jvm.Stand Jvm.LawKit Jvm.RoadKit Bundle
section Kit8
theorem own_gl {xs ys : List Int32} {i : Nat} (h : i < xs.length) : (xs ++ ys).getD i 0 = xs.getD i 0 := by
  simp [List.getD_eq_getElem?_getD, List.getElem?_append_left h]
theorem own_gr {xs ys : List Int32} {n k : Nat} (h : xs.length = n) : (xs ++ ys).getD (n + k) 0 = ys.getD k 0 := by
  subst h
  simp [List.getD_eq_getElem?_getD, List.getElem?_append_right]
theorem own_gr0 {xs ys : List Int32} {n : Nat} (h : xs.length = n) : (xs ++ ys).getD n 0 = ys.getD 0 0 := own_gr (k := 0) h
theorem own_sub0 {c0 c1 : Int32} {n : Nat} (h : 1 ≤ n) : (sub [c0, c1] 0 n).getD 0 0 = c0 := by
  rw [sub_get (by omega)]; rfl
theorem own_sub1 {c0 c1 : Int32} {n : Nat} (h : 2 ≤ n) : (sub [c0, c1] 0 n).getD 1 0 = c1 := by
  rw [sub_get (by omega)]; rfl
theorem own_012 {n : Nat} (h : n ≤ 2) : n = 0 ∨ n = 1 ∨ n = 2 := by omega
theorem own_0123 {n : Nat} (h : n ≤ 3) : n = 0 ∨ n = 1 ∨ n = 2 ∨ n = 3 := by omega
theorem own_on {x : Int32} {k : Nat} (h : x.toInt = k) (hk : k < 2 ^ 31) : x = Int32.ofNat k := by
  rw [← Int32.toInt_inj, on_int hk]; exact h
theorem on_lit {n k : Nat} (x : Int32) (h : Int32.ofNat k = x) (hn : n < 2 ^ 31) (hk : k < 2 ^ 31) : Int32.ofNat n < x ↔ n < k := by
  subst h
  constructor
  · intro q
    rw [Int32.lt_iff_toInt_lt, on_int hn, on_int hk] at q; omega
  · intro q; exact on_lt q hk
theorem own_latk {Z : State} {a0 : Array Value} {h h' : Heap} {a x : Addr} {cs : List Int32} {C : String} {n : Nat} (L : Lat Z h a cs) (K : Keep h h' [x]) (EX : Exa Z h x C) (hC : "java/lang/String" ≠ C) (w : (Cond.instantiable C n).before a0 Z = true) : Lat Z h' a cs := by
  obtain ⟨b, k, h1, h2, h3, h4, h5⟩ := L
  have ha : a ∉ [x] := ninS (Exa.ne h1 EX hC) nin0
  exact ⟨b, k, h1.keep K, h2.keep K ha, h3.keep K ha, h4.keep K (ninS (EX.neArv h4 w).symm nin0), h5⟩
theorem own_mod3 (x : Int32) : ∃ k : Nat, k ≤ 2 ∧ (x &&& (3 : Int32)) % (3 : Int32) = Int32.ofNat k := by
  have q := c_mask x 3 2 (by omega) (by decide)
  have r := c_irem (x &&& 3) 3 3 rfl
  have := r.1 (by omega)
  refine ⟨((x &&& (3 : Int32)) % (3 : Int32)).toInt.toNat, by omega, own_on (by omega) (by omega)⟩
theorem own_ge1 {n : Nat} (hn : n < 2 ^ 31) (q : ¬ Int32.ofNat n < 1) : 1 ≤ n := by
  exact Nat.le_of_not_lt fun z => q ((on_lit (n := n) (k := 1) 1 rfl hn (by decide)).mpr z)
theorem own_ge2 {n : Nat} (hn : n < 2 ^ 31) (q : ¬ Int32.ofNat n < 2) : 2 ≤ n := by
  exact Nat.le_of_not_lt fun z => q ((on_lit (n := n) (k := 2) 2 rfl hn (by decide)).mpr z)
theorem own_ge3 {n : Nat} (hn : n < 2 ^ 31) (q : ¬ Int32.ofNat n < 3) : 3 ≤ n := by
  exact Nat.le_of_not_lt fun z => q ((on_lit (n := n) (k := 3) 3 rfl hn (by decide)).mpr z)
end Kit8
end Jvm.OwnKit
namespace Jvm.Pilot.@@N@@
open Jvm Jvm.ClassFile Sem Op Lib Jvm.Free Jvm.Stand Jvm.LawKit Jvm.RoadKit Bundle Jvm.OwnKit Jvm.Pilot.@@N@@.Jvm.D
theorem d_jdk_52_method_15_0 : decode jdk_52_method_15_code 0 = .ok (.iload_n 1, 1) := by decide +kernel
theorem d_jdk_52_method_15_1 : decode jdk_52_method_15_code 1 = .ok (.aload_n 0, 1) := by decide +kernel
theorem d_jdk_52_method_15_2 : decode jdk_52_method_15_code 2 = .ok (.arraylength, 1) := by decide +kernel
theorem d_jdk_52_method_15_3 : decode jdk_52_method_15_code 3 = .ok (.isub, 1) := by decide +kernel
theorem d_jdk_52_method_15_4 : decode jdk_52_method_15_code 4 = .ok (.bipush 31, 2) := by decide +kernel
theorem d_jdk_52_method_15_6 : decode jdk_52_method_15_code 6 = .ok (.iushr, 1) := by decide +kernel
theorem d_jdk_52_method_15_7 : decode jdk_52_method_15_code 7 = .ok (.i2b, 1) := by decide +kernel
theorem d_jdk_52_method_15_8 : decode jdk_52_method_15_code 8 = .ok (.ireturn, 1) := by decide +kernel
theorem d_jdk_52_method_21_3 : decode jdk_52_method_21_code 3 = .ok (.iload 5, 2) := by decide +kernel
theorem d_jdk_52_method_21_5 : decode jdk_52_method_21_code 5 = .ok (.iload 4, 2) := by decide +kernel
theorem d_jdk_52_method_21_7 : decode jdk_52_method_21_code 7 = .ok (.if_icmp .ge 37, 3) := by decide +kernel
theorem d_jdk_52_method_21_44 : decode jdk_52_method_21_code 44 = .ok (.iload 4, 2) := by decide +kernel
theorem d_jdk_52_method_21_46 : decode jdk_52_method_21_code 46 = .ok (.ireturn, 1) := by decide +kernel
theorem d_jdk_52_method_21_10 : decode jdk_52_method_21_code 10 = .ok (.aload_n 0, 1) := by decide +kernel
theorem d_jdk_52_method_21_11 : decode jdk_52_method_21_code 11 = .ok (.iload_n 1, 1) := by decide +kernel
theorem d_jdk_52_method_21_12 : decode jdk_52_method_21_code 12 = .ok (.caload, 1) := by decide +kernel
theorem d_jdk_52_method_21_13 : decode jdk_52_method_21_code 13 = .ok (.istore 6, 2) := by decide +kernel
theorem d_jdk_52_method_21_15 : decode jdk_52_method_21_code 15 = .ok (.iload 6, 2) := by decide +kernel
theorem d_jdk_52_method_21_17 : decode jdk_52_method_21_code 17 = .ok (.sipush 255, 3) := by decide +kernel
theorem d_jdk_52_method_21_20 : decode jdk_52_method_21_code 20 = .ok (.if_icmp .le 6, 3) := by decide +kernel
theorem d_jdk_52_method_21_26 : decode jdk_52_method_21_code 26 = .ok (.aload_n 2, 1) := by decide +kernel
theorem d_jdk_52_method_21_27 : decode jdk_52_method_21_code 27 = .ok (.iload_n 3, 1) := by decide +kernel
theorem d_jdk_52_method_21_28 : decode jdk_52_method_21_code 28 = .ok (.iload 6, 2) := by decide +kernel
theorem d_jdk_52_method_21_30 : decode jdk_52_method_21_code 30 = .ok (.i2b, 1) := by decide +kernel
theorem d_jdk_52_method_21_31 : decode jdk_52_method_21_code 31 = .ok (.bastore, 1) := by decide +kernel
theorem d_jdk_52_method_21_32 : decode jdk_52_method_21_code 32 = .ok (.iinc 1 1, 3) := by decide +kernel
theorem d_jdk_52_method_21_35 : decode jdk_52_method_21_code 35 = .ok (.iinc 3 1, 3) := by decide +kernel
theorem d_jdk_52_method_21_38 : decode jdk_52_method_21_code 38 = .ok (.iinc 5 1, 3) := by decide +kernel
theorem d_jdk_52_method_21_41 : decode jdk_52_method_21_code 41 = .ok (.goto (-38), 3) := by decide +kernel
theorem d_jdk_52_method_21_0 : decode jdk_52_method_21_code 0 = .ok (.iconst 0, 1) := by decide +kernel
theorem d_jdk_52_method_21_1 : decode jdk_52_method_21_code 1 = .ok (.istore 5, 2) := by decide +kernel
theorem d_jdk_52_method_16_0 : decode jdk_52_method_16_code 0 = .ok (.iload_n 2, 1) := by decide +kernel
theorem d_jdk_52_method_16_1 : decode jdk_52_method_16_code 1 = .ok (.newarray .byte, 2) := by decide +kernel
theorem d_jdk_52_method_16_3 : decode jdk_52_method_16_code 3 = .ok (.astore_n 3, 1) := by decide +kernel
theorem d_jdk_52_method_16_4 : decode jdk_52_method_16_code 4 = .ok (.aload_n 0, 1) := by decide +kernel
theorem d_jdk_52_method_16_5 : decode jdk_52_method_16_code 5 = .ok (.iload_n 1, 1) := by decide +kernel
theorem d_jdk_52_method_16_6 : decode jdk_52_method_16_code 6 = .ok (.aload_n 3, 1) := by decide +kernel
theorem d_jdk_52_method_16_7 : decode jdk_52_method_16_code 7 = .ok (.iconst 0, 1) := by decide +kernel
theorem d_jdk_52_method_16_8 : decode jdk_52_method_16_code 8 = .ok (.iload_n 2, 1) := by decide +kernel
theorem d_jdk_52_method_16_9 : decode jdk_52_method_16_code 9 = .ok (.invokestatic 115, 3) := by decide +kernel
theorem d_jdk_52_method_16_12 : decode jdk_52_method_16_code 12 = .ok (.istore 4, 2) := by decide +kernel
theorem d_jdk_52_method_16_14 : decode jdk_52_method_16_code 14 = .ok (.iload 4, 2) := by decide +kernel
theorem d_jdk_52_method_16_16 : decode jdk_52_method_16_code 16 = .ok (.iload_n 2, 1) := by decide +kernel
theorem d_jdk_52_method_16_17 : decode jdk_52_method_16_code 17 = .ok (.if_icmp .eq 40, 3) := by decide +kernel
theorem d_jdk_52_method_16_57 : decode jdk_52_method_16_code 57 = .ok (.aload_n 3, 1) := by decide +kernel
theorem d_jdk_52_method_16_58 : decode jdk_52_method_16_code 58 = .ok (.areturn, 1) := by decide +kernel
theorem d_jdk_42_method_149_0 : decode jdk_42_method_149_code 0 = .ok (.aload_n 0, 1) := by decide +kernel
theorem d_jdk_42_method_149_1 : decode jdk_42_method_149_code 1 = .ok (.invokespecial 1, 3) := by decide +kernel
theorem d_jdk_42_method_149_4 : decode jdk_42_method_149_code 4 = .ok (.iload_n 3, 1) := by decide +kernel
theorem d_jdk_42_method_149_5 : decode jdk_42_method_149_code 5 = .ok (.ifCond .ne 22, 3) := by decide +kernel
theorem d_jdk_42_method_149_8 : decode jdk_42_method_149_code 8 = .ok (.aload_n 0, 1) := by decide +kernel
theorem d_jdk_42_method_149_9 : decode jdk_42_method_149_code 9 = .ok (.ldc 7, 2) := by decide +kernel
theorem d_jdk_42_method_149_11 : decode jdk_42_method_149_code 11 = .ok (.getfield 9, 3) := by decide +kernel
theorem d_jdk_42_method_149_14 : decode jdk_42_method_149_code 14 = .ok (.putfield 9, 3) := by decide +kernel
theorem d_jdk_42_method_149_17 : decode jdk_42_method_149_code 17 = .ok (.aload_n 0, 1) := by decide +kernel
theorem d_jdk_42_method_149_18 : decode jdk_42_method_149_code 18 = .ok (.ldc 7, 2) := by decide +kernel
theorem d_jdk_42_method_149_20 : decode jdk_42_method_149_code 20 = .ok (.getfield 15, 3) := by decide +kernel
theorem d_jdk_42_method_149_23 : decode jdk_42_method_149_code 23 = .ok (.putfield 15, 3) := by decide +kernel
theorem d_jdk_42_method_149_26 : decode jdk_42_method_149_code 26 = .ok (.return_, 1) := by decide +kernel
theorem d_jdk_42_method_149_27 : decode jdk_42_method_149_code 27 = .ok (.getstatic 38, 3) := by decide +kernel
theorem d_jdk_42_method_149_30 : decode jdk_42_method_149_code 30 = .ok (.ifCond .eq 28, 3) := by decide +kernel
theorem d_jdk_42_method_149_33 : decode jdk_42_method_149_code 33 = .ok (.aload_n 1, 1) := by decide +kernel
theorem d_jdk_42_method_149_34 : decode jdk_42_method_149_code 34 = .ok (.iload_n 2, 1) := by decide +kernel
theorem d_jdk_42_method_149_35 : decode jdk_42_method_149_code 35 = .ok (.iload_n 3, 1) := by decide +kernel
theorem d_jdk_42_method_149_36 : decode jdk_42_method_149_code 36 = .ok (.invokestatic 177, 3) := by decide +kernel
theorem d_jdk_42_method_149_39 : decode jdk_42_method_149_code 39 = .ok (.astore 5, 2) := by decide +kernel
theorem d_jdk_42_method_149_41 : decode jdk_42_method_149_code 41 = .ok (.aload_n 0, 1) := by decide +kernel
theorem d_jdk_42_method_149_42 : decode jdk_42_method_149_code 42 = .ok (.aload 5, 2) := by decide +kernel
theorem d_jdk_42_method_149_44 : decode jdk_42_method_149_code 44 = .ok (.iload_n 3, 1) := by decide +kernel
theorem d_jdk_42_method_149_45 : decode jdk_42_method_149_code 45 = .ok (.invokestatic 47, 3) := by decide +kernel
theorem d_jdk_42_method_149_48 : decode jdk_42_method_149_code 48 = .ok (.putfield 15, 3) := by decide +kernel
theorem d_jdk_42_method_149_51 : decode jdk_42_method_149_code 51 = .ok (.aload_n 0, 1) := by decide +kernel
theorem d_jdk_42_method_149_52 : decode jdk_42_method_149_code 52 = .ok (.aload 5, 2) := by decide +kernel
theorem d_jdk_42_method_149_54 : decode jdk_42_method_149_code 54 = .ok (.putfield 9, 3) := by decide +kernel
theorem d_jdk_42_method_149_57 : decode jdk_42_method_149_code 57 = .ok (.return_, 1) := by decide +kernel
theorem d_jdk_42_method_3_0 : decode jdk_42_method_3_code 0 = .ok (.aload_n 0, 1) := by decide +kernel
theorem d_jdk_42_method_3_1 : decode jdk_42_method_3_code 1 = .ok (.aload_n 1, 1) := by decide +kernel
theorem d_jdk_42_method_3_2 : decode jdk_42_method_3_code 2 = .ok (.iconst 0, 1) := by decide +kernel
theorem d_jdk_42_method_3_3 : decode jdk_42_method_3_code 3 = .ok (.aload_n 1, 1) := by decide +kernel
theorem d_jdk_42_method_3_4 : decode jdk_42_method_3_code 4 = .ok (.arraylength, 1) := by decide +kernel
theorem d_jdk_42_method_3_5 : decode jdk_42_method_3_code 5 = .ok (.aconst_null, 1) := by decide +kernel
theorem d_jdk_42_method_3_6 : decode jdk_42_method_3_code 6 = .ok (.invokespecial 27, 3) := by decide +kernel
theorem d_jdk_42_method_3_9 : decode jdk_42_method_3_code 9 = .ok (.return_, 1) := by decide +kernel
theorem d_jdk_42_method_152_0 : decode jdk_42_method_152_code 0 = .ok (.getstatic 38, 3) := by decide +kernel
theorem d_jdk_42_method_152_3 : decode jdk_42_method_152_code 3 = .ok (.ifCond .eq 10, 3) := by decide +kernel
theorem d_jdk_42_method_152_6 : decode jdk_42_method_152_code 6 = .ok (.aload_n 0, 1) := by decide +kernel
theorem d_jdk_42_method_152_7 : decode jdk_42_method_152_code 7 = .ok (.getfield 15, 3) := by decide +kernel
theorem d_jdk_42_method_152_10 : decode jdk_42_method_152_code 10 = .ok (.goto 4, 3) := by decide +kernel
theorem d_jdk_42_method_152_14 : decode jdk_42_method_152_code 14 = .ok (.ireturn, 1) := by decide +kernel
theorem d_jdk_42_method_54_0 : decode jdk_42_method_54_code 0 = .ok (.aload_n 0, 1) := by decide +kernel
theorem d_jdk_42_method_54_1 : decode jdk_42_method_54_code 1 = .ok (.getfield 9, 3) := by decide +kernel
theorem d_jdk_42_method_54_4 : decode jdk_42_method_54_code 4 = .ok (.arraylength, 1) := by decide +kernel
theorem d_jdk_42_method_54_5 : decode jdk_42_method_54_code 5 = .ok (.aload_n 0, 1) := by decide +kernel
theorem d_jdk_42_method_54_6 : decode jdk_42_method_54_code 6 = .ok (.invokevirtual 335, 3) := by decide +kernel
theorem d_jdk_42_method_54_9 : decode jdk_42_method_54_code 9 = .ok (.ishr, 1) := by decide +kernel
theorem d_jdk_42_method_54_10 : decode jdk_42_method_54_code 10 = .ok (.ireturn, 1) := by decide +kernel
theorem d_jdk_42_method_154_0 : decode jdk_42_method_154_code 0 = .ok (.getstatic 38, 3) := by decide +kernel
theorem d_jdk_42_method_154_3 : decode jdk_42_method_154_code 3 = .ok (.ifCond .eq 14, 3) := by decide +kernel
theorem d_jdk_42_method_154_6 : decode jdk_42_method_154_code 6 = .ok (.aload_n 0, 1) := by decide +kernel
theorem d_jdk_42_method_154_7 : decode jdk_42_method_154_code 7 = .ok (.getfield 15, 3) := by decide +kernel
theorem d_jdk_42_method_154_10 : decode jdk_42_method_154_code 10 = .ok (.ifCond .ne 7, 3) := by decide +kernel
theorem d_jdk_42_method_154_13 : decode jdk_42_method_154_code 13 = .ok (.iconst 1, 1) := by decide +kernel
theorem d_jdk_42_method_154_14 : decode jdk_42_method_154_code 14 = .ok (.goto 4, 3) := by decide +kernel
theorem d_jdk_42_method_154_18 : decode jdk_42_method_154_code 18 = .ok (.ireturn, 1) := by decide +kernel
theorem d_jdk_41_method_11_0 : decode jdk_41_method_11_code 0 = .ok (.iload_n 0, 1) := by decide +kernel
theorem d_jdk_41_method_11_1 : decode jdk_41_method_11_code 1 = .ok (.ifCond .lt 8, 3) := by decide +kernel
theorem d_jdk_41_method_11_4 : decode jdk_41_method_11_code 4 = .ok (.iload_n 0, 1) := by decide +kernel
theorem d_jdk_41_method_11_5 : decode jdk_41_method_11_code 5 = .ok (.iload_n 1, 1) := by decide +kernel
theorem d_jdk_41_method_11_6 : decode jdk_41_method_11_code 6 = .ok (.if_icmp .lt 10, 3) := by decide +kernel
theorem d_jdk_41_method_11_16 : decode jdk_41_method_11_code 16 = .ok (.iload_n 0, 1) := by decide +kernel
theorem d_jdk_41_method_11_17 : decode jdk_41_method_11_code 17 = .ok (.ireturn, 1) := by decide +kernel
theorem d_jdk_42_method_155_0 : decode jdk_42_method_155_code 0 = .ok (.iload_n 0, 1) := by decide +kernel
theorem d_jdk_42_method_155_1 : decode jdk_42_method_155_code 1 = .ok (.iload_n 1, 1) := by decide +kernel
theorem d_jdk_42_method_155_2 : decode jdk_42_method_155_code 2 = .ok (.getstatic 1053, 3) := by decide +kernel
theorem d_jdk_42_method_155_5 : decode jdk_42_method_155_code 5 = .ok (.invokestatic 1059, 3) := by decide +kernel
theorem d_jdk_42_method_155_8 : decode jdk_42_method_155_code 8 = .ok (.pop, 1) := by decide +kernel
theorem d_jdk_42_method_155_9 : decode jdk_42_method_155_code 9 = .ok (.return_, 1) := by decide +kernel
theorem d_jdk_43_method_2_0 : decode jdk_43_method_2_code 0 = .ok (.iload_n 1, 1) := by decide +kernel
theorem d_jdk_43_method_2_1 : decode jdk_43_method_2_code 1 = .ok (.aload_n 0, 1) := by decide +kernel
theorem d_jdk_43_method_2_2 : decode jdk_43_method_2_code 2 = .ok (.arraylength, 1) := by decide +kernel
theorem d_jdk_43_method_2_3 : decode jdk_43_method_2_code 3 = .ok (.invokestatic 9, 3) := by decide +kernel
theorem d_jdk_43_method_2_6 : decode jdk_43_method_2_code 6 = .ok (.aload_n 0, 1) := by decide +kernel
theorem d_jdk_43_method_2_7 : decode jdk_43_method_2_code 7 = .ok (.iload_n 1, 1) := by decide +kernel
theorem d_jdk_43_method_2_8 : decode jdk_43_method_2_code 8 = .ok (.baload, 1) := by decide +kernel
theorem d_jdk_43_method_2_9 : decode jdk_43_method_2_code 9 = .ok (.sipush 255, 3) := by decide +kernel
theorem d_jdk_43_method_2_12 : decode jdk_43_method_2_code 12 = .ok (.iand, 1) := by decide +kernel
theorem d_jdk_43_method_2_13 : decode jdk_43_method_2_code 13 = .ok (.i2c, 1) := by decide +kernel
theorem d_jdk_43_method_2_14 : decode jdk_43_method_2_code 14 = .ok (.ireturn, 1) := by decide +kernel
theorem d_jdk_42_method_56_0 : decode jdk_42_method_56_code 0 = .ok (.aload_n 0, 1) := by decide +kernel
theorem d_jdk_42_method_56_1 : decode jdk_42_method_56_code 1 = .ok (.invokevirtual 492, 3) := by decide +kernel
theorem d_jdk_42_method_56_4 : decode jdk_42_method_56_code 4 = .ok (.ifCond .eq 12, 3) := by decide +kernel
theorem d_jdk_42_method_56_7 : decode jdk_42_method_56_code 7 = .ok (.aload_n 0, 1) := by decide +kernel
theorem d_jdk_42_method_56_8 : decode jdk_42_method_56_code 8 = .ok (.getfield 9, 3) := by decide +kernel
theorem d_jdk_42_method_56_11 : decode jdk_42_method_56_code 11 = .ok (.iload_n 1, 1) := by decide +kernel
theorem d_jdk_42_method_56_12 : decode jdk_42_method_56_code 12 = .ok (.invokestatic 495, 3) := by decide +kernel
theorem d_jdk_42_method_56_15 : decode jdk_42_method_56_code 15 = .ok (.ireturn, 1) := by decide +kernel
theorem d_jdk_29_method_69_0 : decode jdk_29_method_69_code 0 = .ok (.iload_n 0, 1) := by decide +kernel
theorem d_jdk_29_method_69_1 : decode jdk_29_method_69_code 1 = .ok (.iload_n 1, 1) := by decide +kernel
theorem d_jdk_29_method_69_2 : decode jdk_29_method_69_code 2 = .ok (.if_icmp .gt 7, 3) := by decide +kernel
theorem d_jdk_29_method_69_9 : decode jdk_29_method_69_code 9 = .ok (.iload_n 1, 1) := by decide +kernel
theorem d_jdk_29_method_69_10 : decode jdk_29_method_69_code 10 = .ok (.ireturn, 1) := by decide +kernel
theorem d_jdk_29_method_69_5 : decode jdk_29_method_69_code 5 = .ok (.iload_n 0, 1) := by decide +kernel
theorem d_jdk_29_method_69_6 : decode jdk_29_method_69_code 6 = .ok (.goto 4, 3) := by decide +kernel
theorem d_jdk_65_method_131_0 : decode jdk_65_method_131_code 0 = .ok (.iload_n 1, 1) := by decide +kernel
theorem d_jdk_65_method_131_1 : decode jdk_65_method_131_code 1 = .ok (.iload_n 0, 1) := by decide +kernel
theorem d_jdk_65_method_131_2 : decode jdk_65_method_131_code 2 = .ok (.if_icmp .ge 35, 3) := by decide +kernel
theorem d_jdk_65_method_131_37 : decode jdk_65_method_131_code 37 = .ok (.return_, 1) := by decide +kernel
theorem d_jdk_65_method_133_0 : decode jdk_65_method_133_code 0 = .ok (.iload_n 1, 1) := by decide +kernel
theorem d_jdk_65_method_133_1 : decode jdk_65_method_133_code 1 = .ok (.iload_n 2, 1) := by decide +kernel
theorem d_jdk_65_method_133_2 : decode jdk_65_method_133_code 2 = .ok (.invokestatic 343, 3) := by decide +kernel
theorem d_jdk_65_method_133_5 : decode jdk_65_method_133_code 5 = .ok (.iload_n 2, 1) := by decide +kernel
theorem d_jdk_65_method_133_6 : decode jdk_65_method_133_code 6 = .ok (.iload_n 1, 1) := by decide +kernel
theorem d_jdk_65_method_133_7 : decode jdk_65_method_133_code 7 = .ok (.isub, 1) := by decide +kernel
theorem d_jdk_65_method_133_8 : decode jdk_65_method_133_code 8 = .ok (.istore_n 3, 1) := by decide +kernel
theorem d_jdk_65_method_133_9 : decode jdk_65_method_133_code 9 = .ok (.iload_n 3, 1) := by decide +kernel
theorem d_jdk_65_method_133_10 : decode jdk_65_method_133_code 10 = .ok (.newarray .byte, 2) := by decide +kernel
theorem d_jdk_65_method_133_12 : decode jdk_65_method_133_code 12 = .ok (.astore 4, 2) := by decide +kernel
theorem d_jdk_65_method_133_14 : decode jdk_65_method_133_code 14 = .ok (.aload_n 0, 1) := by decide +kernel
theorem d_jdk_65_method_133_15 : decode jdk_65_method_133_code 15 = .ok (.iload_n 1, 1) := by decide +kernel
theorem d_jdk_65_method_133_16 : decode jdk_65_method_133_code 16 = .ok (.aload 4, 2) := by decide +kernel
theorem d_jdk_65_method_133_18 : decode jdk_65_method_133_code 18 = .ok (.iconst 0, 1) := by decide +kernel
theorem d_jdk_65_method_133_19 : decode jdk_65_method_133_code 19 = .ok (.aload_n 0, 1) := by decide +kernel
theorem d_jdk_65_method_133_20 : decode jdk_65_method_133_code 20 = .ok (.arraylength, 1) := by decide +kernel
theorem d_jdk_65_method_133_21 : decode jdk_65_method_133_code 21 = .ok (.iload_n 1, 1) := by decide +kernel
theorem d_jdk_65_method_133_22 : decode jdk_65_method_133_code 22 = .ok (.isub, 1) := by decide +kernel
theorem d_jdk_65_method_133_23 : decode jdk_65_method_133_code 23 = .ok (.iload_n 3, 1) := by decide +kernel
theorem d_jdk_65_method_133_24 : decode jdk_65_method_133_code 24 = .ok (.invokestatic 304, 3) := by decide +kernel
theorem d_jdk_65_method_133_27 : decode jdk_65_method_133_code 27 = .ok (.invokestatic 150, 3) := by decide +kernel
theorem d_jdk_65_method_133_30 : decode jdk_65_method_133_code 30 = .ok (.aload 4, 2) := by decide +kernel
theorem d_jdk_65_method_133_32 : decode jdk_65_method_133_code 32 = .ok (.areturn, 1) := by decide +kernel
theorem d_jdk_65_method_132_0 : decode jdk_65_method_132_code 0 = .ok (.iload_n 1, 1) := by decide +kernel
theorem d_jdk_65_method_132_1 : decode jdk_65_method_132_code 1 = .ok (.ifCond .ne 9, 3) := by decide +kernel
theorem d_jdk_65_method_132_10 : decode jdk_65_method_132_code 10 = .ok (.aload_n 0, 1) := by decide +kernel
theorem d_jdk_65_method_132_11 : decode jdk_65_method_132_code 11 = .ok (.iload_n 1, 1) := by decide +kernel
theorem d_jdk_65_method_132_12 : decode jdk_65_method_132_code 12 = .ok (.iload_n 2, 1) := by decide +kernel
theorem d_jdk_65_method_132_13 : decode jdk_65_method_132_code 13 = .ok (.invokestatic 339, 3) := by decide +kernel
theorem d_jdk_65_method_132_16 : decode jdk_65_method_132_code 16 = .ok (.areturn, 1) := by decide +kernel
theorem d_jdk_65_method_132_4 : decode jdk_65_method_132_code 4 = .ok (.iload_n 2, 1) := by decide +kernel
theorem d_jdk_65_method_132_5 : decode jdk_65_method_132_code 5 = .ok (.aload_n 0, 1) := by decide +kernel
theorem d_jdk_65_method_132_6 : decode jdk_65_method_132_code 6 = .ok (.arraylength, 1) := by decide +kernel
theorem d_jdk_65_method_132_7 : decode jdk_65_method_132_code 7 = .ok (.if_icmp .eq 10, 3) := by decide +kernel
theorem d_jdk_68_method_2_0 : decode jdk_68_method_2_code 0 = .ok (.aload_n 0, 1) := by decide +kernel
theorem d_jdk_68_method_2_1 : decode jdk_68_method_2_code 1 = .ok (.invokespecial 3, 3) := by decide +kernel
theorem d_jdk_68_method_2_4 : decode jdk_68_method_2_code 4 = .ok (.getstatic 18, 3) := by decide +kernel
theorem d_jdk_68_method_2_7 : decode jdk_68_method_2_code 7 = .ok (.ifCond .eq 18, 3) := by decide +kernel
theorem d_jdk_68_method_2_10 : decode jdk_68_method_2_code 10 = .ok (.aload_n 0, 1) := by decide +kernel
theorem d_jdk_68_method_2_11 : decode jdk_68_method_2_code 11 = .ok (.iload_n 1, 1) := by decide +kernel
theorem d_jdk_68_method_2_12 : decode jdk_68_method_2_code 12 = .ok (.newarray .byte, 2) := by decide +kernel
theorem d_jdk_68_method_2_14 : decode jdk_68_method_2_code 14 = .ok (.putfield 15, 3) := by decide +kernel
theorem d_jdk_68_method_2_17 : decode jdk_68_method_2_code 17 = .ok (.aload_n 0, 1) := by decide +kernel
theorem d_jdk_68_method_2_18 : decode jdk_68_method_2_code 18 = .ok (.iconst 0, 1) := by decide +kernel
theorem d_jdk_68_method_2_19 : decode jdk_68_method_2_code 19 = .ok (.putfield 22, 3) := by decide +kernel
theorem d_jdk_68_method_2_22 : decode jdk_68_method_2_code 22 = .ok (.goto 16, 3) := by decide +kernel
theorem d_jdk_68_method_2_38 : decode jdk_68_method_2_code 38 = .ok (.return_, 1) := by decide +kernel
theorem d_jdk_67_method_1_0 : decode jdk_67_method_1_code 0 = .ok (.aload_n 0, 1) := by decide +kernel
theorem d_jdk_67_method_1_1 : decode jdk_67_method_1_code 1 = .ok (.bipush 16, 2) := by decide +kernel
theorem d_jdk_67_method_1_3 : decode jdk_67_method_1_code 3 = .ok (.invokespecial 1, 3) := by decide +kernel
theorem d_jdk_67_method_1_6 : decode jdk_67_method_1_code 6 = .ok (.return_, 1) := by decide +kernel
theorem d_jdk_29_method_65_0 : decode jdk_29_method_65_code 0 = .ok (.iload_n 0, 1) := by decide +kernel
theorem d_jdk_29_method_65_1 : decode jdk_29_method_65_code 1 = .ok (.iload_n 1, 1) := by decide +kernel
theorem d_jdk_29_method_65_2 : decode jdk_29_method_65_code 2 = .ok (.if_icmp .lt 7, 3) := by decide +kernel
theorem d_jdk_29_method_65_9 : decode jdk_29_method_65_code 9 = .ok (.iload_n 1, 1) := by decide +kernel
theorem d_jdk_29_method_65_10 : decode jdk_29_method_65_code 10 = .ok (.ireturn, 1) := by decide +kernel
theorem d_jdk_29_method_65_5 : decode jdk_29_method_65_code 5 = .ok (.iload_n 0, 1) := by decide +kernel
theorem d_jdk_29_method_65_6 : decode jdk_29_method_65_code 6 = .ok (.goto 4, 3) := by decide +kernel
theorem d_jdk_48_method_27_0 : decode jdk_48_method_27_code 0 = .ok (.iload_n 0, 1) := by decide +kernel
theorem d_jdk_48_method_27_1 : decode jdk_48_method_27_code 1 = .ok (.iload_n 1, 1) := by decide +kernel
theorem d_jdk_48_method_27_2 : decode jdk_48_method_27_code 2 = .ok (.iload_n 2, 1) := by decide +kernel
theorem d_jdk_48_method_27_3 : decode jdk_48_method_27_code 3 = .ok (.invokestatic 194, 3) := by decide +kernel
theorem d_jdk_48_method_27_6 : decode jdk_48_method_27_code 6 = .ok (.iadd, 1) := by decide +kernel
theorem d_jdk_48_method_27_7 : decode jdk_48_method_27_code 7 = .ok (.istore_n 3, 1) := by decide +kernel
theorem d_jdk_48_method_27_8 : decode jdk_48_method_27_code 8 = .ok (.iconst 0, 1) := by decide +kernel
theorem d_jdk_48_method_27_9 : decode jdk_48_method_27_code 9 = .ok (.iload_n 3, 1) := by decide +kernel
theorem d_jdk_48_method_27_10 : decode jdk_48_method_27_code 10 = .ok (.if_icmp .ge 11, 3) := by decide +kernel
theorem d_jdk_48_method_27_13 : decode jdk_48_method_27_code 13 = .ok (.iload_n 3, 1) := by decide +kernel
theorem d_jdk_48_method_27_14 : decode jdk_48_method_27_code 14 = .ok (.ldc 200, 2) := by decide +kernel
theorem d_jdk_48_method_27_16 : decode jdk_48_method_27_code 16 = .ok (.if_icmp .gt 5, 3) := by decide +kernel
theorem d_jdk_48_method_27_19 : decode jdk_48_method_27_code 19 = .ok (.iload_n 3, 1) := by decide +kernel
theorem d_jdk_48_method_27_20 : decode jdk_48_method_27_code 20 = .ok (.ireturn, 1) := by decide +kernel
theorem d_jdk_68_method_10_0 : decode jdk_68_method_10_code 0 = .ok (.aload_n 0, 1) := by decide +kernel
theorem d_jdk_68_method_10_1 : decode jdk_68_method_10_code 1 = .ok (.getfield 15, 3) := by decide +kernel
theorem d_jdk_68_method_10_4 : decode jdk_68_method_10_code 4 = .ok (.arraylength, 1) := by decide +kernel
theorem d_jdk_68_method_10_5 : decode jdk_68_method_10_code 5 = .ok (.istore_n 2, 1) := by decide +kernel
theorem d_jdk_68_method_10_6 : decode jdk_68_method_10_code 6 = .ok (.iload_n 1, 1) := by decide +kernel
theorem d_jdk_68_method_10_7 : decode jdk_68_method_10_code 7 = .ok (.aload_n 0, 1) := by decide +kernel
theorem d_jdk_68_method_10_8 : decode jdk_68_method_10_code 8 = .ok (.getfield 22, 3) := by decide +kernel
theorem d_jdk_68_method_10_11 : decode jdk_68_method_10_code 11 = .ok (.ishl, 1) := by decide +kernel
theorem d_jdk_68_method_10_12 : decode jdk_68_method_10_code 12 = .ok (.istore_n 3, 1) := by decide +kernel
theorem d_jdk_68_method_10_13 : decode jdk_68_method_10_code 13 = .ok (.iload_n 3, 1) := by decide +kernel
theorem d_jdk_68_method_10_14 : decode jdk_68_method_10_code 14 = .ok (.iload_n 2, 1) := by decide +kernel
theorem d_jdk_68_method_10_15 : decode jdk_68_method_10_code 15 = .ok (.isub, 1) := by decide +kernel
theorem d_jdk_68_method_10_16 : decode jdk_68_method_10_code 16 = .ok (.istore 4, 2) := by decide +kernel
theorem d_jdk_68_method_10_18 : decode jdk_68_method_10_code 18 = .ok (.iload_n 2, 1) := by decide +kernel
theorem d_jdk_68_method_10_19 : decode jdk_68_method_10_code 19 = .ok (.iload 4, 2) := by decide +kernel
theorem d_jdk_68_method_10_21 : decode jdk_68_method_10_code 21 = .ok (.iload_n 2, 1) := by decide +kernel
theorem d_jdk_68_method_10_22 : decode jdk_68_method_10_code 22 = .ok (.iconst 2, 1) := by decide +kernel
theorem d_jdk_68_method_10_23 : decode jdk_68_method_10_code 23 = .ok (.aload_n 0, 1) := by decide +kernel
theorem d_jdk_68_method_10_24 : decode jdk_68_method_10_code 24 = .ok (.getfield 22, 3) := by decide +kernel
theorem d_jdk_68_method_10_27 : decode jdk_68_method_10_code 27 = .ok (.ishl, 1) := by decide +kernel
theorem d_jdk_68_method_10_28 : decode jdk_68_method_10_code 28 = .ok (.iadd, 1) := by decide +kernel
theorem d_jdk_68_method_10_29 : decode jdk_68_method_10_code 29 = .ok (.invokestatic 114, 3) := by decide +kernel
theorem d_jdk_68_method_10_32 : decode jdk_68_method_10_code 32 = .ok (.istore 5, 2) := by decide +kernel
theorem d_jdk_68_method_10_34 : decode jdk_68_method_10_code 34 = .ok (.iload 5, 2) := by decide +kernel
theorem d_jdk_68_method_10_36 : decode jdk_68_method_10_code 36 = .ok (.ldc 39, 2) := by decide +kernel
theorem d_jdk_68_method_10_38 : decode jdk_68_method_10_code 38 = .ok (.if_icmp .ne 13, 3) := by decide +kernel
theorem d_jdk_68_method_10_51 : decode jdk_68_method_10_code 51 = .ok (.iload 5, 2) := by decide +kernel
theorem d_jdk_68_method_10_53 : decode jdk_68_method_10_code 53 = .ok (.aload_n 0, 1) := by decide +kernel
theorem d_jdk_68_method_10_54 : decode jdk_68_method_10_code 54 = .ok (.getfield 22, 3) := by decide +kernel
theorem d_jdk_68_method_10_57 : decode jdk_68_method_10_code 57 = .ok (.ishr, 1) := by decide +kernel
theorem d_jdk_68_method_10_58 : decode jdk_68_method_10_code 58 = .ok (.ireturn, 1) := by decide +kernel
theorem d_jdk_65_method_121_0 : decode jdk_65_method_121_code 0 = .ok (.iload_n 1, 1) := by decide +kernel
theorem d_jdk_65_method_121_1 : decode jdk_65_method_121_code 1 = .ok (.aload_n 0, 1) := by decide +kernel
theorem d_jdk_65_method_121_2 : decode jdk_65_method_121_code 2 = .ok (.arraylength, 1) := by decide +kernel
theorem d_jdk_65_method_121_3 : decode jdk_65_method_121_code 3 = .ok (.if_icmp .ne 11, 3) := by decide +kernel
theorem d_jdk_65_method_121_14 : decode jdk_65_method_121_code 14 = .ok (.iload_n 1, 1) := by decide +kernel
theorem d_jdk_65_method_121_15 : decode jdk_65_method_121_code 15 = .ok (.newarray .byte, 2) := by decide +kernel
theorem d_jdk_65_method_121_17 : decode jdk_65_method_121_code 17 = .ok (.astore_n 2, 1) := by decide +kernel
theorem d_jdk_65_method_121_18 : decode jdk_65_method_121_code 18 = .ok (.aload_n 0, 1) := by decide +kernel
theorem d_jdk_65_method_121_19 : decode jdk_65_method_121_code 19 = .ok (.iconst 0, 1) := by decide +kernel
theorem d_jdk_65_method_121_20 : decode jdk_65_method_121_code 20 = .ok (.aload_n 2, 1) := by decide +kernel
theorem d_jdk_65_method_121_21 : decode jdk_65_method_121_code 21 = .ok (.iconst 0, 1) := by decide +kernel
theorem d_jdk_65_method_121_22 : decode jdk_65_method_121_code 22 = .ok (.aload_n 0, 1) := by decide +kernel
theorem d_jdk_65_method_121_23 : decode jdk_65_method_121_code 23 = .ok (.arraylength, 1) := by decide +kernel
theorem d_jdk_65_method_121_24 : decode jdk_65_method_121_code 24 = .ok (.iload_n 1, 1) := by decide +kernel
theorem d_jdk_65_method_121_25 : decode jdk_65_method_121_code 25 = .ok (.invokestatic 304, 3) := by decide +kernel
theorem d_jdk_65_method_121_28 : decode jdk_65_method_121_code 28 = .ok (.invokestatic 150, 3) := by decide +kernel
theorem d_jdk_65_method_121_31 : decode jdk_65_method_121_code 31 = .ok (.aload_n 2, 1) := by decide +kernel
theorem d_jdk_65_method_121_32 : decode jdk_65_method_121_code 32 = .ok (.areturn, 1) := by decide +kernel
theorem d_jdk_68_method_9_0 : decode jdk_68_method_9_code 0 = .ok (.aload_n 0, 1) := by decide +kernel
theorem d_jdk_68_method_9_1 : decode jdk_68_method_9_code 1 = .ok (.getfield 15, 3) := by decide +kernel
theorem d_jdk_68_method_9_4 : decode jdk_68_method_9_code 4 = .ok (.arraylength, 1) := by decide +kernel
theorem d_jdk_68_method_9_5 : decode jdk_68_method_9_code 5 = .ok (.aload_n 0, 1) := by decide +kernel
theorem d_jdk_68_method_9_6 : decode jdk_68_method_9_code 6 = .ok (.getfield 22, 3) := by decide +kernel
theorem d_jdk_68_method_9_9 : decode jdk_68_method_9_code 9 = .ok (.ishr, 1) := by decide +kernel
theorem d_jdk_68_method_9_10 : decode jdk_68_method_9_code 10 = .ok (.istore_n 2, 1) := by decide +kernel
theorem d_jdk_68_method_9_11 : decode jdk_68_method_9_code 11 = .ok (.iload_n 1, 1) := by decide +kernel
theorem d_jdk_68_method_9_12 : decode jdk_68_method_9_code 12 = .ok (.iload_n 2, 1) := by decide +kernel
theorem d_jdk_68_method_9_13 : decode jdk_68_method_9_code 13 = .ok (.isub, 1) := by decide +kernel
theorem d_jdk_68_method_9_14 : decode jdk_68_method_9_code 14 = .ok (.ifCond .le 24, 3) := by decide +kernel
theorem d_jdk_68_method_9_17 : decode jdk_68_method_9_code 17 = .ok (.aload_n 0, 1) := by decide +kernel
theorem d_jdk_68_method_9_18 : decode jdk_68_method_9_code 18 = .ok (.aload_n 0, 1) := by decide +kernel
theorem d_jdk_68_method_9_19 : decode jdk_68_method_9_code 19 = .ok (.getfield 15, 3) := by decide +kernel
theorem d_jdk_68_method_9_22 : decode jdk_68_method_9_code 22 = .ok (.aload_n 0, 1) := by decide +kernel
theorem d_jdk_68_method_9_23 : decode jdk_68_method_9_code 23 = .ok (.iload_n 1, 1) := by decide +kernel
theorem d_jdk_68_method_9_24 : decode jdk_68_method_9_code 24 = .ok (.invokevirtual 104, 3) := by decide +kernel
theorem d_jdk_68_method_9_27 : decode jdk_68_method_9_code 27 = .ok (.aload_n 0, 1) := by decide +kernel
theorem d_jdk_68_method_9_28 : decode jdk_68_method_9_code 28 = .ok (.getfield 22, 3) := by decide +kernel
theorem d_jdk_68_method_9_31 : decode jdk_68_method_9_code 31 = .ok (.ishl, 1) := by decide +kernel
theorem d_jdk_68_method_9_32 : decode jdk_68_method_9_code 32 = .ok (.invokestatic 108, 3) := by decide +kernel
theorem d_jdk_68_method_9_35 : decode jdk_68_method_9_code 35 = .ok (.putfield 15, 3) := by decide +kernel
theorem d_jdk_68_method_9_38 : decode jdk_68_method_9_code 38 = .ok (.return_, 1) := by decide +kernel
theorem d_jdk_68_method_71_0 : decode jdk_68_method_71_code 0 = .ok (.getstatic 18, 3) := by decide +kernel
theorem d_jdk_68_method_71_3 : decode jdk_68_method_71_code 3 = .ok (.ifCond .eq 18, 3) := by decide +kernel
theorem d_jdk_68_method_71_6 : decode jdk_68_method_71_code 6 = .ok (.aload_n 0, 1) := by decide +kernel
theorem d_jdk_68_method_71_7 : decode jdk_68_method_71_code 7 = .ok (.getfield 22, 3) := by decide +kernel
theorem d_jdk_68_method_71_10 : decode jdk_68_method_71_code 10 = .ok (.aload_n 1, 1) := by decide +kernel
theorem d_jdk_68_method_71_11 : decode jdk_68_method_71_code 11 = .ok (.invokevirtual 40, 3) := by decide +kernel
theorem d_jdk_68_method_71_14 : decode jdk_68_method_71_code 14 = .ok (.if_icmp .eq 7, 3) := by decide +kernel
theorem d_jdk_68_method_71_21 : decode jdk_68_method_71_code 21 = .ok (.return_, 1) := by decide +kernel
theorem d_jdk_42_method_147_0 : decode jdk_42_method_147_code 0 = .ok (.aload_n 0, 1) := by decide +kernel
theorem d_jdk_42_method_147_1 : decode jdk_42_method_147_code 1 = .ok (.invokevirtual 335, 3) := by decide +kernel
theorem d_jdk_42_method_147_4 : decode jdk_42_method_147_code 4 = .ok (.iload_n 3, 1) := by decide +kernel
theorem d_jdk_42_method_147_5 : decode jdk_42_method_147_code 5 = .ok (.if_icmp .ne 23, 3) := by decide +kernel
theorem d_jdk_42_method_147_8 : decode jdk_42_method_147_code 8 = .ok (.aload_n 0, 1) := by decide +kernel
theorem d_jdk_42_method_147_9 : decode jdk_42_method_147_code 9 = .ok (.getfield 9, 3) := by decide +kernel
theorem d_jdk_42_method_147_12 : decode jdk_42_method_147_code 12 = .ok (.iconst 0, 1) := by decide +kernel
theorem d_jdk_42_method_147_13 : decode jdk_42_method_147_code 13 = .ok (.aload_n 1, 1) := by decide +kernel
theorem d_jdk_42_method_147_14 : decode jdk_42_method_147_code 14 = .ok (.iload_n 2, 1) := by decide +kernel
theorem d_jdk_42_method_147_15 : decode jdk_42_method_147_code 15 = .ok (.iload_n 3, 1) := by decide +kernel
theorem d_jdk_42_method_147_16 : decode jdk_42_method_147_code 16 = .ok (.ishl, 1) := by decide +kernel
theorem d_jdk_42_method_147_17 : decode jdk_42_method_147_code 17 = .ok (.aload_n 0, 1) := by decide +kernel
theorem d_jdk_42_method_147_18 : decode jdk_42_method_147_code 18 = .ok (.getfield 9, 3) := by decide +kernel
theorem d_jdk_42_method_147_21 : decode jdk_42_method_147_code 21 = .ok (.arraylength, 1) := by decide +kernel
theorem d_jdk_42_method_147_22 : decode jdk_42_method_147_code 22 = .ok (.invokestatic 212, 3) := by decide +kernel
theorem d_jdk_42_method_147_25 : decode jdk_42_method_147_code 25 = .ok (.goto 18, 3) := by decide +kernel
theorem d_jdk_42_method_147_43 : decode jdk_42_method_147_code 43 = .ok (.return_, 1) := by decide +kernel
theorem d_jdk_68_method_73_0 : decode jdk_68_method_73_code 0 = .ok (.aload_n 0, 1) := by decide +kernel
theorem d_jdk_68_method_73_1 : decode jdk_68_method_73_code 1 = .ok (.aload_n 2, 1) := by decide +kernel
theorem d_jdk_68_method_73_2 : decode jdk_68_method_73_code 2 = .ok (.invokevirtual 397, 3) := by decide +kernel
theorem d_jdk_68_method_73_5 : decode jdk_68_method_73_code 5 = .ok (.aload_n 2, 1) := by decide +kernel
theorem d_jdk_68_method_73_6 : decode jdk_68_method_73_code 6 = .ok (.aload_n 0, 1) := by decide +kernel
theorem d_jdk_68_method_73_7 : decode jdk_68_method_73_code 7 = .ok (.getfield 15, 3) := by decide +kernel
theorem d_jdk_68_method_73_10 : decode jdk_68_method_73_code 10 = .ok (.iload_n 1, 1) := by decide +kernel
theorem d_jdk_68_method_73_11 : decode jdk_68_method_73_code 11 = .ok (.aload_n 0, 1) := by decide +kernel
theorem d_jdk_68_method_73_12 : decode jdk_68_method_73_code 12 = .ok (.getfield 22, 3) := by decide +kernel
theorem d_jdk_68_method_73_15 : decode jdk_68_method_73_code 15 = .ok (.invokevirtual 399, 3) := by decide +kernel
theorem d_jdk_68_method_73_18 : decode jdk_68_method_73_code 18 = .ok (.return_, 1) := by decide +kernel
theorem d_jdk_68_method_22_0 : decode jdk_68_method_22_code 0 = .ok (.aload_n 1, 1) := by decide +kernel
theorem d_jdk_68_method_22_1 : decode jdk_68_method_22_code 1 = .ok (.ifnonnull 8, 3) := by decide +kernel
theorem d_jdk_68_method_22_9 : decode jdk_68_method_22_code 9 = .ok (.aload_n 1, 1) := by decide +kernel
theorem d_jdk_68_method_22_10 : decode jdk_68_method_22_code 10 = .ok (.invokevirtual 32, 3) := by decide +kernel
theorem d_jdk_68_method_22_13 : decode jdk_68_method_22_code 13 = .ok (.istore_n 2, 1) := by decide +kernel
theorem d_jdk_68_method_22_14 : decode jdk_68_method_22_code 14 = .ok (.aload_n 0, 1) := by decide +kernel
theorem d_jdk_68_method_22_15 : decode jdk_68_method_22_code 15 = .ok (.aload_n 0, 1) := by decide +kernel
theorem d_jdk_68_method_22_16 : decode jdk_68_method_22_code 16 = .ok (.getfield 79, 3) := by decide +kernel
theorem d_jdk_68_method_22_19 : decode jdk_68_method_22_code 19 = .ok (.iload_n 2, 1) := by decide +kernel
theorem d_jdk_68_method_22_20 : decode jdk_68_method_22_code 20 = .ok (.iadd, 1) := by decide +kernel
theorem d_jdk_68_method_22_21 : decode jdk_68_method_22_code 21 = .ok (.invokevirtual 100, 3) := by decide +kernel
theorem d_jdk_68_method_22_24 : decode jdk_68_method_22_code 24 = .ok (.aload_n 0, 1) := by decide +kernel
theorem d_jdk_68_method_22_25 : decode jdk_68_method_22_code 25 = .ok (.aload_n 0, 1) := by decide +kernel
theorem d_jdk_68_method_22_26 : decode jdk_68_method_22_code 26 = .ok (.getfield 79, 3) := by decide +kernel
theorem d_jdk_68_method_22_29 : decode jdk_68_method_22_code 29 = .ok (.aload_n 1, 1) := by decide +kernel
theorem d_jdk_68_method_22_30 : decode jdk_68_method_22_code 30 = .ok (.invokevirtual 208, 3) := by decide +kernel
theorem d_jdk_68_method_22_33 : decode jdk_68_method_22_code 33 = .ok (.aload_n 0, 1) := by decide +kernel
theorem d_jdk_68_method_22_34 : decode jdk_68_method_22_code 34 = .ok (.dup, 1) := by decide +kernel
theorem d_jdk_68_method_22_35 : decode jdk_68_method_22_code 35 = .ok (.getfield 79, 3) := by decide +kernel
theorem d_jdk_68_method_22_38 : decode jdk_68_method_22_code 38 = .ok (.iload_n 2, 1) := by decide +kernel
theorem d_jdk_68_method_22_39 : decode jdk_68_method_22_code 39 = .ok (.iadd, 1) := by decide +kernel
theorem d_jdk_68_method_22_40 : decode jdk_68_method_22_code 40 = .ok (.putfield 79, 3) := by decide +kernel
theorem d_jdk_68_method_22_43 : decode jdk_68_method_22_code 43 = .ok (.aload_n 0, 1) := by decide +kernel
theorem d_jdk_68_method_22_44 : decode jdk_68_method_22_code 44 = .ok (.areturn, 1) := by decide +kernel
theorem d_jdk_67_method_7_0 : decode jdk_67_method_7_code 0 = .ok (.aload_n 0, 1) := by decide +kernel
theorem d_jdk_67_method_7_1 : decode jdk_67_method_7_code 1 = .ok (.aload_n 1, 1) := by decide +kernel
theorem d_jdk_67_method_7_2 : decode jdk_67_method_7_code 2 = .ok (.invokespecial 29, 3) := by decide +kernel
theorem d_jdk_67_method_7_5 : decode jdk_67_method_7_code 5 = .ok (.pop, 1) := by decide +kernel
theorem d_jdk_67_method_7_6 : decode jdk_67_method_7_code 6 = .ok (.aload_n 0, 1) := by decide +kernel
theorem d_jdk_67_method_7_7 : decode jdk_67_method_7_code 7 = .ok (.areturn, 1) := by decide +kernel
theorem d_jdk_68_method_64_0 : decode jdk_68_method_64_code 0 = .ok (.aload_n 0, 1) := by decide +kernel
theorem d_jdk_68_method_64_1 : decode jdk_68_method_64_code 1 = .ok (.getfield 15, 3) := by decide +kernel
theorem d_jdk_68_method_64_4 : decode jdk_68_method_64_code 4 = .ok (.areturn, 1) := by decide +kernel
theorem d_jdk_68_method_6_0 : decode jdk_68_method_6_code 0 = .ok (.aload_n 0, 1) := by decide +kernel
theorem d_jdk_68_method_6_1 : decode jdk_68_method_6_code 1 = .ok (.getfield 79, 3) := by decide +kernel
theorem d_jdk_68_method_6_4 : decode jdk_68_method_6_code 4 = .ok (.ireturn, 1) := by decide +kernel
theorem d_jdk_67_method_93_0 : decode jdk_67_method_93_code 0 = .ok (.aload_n 0, 1) := by decide +kernel
theorem d_jdk_67_method_93_1 : decode jdk_67_method_93_code 1 = .ok (.invokespecial 343, 3) := by decide +kernel
theorem d_jdk_67_method_93_4 : decode jdk_67_method_93_code 4 = .ok (.ireturn, 1) := by decide +kernel
theorem d_jdk_68_method_68_0 : decode jdk_68_method_68_code 0 = .ok (.getstatic 18, 3) := by decide +kernel
theorem d_jdk_68_method_68_3 : decode jdk_68_method_68_code 3 = .ok (.ifCond .eq 14, 3) := by decide +kernel
theorem d_jdk_68_method_68_6 : decode jdk_68_method_68_code 6 = .ok (.aload_n 0, 1) := by decide +kernel
theorem d_jdk_68_method_68_7 : decode jdk_68_method_68_code 7 = .ok (.getfield 22, 3) := by decide +kernel
theorem d_jdk_68_method_68_10 : decode jdk_68_method_68_code 10 = .ok (.ifCond .ne 7, 3) := by decide +kernel
theorem d_jdk_68_method_68_13 : decode jdk_68_method_68_code 13 = .ok (.iconst 1, 1) := by decide +kernel
theorem d_jdk_68_method_68_14 : decode jdk_68_method_68_code 14 = .ok (.goto 4, 3) := by decide +kernel
theorem d_jdk_68_method_68_18 : decode jdk_68_method_68_code 18 = .ok (.ireturn, 1) := by decide +kernel
theorem d_jdk_65_method_132_17 : decode jdk_65_method_132_code 17 = .ok (.aload_n 0, 1) := by decide +kernel
theorem d_jdk_65_method_132_18 : decode jdk_65_method_132_code 18 = .ok (.invokevirtual 310, 3) := by decide +kernel
theorem d_jdk_65_method_132_21 : decode jdk_65_method_132_code 21 = .ok (.checkcast 311, 3) := by decide +kernel
theorem d_jdk_65_method_132_24 : decode jdk_65_method_132_code 24 = .ok (.areturn, 1) := by decide +kernel
theorem d_jdk_42_method_150_0 : decode jdk_42_method_150_code 0 = .ok (.aload_n 0, 1) := by decide +kernel
theorem d_jdk_42_method_150_1 : decode jdk_42_method_150_code 1 = .ok (.invokespecial 1, 3) := by decide +kernel
theorem d_jdk_42_method_150_4 : decode jdk_42_method_150_code 4 = .ok (.aload_n 1, 1) := by decide +kernel
theorem d_jdk_42_method_150_5 : decode jdk_42_method_150_code 5 = .ok (.invokevirtual 552, 3) := by decide +kernel
theorem d_jdk_42_method_150_8 : decode jdk_42_method_150_code 8 = .ok (.astore_n 3, 1) := by decide +kernel
theorem d_jdk_42_method_150_9 : decode jdk_42_method_150_code 9 = .ok (.aload_n 1, 1) := by decide +kernel
theorem d_jdk_42_method_150_10 : decode jdk_42_method_150_code 10 = .ok (.invokevirtual 549, 3) := by decide +kernel
theorem d_jdk_42_method_150_13 : decode jdk_42_method_150_code 13 = .ok (.istore 4, 2) := by decide +kernel
theorem d_jdk_42_method_150_15 : decode jdk_42_method_150_code 15 = .ok (.aload_n 1, 1) := by decide +kernel
theorem d_jdk_42_method_150_16 : decode jdk_42_method_150_code 16 = .ok (.invokevirtual 1047, 3) := by decide +kernel
theorem d_jdk_42_method_150_19 : decode jdk_42_method_150_code 19 = .ok (.ifCond .eq 22, 3) := by decide +kernel
theorem d_jdk_42_method_150_22 : decode jdk_42_method_150_code 22 = .ok (.aload_n 0, 1) := by decide +kernel
theorem d_jdk_42_method_150_23 : decode jdk_42_method_150_code 23 = .ok (.iconst 0, 1) := by decide +kernel
theorem d_jdk_42_method_150_24 : decode jdk_42_method_150_code 24 = .ok (.putfield 15, 3) := by decide +kernel
theorem d_jdk_42_method_150_27 : decode jdk_42_method_150_code 27 = .ok (.aload_n 0, 1) := by decide +kernel
theorem d_jdk_42_method_150_28 : decode jdk_42_method_150_code 28 = .ok (.aload_n 3, 1) := by decide +kernel
theorem d_jdk_42_method_150_29 : decode jdk_42_method_150_code 29 = .ok (.iconst 0, 1) := by decide +kernel
theorem d_jdk_42_method_150_30 : decode jdk_42_method_150_code 30 = .ok (.iload 4, 2) := by decide +kernel
theorem d_jdk_42_method_150_32 : decode jdk_42_method_150_code 32 = .ok (.invokestatic 54, 3) := by decide +kernel
theorem d_jdk_42_method_150_35 : decode jdk_42_method_150_code 35 = .ok (.putfield 9, 3) := by decide +kernel
theorem d_jdk_42_method_150_38 : decode jdk_42_method_150_code 38 = .ok (.goto 59, 3) := by decide +kernel
theorem d_jdk_42_method_150_97 : decode jdk_42_method_150_code 97 = .ok (.return_, 1) := by decide +kernel
theorem d_jdk_42_method_53_0 : decode jdk_42_method_53_code 0 = .ok (.aload_n 0, 1) := by decide +kernel
theorem d_jdk_42_method_53_1 : decode jdk_42_method_53_code 1 = .ok (.aload_n 1, 1) := by decide +kernel
theorem d_jdk_42_method_53_2 : decode jdk_42_method_53_code 2 = .ok (.aconst_null, 1) := by decide +kernel
theorem d_jdk_42_method_53_3 : decode jdk_42_method_53_code 3 = .ok (.invokespecial 489, 3) := by decide +kernel
theorem d_jdk_42_method_53_6 : decode jdk_42_method_53_code 6 = .ok (.return_, 1) := by decide +kernel
theorem d_jdk_67_method_42_0 : decode jdk_67_method_42_code 0 = .ok (.new 18, 3) := by decide +kernel
theorem d_jdk_67_method_42_3 : decode jdk_67_method_42_code 3 = .ok (.dup, 1) := by decide +kernel
theorem d_jdk_67_method_42_4 : decode jdk_67_method_42_code 4 = .ok (.aload_n 0, 1) := by decide +kernel
theorem d_jdk_67_method_42_5 : decode jdk_67_method_42_code 5 = .ok (.invokespecial 137, 3) := by decide +kernel
theorem d_jdk_67_method_42_8 : decode jdk_67_method_42_code 8 = .ok (.areturn, 1) := by decide +kernel
theorem d_method_2_0 : decode method_2_code 0 = .ok (.iload_n 0, 1) := by decide +kernel
theorem d_method_2_1 : decode method_2_code 1 = .ok (.ifCond .ne 14, 3) := by decide +kernel
theorem d_method_2_4 : decode method_2_code 4 = .ok (.new 7, 3) := by decide +kernel
theorem d_method_2_7 : decode method_2_code 7 = .ok (.dup, 1) := by decide +kernel
theorem d_method_2_8 : decode method_2_code 8 = .ok (.iconst 0, 1) := by decide +kernel
theorem d_method_2_9 : decode method_2_code 9 = .ok (.newarray .char, 2) := by decide +kernel
theorem d_method_2_11 : decode method_2_code 11 = .ok (.invokespecial 9, 3) := by decide +kernel
theorem d_method_2_14 : decode method_2_code 14 = .ok (.areturn, 1) := by decide +kernel
theorem d_method_2_15 : decode method_2_code 15 = .ok (.iload_n 0, 1) := by decide +kernel
theorem d_method_2_16 : decode method_2_code 16 = .ok (.iconst 1, 1) := by decide +kernel
theorem d_method_2_17 : decode method_2_code 17 = .ok (.if_icmp .ne 18, 3) := by decide +kernel
theorem d_method_2_20 : decode method_2_code 20 = .ok (.new 7, 3) := by decide +kernel
theorem d_method_2_23 : decode method_2_code 23 = .ok (.dup, 1) := by decide +kernel
theorem d_method_2_24 : decode method_2_code 24 = .ok (.iconst 1, 1) := by decide +kernel
theorem d_method_2_25 : decode method_2_code 25 = .ok (.newarray .char, 2) := by decide +kernel
theorem d_method_2_27 : decode method_2_code 27 = .ok (.dup, 1) := by decide +kernel
theorem d_method_2_28 : decode method_2_code 28 = .ok (.iconst 0, 1) := by decide +kernel
theorem d_method_2_29 : decode method_2_code 29 = .ok (.iload_n 1, 1) := by decide +kernel
theorem d_method_2_30 : decode method_2_code 30 = .ok (.castore, 1) := by decide +kernel
theorem d_method_2_31 : decode method_2_code 31 = .ok (.invokespecial 9, 3) := by decide +kernel
theorem d_method_2_34 : decode method_2_code 34 = .ok (.areturn, 1) := by decide +kernel
theorem d_method_2_35 : decode method_2_code 35 = .ok (.new 7, 3) := by decide +kernel
theorem d_method_2_38 : decode method_2_code 38 = .ok (.dup, 1) := by decide +kernel
theorem d_method_2_39 : decode method_2_code 39 = .ok (.iconst 2, 1) := by decide +kernel
theorem d_method_2_40 : decode method_2_code 40 = .ok (.newarray .char, 2) := by decide +kernel
theorem d_method_2_42 : decode method_2_code 42 = .ok (.dup, 1) := by decide +kernel
theorem d_method_2_43 : decode method_2_code 43 = .ok (.iconst 0, 1) := by decide +kernel
theorem d_method_2_44 : decode method_2_code 44 = .ok (.iload_n 1, 1) := by decide +kernel
theorem d_method_2_45 : decode method_2_code 45 = .ok (.castore, 1) := by decide +kernel
theorem d_method_2_46 : decode method_2_code 46 = .ok (.dup, 1) := by decide +kernel
theorem d_method_2_47 : decode method_2_code 47 = .ok (.iconst 1, 1) := by decide +kernel
theorem d_method_2_48 : decode method_2_code 48 = .ok (.iload_n 2, 1) := by decide +kernel
theorem d_method_2_49 : decode method_2_code 49 = .ok (.castore, 1) := by decide +kernel
theorem d_method_2_50 : decode method_2_code 50 = .ok (.invokespecial 9, 3) := by decide +kernel
theorem d_method_2_53 : decode method_2_code 53 = .ok (.areturn, 1) := by decide +kernel
theorem d_jdk_30_method_1_0 : decode jdk_30_method_1_code 0 = .ok (.aload_n 0, 1) := by decide +kernel
theorem d_jdk_30_method_1_1 : decode jdk_30_method_1_code 1 = .ok (.invokespecial 1, 3) := by decide +kernel
theorem d_jdk_30_method_1_4 : decode jdk_30_method_1_code 4 = .ok (.return_, 1) := by decide +kernel
theorem d_prog_34_method_1_0 : decode prog_34_method_1_code 0 = .ok (.aload_n 0, 1) := by decide +kernel
theorem d_prog_34_method_1_1 : decode prog_34_method_1_code 1 = .ok (.invokespecial 1, 3) := by decide +kernel
theorem d_prog_34_method_1_4 : decode prog_34_method_1_code 4 = .ok (.aload_n 0, 1) := by decide +kernel
theorem d_prog_34_method_1_5 : decode prog_34_method_1_code 5 = .ok (.aload_n 1, 1) := by decide +kernel
theorem d_prog_34_method_1_6 : decode prog_34_method_1_code 6 = .ok (.putfield 7, 3) := by decide +kernel
theorem d_prog_34_method_1_9 : decode prog_34_method_1_code 9 = .ok (.return_, 1) := by decide +kernel
theorem d_prog_34_method_8_0 : decode prog_34_method_8_code 0 = .ok (.aload_n 0, 1) := by decide +kernel
theorem d_prog_34_method_8_1 : decode prog_34_method_8_code 1 = .ok (.getfield 7, 3) := by decide +kernel
theorem d_prog_34_method_8_4 : decode prog_34_method_8_code 4 = .ok (.areturn, 1) := by decide +kernel
theorem d_jdk_42_method_133_0 : decode jdk_42_method_133_code 0 = .ok (.aload_n 0, 1) := by decide +kernel
theorem d_jdk_42_method_133_1 : decode jdk_42_method_133_code 1 = .ok (.ifnonnull 9, 3) := by decide +kernel
theorem d_jdk_42_method_133_10 : decode jdk_42_method_133_code 10 = .ok (.aload_n 0, 1) := by decide +kernel
theorem d_jdk_42_method_133_11 : decode jdk_42_method_133_code 11 = .ok (.invokevirtual 1007, 3) := by decide +kernel
theorem d_jdk_42_method_133_14 : decode jdk_42_method_133_code 14 = .ok (.areturn, 1) := by decide +kernel
theorem d_jdk_67_method_6_0 : decode jdk_67_method_6_code 0 = .ok (.aload_n 0, 1) := by decide +kernel
theorem d_jdk_67_method_6_1 : decode jdk_67_method_6_code 1 = .ok (.aload_n 1, 1) := by decide +kernel
theorem d_jdk_67_method_6_2 : decode jdk_67_method_6_code 2 = .ok (.invokestatic 17, 3) := by decide +kernel
theorem d_jdk_67_method_6_5 : decode jdk_67_method_6_code 5 = .ok (.invokevirtual 23, 3) := by decide +kernel
theorem d_jdk_67_method_6_8 : decode jdk_67_method_6_code 8 = .ok (.areturn, 1) := by decide +kernel
theorem d_prog_34_method_7_0 : decode prog_34_method_7_code 0 = .ok (.aload_n 1, 1) := by decide +kernel
theorem d_prog_34_method_7_1 : decode prog_34_method_7_code 1 = .ok (.ifnonnull 29, 3) := by decide +kernel
theorem d_prog_34_method_7_4 : decode prog_34_method_7_code 4 = .ok (.new 13, 3) := by decide +kernel
theorem d_prog_34_method_7_7 : decode prog_34_method_7_code 7 = .ok (.dup, 1) := by decide +kernel
theorem d_prog_34_method_7_8 : decode prog_34_method_7_code 8 = .ok (.invokespecial 15, 3) := by decide +kernel
theorem d_prog_34_method_7_11 : decode prog_34_method_7_code 11 = .ok (.aload_n 0, 1) := by decide +kernel
theorem d_prog_34_method_7_12 : decode prog_34_method_7_code 12 = .ok (.invokevirtual 16, 3) := by decide +kernel
theorem d_prog_34_method_7_15 : decode prog_34_method_7_code 15 = .ok (.ldc 61, 2) := by decide +kernel
theorem d_prog_34_method_7_17 : decode prog_34_method_7_code 17 = .ok (.invokevirtual 22, 3) := by decide +kernel
theorem d_prog_34_method_7_20 : decode prog_34_method_7_code 20 = .ok (.aload_n 2, 1) := by decide +kernel
theorem d_prog_34_method_7_21 : decode prog_34_method_7_code 21 = .ok (.invokevirtual 22, 3) := by decide +kernel
theorem d_prog_34_method_7_24 : decode prog_34_method_7_code 24 = .ok (.invokevirtual 28, 3) := by decide +kernel
theorem d_prog_34_method_7_27 : decode prog_34_method_7_code 27 = .ok (.goto 35, 3) := by decide +kernel
theorem d_prog_34_method_7_62 : decode prog_34_method_7_code 62 = .ok (.areturn, 1) := by decide +kernel
theorem d_prog_34_method_7_30 : decode prog_34_method_7_code 30 = .ok (.new 13, 3) := by decide +kernel
theorem d_prog_34_method_7_33 : decode prog_34_method_7_code 33 = .ok (.dup, 1) := by decide +kernel
theorem d_prog_34_method_7_34 : decode prog_34_method_7_code 34 = .ok (.invokespecial 15, 3) := by decide +kernel
theorem d_prog_34_method_7_37 : decode prog_34_method_7_code 37 = .ok (.aload_n 0, 1) := by decide +kernel
theorem d_prog_34_method_7_38 : decode prog_34_method_7_code 38 = .ok (.invokevirtual 16, 3) := by decide +kernel
theorem d_prog_34_method_7_41 : decode prog_34_method_7_code 41 = .ok (.ldc 63, 2) := by decide +kernel
theorem d_prog_34_method_7_43 : decode prog_34_method_7_code 43 = .ok (.invokevirtual 22, 3) := by decide +kernel
theorem d_prog_34_method_7_46 : decode prog_34_method_7_code 46 = .ok (.aload_n 1, 1) := by decide +kernel
theorem d_prog_34_method_7_47 : decode prog_34_method_7_code 47 = .ok (.invokevirtual 22, 3) := by decide +kernel
theorem d_prog_34_method_7_50 : decode prog_34_method_7_code 50 = .ok (.ldc 65, 2) := by decide +kernel
theorem d_prog_34_method_7_52 : decode prog_34_method_7_code 52 = .ok (.invokevirtual 22, 3) := by decide +kernel
theorem d_prog_34_method_7_55 : decode prog_34_method_7_code 55 = .ok (.aload_n 2, 1) := by decide +kernel
theorem d_prog_34_method_7_56 : decode prog_34_method_7_code 56 = .ok (.invokevirtual 22, 3) := by decide +kernel
theorem d_prog_34_method_7_59 : decode prog_34_method_7_code 59 = .ok (.invokevirtual 28, 3) := by decide +kernel
theorem d_method_3_0 : decode method_3_code 0 = .ok (.iload_n 1, 1) := by decide +kernel
theorem d_method_3_1 : decode method_3_code 1 = .ok (.ifCond .lt 24, 3) := by decide +kernel
theorem d_method_3_4 : decode method_3_code 4 = .ok (.iload_n 1, 1) := by decide +kernel
theorem d_method_3_5 : decode method_3_code 5 = .ok (.aload_n 0, 1) := by decide +kernel
theorem d_method_3_6 : decode method_3_code 6 = .ok (.invokevirtual 12, 3) := by decide +kernel
theorem d_method_3_9 : decode method_3_code 9 = .ok (.if_icmp .ge 16, 3) := by decide +kernel
theorem d_method_3_12 : decode method_3_code 12 = .ok (.aload_n 0, 1) := by decide +kernel
theorem d_method_3_13 : decode method_3_code 13 = .ok (.iload_n 1, 1) := by decide +kernel
theorem d_method_3_14 : decode method_3_code 14 = .ok (.invokevirtual 16, 3) := by decide +kernel
theorem d_method_3_17 : decode method_3_code 17 = .ok (.iload_n 2, 1) := by decide +kernel
theorem d_method_3_18 : decode method_3_code 18 = .ok (.if_icmp .ne 7, 3) := by decide +kernel
theorem d_method_3_21 : decode method_3_code 21 = .ok (.iconst 1, 1) := by decide +kernel
theorem d_method_3_22 : decode method_3_code 22 = .ok (.goto 4, 3) := by decide +kernel
theorem d_method_3_26 : decode method_3_code 26 = .ok (.ireturn, 1) := by decide +kernel
theorem pf_0 : plainFor (⟨"java/lang/Math", "min", "(II)I"⟩ : MethodName) = true := by decide +kernel
theorem pf_1 : plainFor (⟨"java/lang/Math", "max", "(II)I"⟩ : MethodName) = true := by decide +kernel
theorem pn_0 : plainName "java/lang/StringUTF16" = true := by first | (simp [plainName, overriddenIn]; done) | decide +kernel
theorem pn_1 : plainName "java/lang/String" = true := by first | (simp [plainName, overriddenIn]; done) | decide +kernel
theorem pn_2 : plainName "jdk/internal/util/Preconditions" = true := by first | (simp [plainName, overriddenIn]; done) | decide +kernel
theorem pn_3 : plainName "java/lang/StringLatin1" = true := by first | (simp [plainName, overriddenIn]; done) | decide +kernel
theorem pn_5 : plainName "java/util/Arrays" = true := by first | (simp [plainName, overriddenIn]; done) | decide +kernel
theorem pn_6 : plainName "java/lang/AbstractStringBuilder" = true := by first | (simp [plainName, overriddenIn]; done) | decide +kernel
theorem pn_7 : plainName "java/lang/StringBuilder" = true := by first | (simp [plainName, overriddenIn]; done) | decide +kernel
theorem pn_8 : plainName "jdk/internal/util/ArraysSupport" = true := by first | (simp [plainName, overriddenIn]; done) | decide +kernel
theorem pn_9 : plainName "com/example/cadi/cadi/OriginSaysPinLaw" = true := by first | (simp [plainName, overriddenIn]; done) | decide +kernel
theorem pn_10 : plainName "java/lang/Record" = true := by first | (simp [plainName, overriddenIn]; done) | decide +kernel
theorem pn_11 : plainName "com/example/cadi/cadi/Origin" = true := by first | (simp [plainName, overriddenIn]; done) | decide +kernel
theorem pd_0 : parseMethodDescriptor "([CI[BII)I" = some ⟨[(.array .char), .int, (.array .byte), .int, .int], some .int⟩ := by decide +kernel
theorem pd_1 : parseMethodDescriptor "([CII)[B" = some ⟨[(.array .char), .int, .int], some (.array .byte)⟩ := by decide +kernel
theorem pd_2 : parseMethodDescriptor "([BI)B" = some ⟨[(.array .byte), .int], some .byte⟩ := by decide +kernel
theorem pd_3 : parseMethodDescriptor "([CIILjava/lang/Void;)V" = some ⟨[(.array .char), .int, .int, (.object "java/lang/Void")], none⟩ := by decide +kernel
theorem pd_4 : parseMethodDescriptor "()B" = some ⟨[], some .byte⟩ := by decide +kernel
theorem pd_5 : parseMethodDescriptor "(IILjava/util/function/BiFunction;)I" = some ⟨[.int, .int, (.object "java/util/function/BiFunction")], some .int⟩ := by decide +kernel
theorem pd_6 : parseMethodDescriptor "(II)V" = some ⟨[.int, .int], none⟩ := by decide +kernel
theorem pd_7 : parseMethodDescriptor "()Z" = some ⟨[], some .boolean⟩ := by decide +kernel
theorem pd_8 : parseMethodDescriptor "([BI)C" = some ⟨[(.array .byte), .int], some .char⟩ := by decide +kernel
theorem pd_9 : parseMethodDescriptor "(II)I" = some ⟨[.int, .int], some .int⟩ := by decide +kernel
theorem pd_10 : parseMethodDescriptor "([BII)[B" = some ⟨[(.array .byte), .int, .int], some (.array .byte)⟩ := by decide +kernel
theorem pd_11 : parseMethodDescriptor "(I)V" = some ⟨[.int], none⟩ := by decide +kernel
theorem pd_12 : parseMethodDescriptor "(III)I" = some ⟨[.int, .int, .int], some .int⟩ := by decide +kernel
theorem pd_13 : parseMethodDescriptor "(I)I" = some ⟨[.int], some .int⟩ := by decide +kernel
theorem pd_14 : parseMethodDescriptor "([BI)[B" = some ⟨[(.array .byte), .int], some (.array .byte)⟩ := by decide +kernel
theorem pd_15 : parseMethodDescriptor "(Ljava/lang/String;)V" = some ⟨[(.object "java/lang/String")], none⟩ := by decide +kernel
theorem pd_16 : parseMethodDescriptor "([BIB)V" = some ⟨[(.array .byte), .int, .byte], none⟩ := by decide +kernel
theorem pd_17 : parseMethodDescriptor "()I" = some ⟨[], some .int⟩ := by decide +kernel
theorem pd_18 : parseMethodDescriptor "(ILjava/lang/String;)V" = some ⟨[.int, (.object "java/lang/String")], none⟩ := by decide +kernel
theorem pd_19 : parseMethodDescriptor "(Ljava/lang/String;)Ljava/lang/AbstractStringBuilder;" = some ⟨[(.object "java/lang/String")], some (.object "java/lang/AbstractStringBuilder")⟩ := by decide +kernel
theorem pd_20 : parseMethodDescriptor "()[B" = some ⟨[], some (.array .byte)⟩ := by decide +kernel
theorem pd_21 : parseMethodDescriptor "(Ljava/lang/AbstractStringBuilder;Ljava/lang/Void;)V" = some ⟨[(.object "java/lang/AbstractStringBuilder"), (.object "java/lang/Void")], none⟩ := by decide +kernel
theorem pd_22 : parseMethodDescriptor "(Ljava/lang/StringBuilder;)V" = some ⟨[(.object "java/lang/StringBuilder")], none⟩ := by decide +kernel
theorem pd_23 : parseMethodDescriptor "([C)V" = some ⟨[(.array .char)], none⟩ := by decide +kernel
theorem pd_24 : parseMethodDescriptor "()V" = some ⟨[], none⟩ := by decide +kernel
theorem pd_25 : parseMethodDescriptor "()Ljava/lang/String;" = some ⟨[], some (.object "java/lang/String")⟩ := by decide +kernel
theorem pd_26 : parseMethodDescriptor "(Ljava/lang/Object;)Ljava/lang/String;" = some ⟨[(.object "java/lang/Object")], some (.object "java/lang/String")⟩ := by decide +kernel
theorem pd_27 : parseMethodDescriptor "(Ljava/lang/String;)Ljava/lang/StringBuilder;" = some ⟨[(.object "java/lang/String")], some (.object "java/lang/StringBuilder")⟩ := by decide +kernel
theorem pd_28 : parseMethodDescriptor "(Ljava/lang/Object;)Ljava/lang/StringBuilder;" = some ⟨[(.object "java/lang/Object")], some (.object "java/lang/StringBuilder")⟩ := by decide +kernel
theorem pd_29 : parseMethodDescriptor "(I)C" = some ⟨[.int], some .char⟩ := by decide +kernel
theorem pd_30 : parseMethodDescriptor "(ICC)Ljava/lang/String;" = some ⟨[.int, .char, .char], some (.object "java/lang/String")⟩ := by decide +kernel
theorem pd_31 : parseMethodDescriptor "(Ljava/lang/String;Ljava/lang/String;)Ljava/lang/String;" = some ⟨[(.object "java/lang/String"), (.object "java/lang/String")], some (.object "java/lang/String")⟩ := by decide +kernel
theorem pd_32 : parseMethodDescriptor "(Ljava/lang/String;IC)Z" = some ⟨[(.object "java/lang/String"), .int, .char], some .boolean⟩ := by decide +kernel
def Gl (Z : State) (a0 : Array Value) : Prop := (∀ d ∈ tables_1, d.before a0 Z = true) ∧ EW Z a0 consts_1 ∧ (∃ G : Int32, Sta Z Z.heap "java/lang/String" "COMPACT_STRINGS" "Z" (.int G) ∧ ¬ G = 0) ∧ (∃ G : Value, Sta Z Z.heap "jdk/internal/util/Preconditions" "SIOOBE_FORMATTER" "Ljava/util/function/BiFunction;" G ∧ G.isRef = true) ∧ True
theorem stratoms {Z : State} {a0 : Array Value} (g : Gl Z a0) : ∀ d ∈ Bundle.stringAtoms, d.before a0 Z = true := fun d hd => g.1 d ((by decide +kernel : ∀ d ∈ Bundle.stringAtoms, d ∈ tables_1) d hd)
set_option maxRecDepth 65536 in
set_option maxHeartbeats 4000000 in
theorem c_coderlen {l : Launch} {Z : State} {a0 : Array Value} {kn : Bool} (g : Gl Z a0) {ws : List Cond} {h0 : Heap} {ss : List Addr} (hO : Old Z Z.heap.size h0) {b : Addr} {n : Int32} {kb : ClassId} {vs : List Value} {dv : Value} (A : Arv Z h0 b kb .byte n vs dv) :
    Con l Z consts_1 kn ws (⟨"java/lang/StringUTF16", "coderFromArrayLen", "([BI)B"⟩ : MethodName) jdk_52_method_15_code 2 (some .byte) ({ frames := 0, cells := 0, slots := 0, locals := 0 } : Room) #[(.ref b), (.int n)] h0 ss (rV fun v h => h0 = h ∧ v = .int 0) := by
  have hw := g.1
  have hEL := g.2.1
  refine Con.of (plainFor_of_name pn_0) hO ?_
  intro p e s m below meth c T0 me W0
  refine Fi.entry (L := #[.val (.ref b), .val (.int n)]) (by first | (simp [entryFrame, mkF, argsToLocals, Value.category, maxLocals]; done) | (simp [entryFrame, mkF, argsToLocals, Value.category]; done) | rfl) ?_
  refine W0.iloadN me d_jdk_52_method_15_0 rfl ?_
  refine W0.aloadN me d_jdk_52_method_15_1 rfl rfl ?_
  show Fi p e below s Z _ _ _ _ T0 (mkF m 2 #[.val (.ref b), .val (.int n)] [(.ref b), (.int n)])
  refine W0.alen me A d_jdk_52_method_15_2 ?_
  refine W0.isub me d_jdk_52_method_15_3 ?_
  refine W0.bipush me d_jdk_52_method_15_4 (v := 31) rfl ?_
  refine W0.iushr me d_jdk_52_method_15_6 ?_
  refine W0.i2b me d_jdk_52_method_15_7 ?_
  show Fi p e below s Z _ _ _ _ T0 (mkF m 8 #[.val (.ref b), .val (.int n)] [(.int ((XT.ushr (n - n) (31 : Int32)).toInt8.toInt32))])
  have e1 : (XT.ushr (n - n) (31 : Int32)).toInt8.toInt32 = 0 := by rw [Int32.sub_self]; decide
  rw [e1]
  exact W0.retN hEL me (Or.inr (Or.inl rfl)) d_jdk_52_method_15_8 ⟨rfl, rfl⟩ (by decide) (by decide)

set_option maxRecDepth 65536 in
set_option maxHeartbeats 4000000 in
theorem c_compress {l : Launch} {Z : State} {a0 : Array Value} {kn : Bool} (g : Gl Z a0) {ws : List Cond} {h0 : Heap} {ss : List Addr} (hO : Old Z Z.heap.size h0) {ca b : Addr} {kca kb : ClassId} {cs : List Int32} {dv : Value} (Aca : Arv Z h0 ca kca .char (Int32.ofNat cs.length) (cs.map Value.int) dv) (A0 : Arv Z h0 b kb .byte (Int32.ofNat cs.length) [] (.int 0)) (hne : ca ≠ b) (hS : b ∈ ss) (hz : Z.heap.size ≤ b) (hC8 : C8 cs) (hl : cs.length < 2 ^ 20) :
    Con l Z consts_1 kn ws (⟨"java/lang/StringUTF16", "compress", "([CI[BII)I"⟩ : MethodName) jdk_52_method_21_code 7 (some .int) ({ frames := 0, cells := 0, slots := 0, locals := 0 } : Room) #[(.ref ca), (.int 0), (.ref b), (.int 0), (.int (Int32.ofNat cs.length))] h0 ss (rV fun v h => Keep h0 h [b] ∧ v = .int (Int32.ofNat cs.length) ∧ Arv Z h b kb .byte (Int32.ofNat cs.length) (lb cs) (.int 0)) := by
  have hw := g.1
  have hEL := g.2.1
  refine Con.of (plainFor_of_name pn_0) hO ?_
  intro p e s m below meth c T0 me W0
  refine Fi.entry (L := #[.val (.ref ca), .val (.int 0), .val (.ref b), .val (.int 0), .val (.int (Int32.ofNat cs.length)), .unset, .unset]) (by first | (simp [entryFrame, mkF, argsToLocals, Value.category, maxLocals]; done) | (simp [entryFrame, mkF, argsToLocals, Value.category]; done) | rfl) ?_
  have loop : ∀ (r i : Nat) (T1 : State) (h1 : Heap) (o : Slot), i + r = cs.length → (o = .unset ∨ ∃ w, o = .val w ∧ w.category = 1) → Wk p l e ({ frames := 0, cells := 0, slots := 0, locals := 0 } : Room) s m #[(.ref ca), (.int 0), (.ref b), (.int 0), (.int (Int32.ofNat cs.length))] below meth c Z consts_1 kn "java/lang/StringUTF16" T1 h1 ss 0 0 → Keep h0 h1 [b] → Arv Z h1 b kb .byte (Int32.ofNat cs.length) (lb (cs.take i)) (.int 0) →
      Fi p e below s Z consts_1 0 0 (rV fun v h => Keep h0 h [b] ∧ v = .int (Int32.ofNat cs.length) ∧ Arv Z h b kb .byte (Int32.ofNat cs.length) (lb cs) (.int 0)) T1 (mkF m 3 #[.val (.ref ca), .val (.int (Int32.ofNat i)), .val (.ref b), .val (.int (Int32.ofNat i)), .val (.int (Int32.ofNat cs.length)), .val (.int (Int32.ofNat i)), o] []) := by
    intro r
    induction r with
    | zero =>
      intro i T1 h1 o hi ho W1 K A
      refine W1.iload me d_jdk_52_method_21_3 rfl ?_
      refine W1.iload me d_jdk_52_method_21_5 rfl ?_
      refine W1.icY_ge me d_jdk_52_method_21_7 (on_nlt (by omega) (by omega)) (pc' := 44) (by decide) (by decide) ?_
      refine W1.iload me d_jdk_52_method_21_44 rfl ?_
      have e1 : cs.take i = cs := List.take_of_length_le (by omega)
      rw [e1] at A
      exact W1.retI hEL me d_jdk_52_method_21_46 ⟨K, rfl, A⟩ (by decide) (by decide)
    | succ r ih =>
      intro i T1 h1 o hi ho W1 K A
      have hlt : i < cs.length := by omega
      have Ac := Aca.keep K (ninS hne nin0)
      have hch := hC8.at hlt
      obtain ⟨x, hx⟩ : ∃ x, x = cs.getD i 0 := ⟨_, rfl⟩
      refine W1.iload me d_jdk_52_method_21_3 rfl ?_
      refine W1.iload me d_jdk_52_method_21_5 rfl ?_
      refine W1.icN_ge me d_jdk_52_method_21_7 (on_lt hlt (by omega)) ?_
      refine W1.aloadN me d_jdk_52_method_21_10 rfl rfl ?_
      refine W1.iloadN me d_jdk_52_method_21_11 rfl ?_
      refine W1.caload me Ac d_jdk_52_method_21_12 (on_in hlt (by omega)) (v := .int x) (by rw [on_clamp (by omega), ci_get hlt, hx]) ?_
      refine W1.istore me d_jdk_52_method_21_13 (l' := #[.val (.ref ca), .val (.int (Int32.ofNat i)), .val (.ref b), .val (.int (Int32.ofNat i)), .val (.int (Int32.ofNat cs.length)), .val (.int (Int32.ofNat i)), .val (.int x)]) (XS.store1 (i := 6) rfl ho rfl) ?_
      refine W1.iload me d_jdk_52_method_21_15 rfl ?_
      refine W1.sipush me d_jdk_52_method_21_17 (v := 255) rfl ?_
      refine W1.icY_le me d_jdk_52_method_21_20 (hx ▸ hch.2) (pc' := 26) (by decide) (by decide) ?_
      refine W1.aloadN me d_jdk_52_method_21_26 rfl rfl ?_
      refine W1.iloadN me d_jdk_52_method_21_27 rfl ?_
      refine W1.iload me d_jdk_52_method_21_28 rfl ?_
      refine W1.i2b me d_jdk_52_method_21_30 ?_
      show Fi p e below s Z _ _ _ _ T1 (mkF m 31 #[.val (.ref ca), .val (.int (Int32.ofNat i)), .val (.ref b), .val (.int (Int32.ofNat i)), .val (.int (Int32.ofNat cs.length)), .val (.int (Int32.ofNat i)), .val (.int x)] [(.int (x.toInt8.toInt32)), (.int (Int32.ofNat i)), (.ref b)])
      refine W1.bastoreP me A (nar_byte_idem x) d_jdk_52_method_21_31 (i := i) (by rw [lb_len, List.length_take]; omega) (on_clamp (by omega)) (on_in hlt (by omega)) hS hz ?_
      intro T2 h2 W2 R2 A2
      refine W2.iinc me d_jdk_52_method_21_32 (v := 1) rfl rfl (l' := #[.val (.ref ca), .val (.int ((Int32.ofNat i) + (1 : Int32))), .val (.ref b), .val (.int (Int32.ofNat i)), .val (.int (Int32.ofNat cs.length)), .val (.int (Int32.ofNat i)), .val (.int x)]) rfl ?_
      refine W2.iinc me d_jdk_52_method_21_35 (v := 1) rfl rfl (l' := #[.val (.ref ca), .val (.int ((Int32.ofNat i) + (1 : Int32))), .val (.ref b), .val (.int ((Int32.ofNat i) + (1 : Int32))), .val (.int (Int32.ofNat cs.length)), .val (.int (Int32.ofNat i)), .val (.int x)]) rfl ?_
      refine W2.iinc me d_jdk_52_method_21_38 (v := 1) rfl rfl (l' := #[.val (.ref ca), .val (.int ((Int32.ofNat i) + (1 : Int32))), .val (.ref b), .val (.int ((Int32.ofNat i) + (1 : Int32))), .val (.int (Int32.ofNat cs.length)), .val (.int ((Int32.ofNat i) + (1 : Int32))), .val (.int x)]) rfl ?_
      refine W2.goto me d_jdk_52_method_21_41 (pc' := 3) (by decide) (by decide) ?_
      show Fi p e below s Z _ _ _ _ T2 (mkF m 3 #[.val (.ref ca), .val (.int ((Int32.ofNat i) + (1 : Int32))), .val (.ref b), .val (.int ((Int32.ofNat i) + (1 : Int32))), .val (.int (Int32.ofNat cs.length)), .val (.int ((Int32.ofNat i) + (1 : Int32))), .val (.int x)] [])
      rw [on_succ]
      exact ih (i + 1) T2 h2 (.val (.int x)) (by omega) (Or.inr ⟨_, rfl, rfl⟩) W2 (K.wr R2 (Or.inl (List.mem_singleton.mpr rfl))) (by rw [hx, lb_take_succ hlt] at A2; exact A2)
  refine W0.iconst me d_jdk_52_method_21_0 (v := 0) rfl ?_
  refine W0.istore me d_jdk_52_method_21_1 (l' := #[.val (.ref ca), .val (.int 0), .val (.ref b), .val (.int 0), .val (.int (Int32.ofNat cs.length)), .val (.int (0 : Int32)), .unset]) rfl ?_
  exact loop cs.length 0 T0 h0 .unset (by omega) (Or.inl rfl) W0 (Keep.refl _ _) A0

set_option maxRecDepth 65536 in
set_option maxHeartbeats 4000000 in
theorem c_compress1 {l : Launch} {Z : State} {a0 : Array Value} {kn : Bool} (g : Gl Z a0) {ws : List Cond} {h0 : Heap} {ss : List Addr} (hO : Old Z Z.heap.size h0) {ca : Addr} {kca : ClassId} {cs : List Int32} {dv : Value} (Aca : Arv Z h0 ca kca .char (Int32.ofNat cs.length) (cs.map Value.int) dv) (hC8 : C8 cs) (hl : cs.length ≤ 8) :
    Con l Z consts_1 kn ws (⟨"java/lang/StringUTF16", "compress", "([CII)[B"⟩ : MethodName) jdk_52_method_16_code 6 (some (.array .byte)) ({ frames := 1, cells := 1, slots := 8, locals := 18 } : Room) #[(.ref ca), (.int 0), (.int (Int32.ofNat cs.length))] h0 ss (rV fun v h => Ext h0 h ∧ ∃ b kb, v = .ref b ∧ h0.size ≤ b ∧ Arv Z h b kb .byte (Int32.ofNat cs.length) (lb cs) (.int 0)) := by
  have hw := g.1
  have hEL := g.2.1
  refine Con.of (plainFor_of_name pn_0) hO ?_
  intro p e s m below meth c T0 me W0
  refine Fi.entry (L := #[.val (.ref ca), .val (.int 0), .val (.int (Int32.ofNat cs.length)), .unset, .unset, .unset]) (by first | (simp [entryFrame, mkF, argsToLocals, Value.category, maxLocals]; done) | (simp [entryFrame, mkF, argsToLocals, Value.category]; done) | rfl) ?_
  have hlt1 := own_lt Aca.lt
  refine W0.iloadN me d_jdk_52_method_16_0 rfl ?_
  show Fi p e below s Z _ _ _ _ T0 (mkF m 1 #[.val (.ref ca), .val (.int 0), .val (.int (Int32.ofNat cs.length)), .unset, .unset, .unset] [(.int (Int32.ofNat cs.length))])
  refine W0.newA me (hw _ (List.mem_of_getElem? (i := 19) rfl)) d_jdk_52_method_16_1 (on_nneg (by omega)) (cap := 8) (by rw [on_clamp (by omega)]; exact hl) (own_le rfl) (own_le rfl) (own_le rfl) ?_
  intro T1 h1 a1 k1 g1 W1 E1 A1
  refine W1.astoreN me d_jdk_52_method_16_3 (l' := #[.val (.ref ca), .val (.int 0), .val (.int (Int32.ofNat cs.length)), .val (.ref a1), .unset, .unset]) rfl rfl ?_
  refine W1.aloadN me d_jdk_52_method_16_4 rfl rfl ?_
  refine W1.iloadN me d_jdk_52_method_16_5 rfl ?_
  refine W1.aloadN me d_jdk_52_method_16_6 rfl rfl ?_
  refine W1.iconst me d_jdk_52_method_16_7 (v := 0) rfl ?_
  refine W1.iloadN me d_jdk_52_method_16_8 rfl ?_
  show Fi p e below s Z _ _ _ _ T1 (mkF m 9 #[.val (.ref ca), .val (.int 0), .val (.int (Int32.ofNat cs.length)), .val (.ref a1), .unset, .unset] [(.int (Int32.ofNat cs.length)), (.int (0 : Int32)), (.ref a1), (.int 0), (.ref ca)])
  refine W1.callS me hEL (hw _ (List.mem_of_getElem? (i := 202) rfl)) (hw _ (List.mem_of_getElem? (i := 203) rfl)) (hw _ (List.mem_of_getElem? (i := 200) rfl)) (hw _ (List.mem_of_getElem? (i := 204) rfl)) (argsL := [(.ref ca), (.int 0), (.ref a1), (.int (0 : Int32)), (.int (Int32.ofNat cs.length))]) (rest := []) (c_compress g W1.old (Aca.ext E1) A1 (own_ne (by omega)) (List.mem_cons_self ..) (by have := hO.2.1; omega) hC8 (by omega)) d_jdk_52_method_16_9 (by decide) (fun _ q => q) rfl (lenOf pd_0 rfl) (own_le rfl) (own_le rfl) (own_le rfl) (own_le rfl) rfl ?_
  intro T2 h2 v2 W2 z2 q2
  obtain ⟨sf2, X2, _, rfl, K2, rfl, A2⟩ := q2
  show Fi p e below s Z _ _ _ _ T2 (mkF m 12 #[.val (.ref ca), .val (.int 0), .val (.int (Int32.ofNat cs.length)), .val (.ref a1), .unset, .unset] [(.int (Int32.ofNat cs.length))])
  refine W2.istore me d_jdk_52_method_16_12 (l' := #[.val (.ref ca), .val (.int 0), .val (.int (Int32.ofNat cs.length)), .val (.ref a1), .val (.int (Int32.ofNat cs.length)), .unset]) rfl ?_
  refine W2.iload me d_jdk_52_method_16_14 rfl ?_
  refine W2.iloadN me d_jdk_52_method_16_16 rfl ?_
  show Fi p e below s Z _ _ _ _ T2 (mkF m 17 #[.val (.ref ca), .val (.int 0), .val (.int (Int32.ofNat cs.length)), .val (.ref a1), .val (.int (Int32.ofNat cs.length)), .unset] [(.int (Int32.ofNat cs.length)), (.int (Int32.ofNat cs.length))])
  refine W2.icY_eq me d_jdk_52_method_16_17 rfl (pc' := 57) (by decide) (by decide) ?_
  refine W2.aloadN me d_jdk_52_method_16_57 rfl rfl ?_
  show Fi p e below s Z _ _ _ _ T2 (mkF m 58 #[.val (.ref ca), .val (.int 0), .val (.int (Int32.ofNat cs.length)), .val (.ref a1), .val (.int (Int32.ofNat cs.length)), .unset] [(.ref a1)])
  exact W2.retA hEL me d_jdk_52_method_16_58 ⟨own_xk E1 K2 (allS (by omega) all0), a1, k1, rfl, by omega, A2⟩ (by decide) (by decide) rfl rfl rfl

set_option maxRecDepth 65536 in
set_option maxHeartbeats 4000000 in
theorem c_init149 {l : Launch} {Z : State} {a0 : Array Value} {kn : Bool} (g : Gl Z a0) {ws : List Cond} {h0 : Heap} {ss : List Addr} (hO : Old Z Z.heap.size h0) {x ca : Addr} {kca : ClassId} {cs : List Int32} {dv vv vc : Value} (EX : Exa Z h0 x "java/lang/String") (FV : Fld Z h0 x "java/lang/String" "value" "[B" vv) (FC : Fld Z h0 x "java/lang/String" "coder" "B" vc) (Aca : Arv Z h0 ca kca .char (Int32.ofNat cs.length) (cs.map Value.int) dv) (hS : x ∈ ss) (hz : Z.heap.size ≤ x) (hC8 : C8 cs) (hl : cs.length ≤ 8) :
    Con l Z consts_1 kn ws (⟨"java/lang/String", "<init>", "([CIILjava/lang/Void;)V"⟩ : MethodName) jdk_42_method_149_code 6 none ({ frames := 2, cells := 4, slots := 8, locals := 35 } : Room) #[(.ref x), (.ref ca), (.int 0), (.int (Int32.ofNat cs.length)), .null] h0 ss (rU fun h => Keep h0 h [x] ∧ Lat Z h x cs) := by
  have hw := g.1
  have hEL := g.2.1
  refine Con.of (plainFor_of_name pn_1) hO ?_
  intro p e s m below meth c T0 me W0
  refine Fi.entry (L := #[.val (.ref x), .val (.ref ca), .val (.int 0), .val (.int (Int32.ofNat cs.length)), .val .null, .unset]) (by first | (simp [entryFrame, mkF, argsToLocals, Value.category, maxLocals]; done) | (simp [entryFrame, mkF, argsToLocals, Value.category]; done) | rfl) ?_
  refine W0.aloadN me d_jdk_42_method_149_0 rfl rfl ?_
  show Fi p e below s Z _ _ _ _ T0 (mkF m 1 #[.val (.ref x), .val (.ref ca), .val (.int 0), .val (.int (Int32.ofNat cs.length)), .val .null, .unset] [(.ref x)])
  refine W0.initO me (hw _ (List.mem_of_getElem? (i := 15) rfl)) (hw _ (List.mem_of_getElem? (i := 16) rfl)) (hw _ (List.mem_of_getElem? (i := 17) rfl)) d_jdk_42_method_149_1 rfl (own_le rfl) (own_le rfl) ?_
  intro T1 W1
  show Fi p e below s Z _ _ _ _ T1 (mkF m 4 #[.val (.ref x), .val (.ref ca), .val (.int 0), .val (.int (Int32.ofNat cs.length)), .val .null, .unset] [])
  refine W1.iloadN me d_jdk_42_method_149_4 rfl ?_
  show Fi p e below s Z _ _ _ _ T1 (mkF m 5 #[.val (.ref x), .val (.ref ca), .val (.int 0), .val (.int (Int32.ofNat cs.length)), .val .null, .unset] [(.int (Int32.ofNat cs.length))])
  have hLV : Laid Z a0 "java/lang/String" "java/lang/String" "value" "[B" := Or.inr (hw _ (List.mem_of_getElem? (i := 20) rfl))
  have hLC : Laid Z a0 "java/lang/String" "java/lang/String" "coder" "B" := Or.inr (hw _ (List.mem_of_getElem? (i := 21) rfl))
  have hvc : Jvm.RoadKit.slotOf Z "java/lang/String" "value" "[B" ≠ Jvm.RoadKit.slotOf Z "java/lang/String" "coder" "B" := slot_ne hLV hLC (by decide) (t := .array .byte) (t' := .byte) (by decide) (by decide)
  have hxlt := own_lt EX.lt
  refine W1.if_ne me d_jdk_42_method_149_5 (pc' := 27) (by decide) (by decide) (fun hb => ?_) (fun hb => ?_)
  rotate_left
  ·
    have e0 : cs.length = 0 := (on_inj (by omega) (by omega)).mp (hb.trans rfl)
    have ec : cs = [] := List.eq_nil_of_length_eq_zero e0
    refine W1.aloadN me d_jdk_42_method_149_8 rfl rfl ?_
    show Fi p e below s Z _ _ _ _ T1 (mkF m 9 #[.val (.ref x), .val (.ref ca), .val (.int 0), .val (.int (Int32.ofNat cs.length)), .val .null, .unset] [(.ref x)])
    refine W1.ldcS me hEL (List.mem_of_getElem? (i := 3) rfl) (hw _ (List.mem_of_getElem? (i := 18) rfl)) (stratoms g) (vs := []) (z := 0) ⟨by decide, by decide⟩ (by decide) (by decide) d_jdk_42_method_149_9 (n := 0) (by decide) (by decide) (by decide) (by decide) ?_
    intro T2 h2 a2 b2 k2 W2 E2 A2 C2 V2 B2 N2
    show Fi p e below s Z _ _ _ _ T2 (mkF m 11 #[.val (.ref x), .val (.ref ca), .val (.int 0), .val (.int (Int32.ofNat cs.length)), .val .null, .unset] [(.ref a2), (.ref x)])
    refine W2.getF me (hw _ (List.mem_of_getElem? (i := 24) rfl)) V2 Via.refl d_jdk_42_method_149_11 ?_
    intro T3 W3
    show Fi p e below s Z _ _ _ _ T3 (mkF m 14 #[.val (.ref x), .val (.ref ca), .val (.int 0), .val (.int (Int32.ofNat cs.length)), .val .null, .unset] [(.ref b2), (.ref x)])
    have N2a := (N2 x hS).1
    have N2b := (N2 x hS).2
    refine W3.putF me (hw _ (List.mem_of_getElem? (i := 24) rfl)) (FV.ext E2) Via.refl (EX.ext E2) (Or.inr ⟨(hw _ (List.mem_of_getElem? (i := 20) rfl)), rfl, rfl⟩) (hw _ (List.mem_of_getElem? (i := 5) rfl)) (ty := (.array .byte)) (by decide) rfl rfl (Or.inl hS) hz d_jdk_42_method_149_14 ?_
    intro T4 h4 W4 R4
    show Fi p e below s Z _ _ _ _ T4 (mkF m 17 #[.val (.ref x), .val (.ref ca), .val (.int 0), .val (.int (Int32.ofNat cs.length)), .val .null, .unset] [])
    refine W4.aloadN me d_jdk_42_method_149_17 rfl rfl ?_
    show Fi p e below s Z _ _ _ _ T4 (mkF m 18 #[.val (.ref x), .val (.ref ca), .val (.int 0), .val (.int (Int32.ofNat cs.length)), .val .null, .unset] [(.ref x)])
    refine W4.ldcS me hEL (List.mem_of_getElem? (i := 3) rfl) (hw _ (List.mem_of_getElem? (i := 18) rfl)) (stratoms g) (vs := []) (z := 0) ⟨by decide, by decide⟩ (by decide) (by decide) d_jdk_42_method_149_18 (n := 0) (by decide) (by decide) (by decide) (by decide) ?_
    intro T5 h5 a5 b5 k5 W5 E5 A5 C5 V5 B5 N5
    show Fi p e below s Z _ _ _ _ T5 (mkF m 20 #[.val (.ref x), .val (.ref ca), .val (.int 0), .val (.int (Int32.ofNat cs.length)), .val .null, .unset] [(.ref a5), (.ref x)])
    refine W5.getF me (hw _ (List.mem_of_getElem? (i := 25) rfl)) C5 Via.refl d_jdk_42_method_149_20 ?_
    intro T6 W6
    show Fi p e below s Z _ _ _ _ T6 (mkF m 23 #[.val (.ref x), .val (.ref ca), .val (.int 0), .val (.int (Int32.ofNat cs.length)), .val .null, .unset] [(.int (0 : Int32)), (.ref x)])
    have FC3 := ((FC.ext E2).other R4 (Or.inr hvc.symm)).ext E5
    have FV3 := ((FV.ext E2).same R4).ext E5
    have EX3 := ((EX.ext E2).wr R4).ext E5
    have B3 := (B2.other R4 (Ne.symm N2b)).ext E5
    refine W6.putF me (hw _ (List.mem_of_getElem? (i := 25) rfl)) FC3 Via.refl EX3 (Or.inr ⟨(hw _ (List.mem_of_getElem? (i := 21) rfl)), rfl, rfl⟩) (hw _ (List.mem_of_getElem? (i := 5) rfl)) (ty := .byte) (by decide) rfl rfl (Or.inl hS) hz d_jdk_42_method_149_23 ?_
    intro T7 h7 W7 R7
    show Fi p e below s Z _ _ _ _ T7 (mkF m 26 #[.val (.ref x), .val (.ref ca), .val (.int 0), .val (.int (Int32.ofNat cs.length)), .val .null, .unset] [])
    have K4 : Keep h0 h7 [x] := (((own_xK E2 [x]).wr R4 (Or.inl (List.mem_singleton.mpr rfl))).ext E5).wr R7 (Or.inl (List.mem_singleton.mpr rfl))
    exact W7.retU hEL me d_jdk_42_method_149_26 ⟨K4, by rw [ec]; exact ⟨b2, k2, EX3.wr R7, FC3.same R7, FV3.other R7 (Or.inr hvc), B3.other R7 (Ne.symm N2b), by decide, C8.nil⟩⟩ (by decide) (by decide)
  ·
    show Fi p e below s Z _ _ _ _ T1 (mkF m 27 #[.val (.ref x), .val (.ref ca), .val (.int 0), .val (.int (Int32.ofNat cs.length)), .val .null, .unset] [])
    obtain ⟨G, O2, P2⟩ := g.2.2.1
    refine W1.getS me (hw _ (List.mem_of_getElem? (i := 97) rfl)) O2 Via.refl d_jdk_42_method_149_27 ?_
    intro T8 W8
    show Fi p e below s Z _ _ _ _ T8 (mkF m 30 #[.val (.ref x), .val (.ref ca), .val (.int 0), .val (.int (Int32.ofNat cs.length)), .val .null, .unset] [(.int G)])
    refine W8.ifN_eq me d_jdk_42_method_149_30 P2 ?_
    refine W8.aloadN me d_jdk_42_method_149_33 rfl rfl ?_
    refine W8.iloadN me d_jdk_42_method_149_34 rfl ?_
    refine W8.iloadN me d_jdk_42_method_149_35 rfl ?_
    show Fi p e below s Z _ _ _ _ T8 (mkF m 36 #[.val (.ref x), .val (.ref ca), .val (.int 0), .val (.int (Int32.ofNat cs.length)), .val .null, .unset] [(.int (Int32.ofNat cs.length)), (.int 0), (.ref ca)])
    refine W8.callS me hEL (hw _ (List.mem_of_getElem? (i := 198) rfl)) (hw _ (List.mem_of_getElem? (i := 199) rfl)) (hw _ (List.mem_of_getElem? (i := 200) rfl)) (hw _ (List.mem_of_getElem? (i := 201) rfl)) (argsL := [(.ref ca), (.int 0), (.int (Int32.ofNat cs.length))]) (rest := []) (c_compress1 (ss := []) g W8.old Aca hC8 hl) d_jdk_42_method_149_36 (by decide) (fun _ q => nomatch q) rfl (lenOf pd_1 rfl) (own_le rfl) (own_le rfl) (own_le rfl) (own_le rfl) rfl ?_
    intro T9 h9 v9 W9 z9 q9
    obtain ⟨sf9, X9, _, rfl, E9, b9, k9, rfl, y9, A9⟩ := q9
    show Fi p e below s Z _ _ _ _ T9 (mkF m 39 #[.val (.ref x), .val (.ref ca), .val (.int 0), .val (.int (Int32.ofNat cs.length)), .val .null, .unset] [(.ref b9)])
    refine W9.astore me d_jdk_42_method_149_39 (l' := #[.val (.ref x), .val (.ref ca), .val (.int 0), .val (.int (Int32.ofNat cs.length)), .val .null, .val (.ref b9)]) rfl rfl ?_
    refine W9.aloadN me d_jdk_42_method_149_41 rfl rfl ?_
    refine W9.aload me d_jdk_42_method_149_42 rfl rfl ?_
    refine W9.iloadN me d_jdk_42_method_149_44 rfl ?_
    show Fi p e below s Z _ _ _ _ T9 (mkF m 45 #[.val (.ref x), .val (.ref ca), .val (.int 0), .val (.int (Int32.ofNat cs.length)), .val .null, .val (.ref b9)] [(.int (Int32.ofNat cs.length)), (.ref b9), (.ref x)])
    refine W9.callS me hEL (hw _ (List.mem_of_getElem? (i := 205) rfl)) (hw _ (List.mem_of_getElem? (i := 206) rfl)) (hw _ (List.mem_of_getElem? (i := 200) rfl)) (hw _ (List.mem_of_getElem? (i := 207) rfl)) (argsL := [(.ref b9), (.int (Int32.ofNat cs.length))]) (rest := [(.ref x)]) (c_coderlen (ss := []) g W9.old A9) d_jdk_42_method_149_45 (by decide) (fun _ q => nomatch q) rfl (lenOf pd_2 rfl) (own_le rfl) (own_le rfl) (own_le rfl) (own_le rfl) rfl ?_
    intro T10 h10 v10 W10 z10 q10
    obtain ⟨sf10, X10, _, rfl, rfl, rfl⟩ := q10
    show Fi p e below s Z _ _ _ _ T10 (mkF m 48 #[.val (.ref x), .val (.ref ca), .val (.int 0), .val (.int (Int32.ofNat cs.length)), .val .null, .val (.ref b9)] [(.int (0 : Int32)), (.ref x)])
    refine W10.putF me (hw _ (List.mem_of_getElem? (i := 25) rfl)) (FC.ext E9) Via.refl (EX.ext E9) (Or.inr ⟨(hw _ (List.mem_of_getElem? (i := 21) rfl)), rfl, rfl⟩) (hw _ (List.mem_of_getElem? (i := 5) rfl)) (ty := .byte) (by decide) rfl rfl (Or.inl hS) hz d_jdk_42_method_149_48 ?_
    intro T11 h11 W11 R11
    show Fi p e below s Z _ _ _ _ T11 (mkF m 51 #[.val (.ref x), .val (.ref ca), .val (.int 0), .val (.int (Int32.ofNat cs.length)), .val .null, .val (.ref b9)] [])
    refine W11.aloadN me d_jdk_42_method_149_51 rfl rfl ?_
    refine W11.aload me d_jdk_42_method_149_52 rfl rfl ?_
    show Fi p e below s Z _ _ _ _ T11 (mkF m 54 #[.val (.ref x), .val (.ref ca), .val (.int 0), .val (.int (Int32.ofNat cs.length)), .val .null, .val (.ref b9)] [(.ref b9), (.ref x)])
    refine W11.putF me (hw _ (List.mem_of_getElem? (i := 24) rfl)) ((FV.ext E9).other R11 (Or.inr hvc)) Via.refl ((EX.ext E9).wr R11) (Or.inr ⟨(hw _ (List.mem_of_getElem? (i := 20) rfl)), rfl, rfl⟩) (hw _ (List.mem_of_getElem? (i := 5) rfl)) (ty := (.array .byte)) (by decide) rfl rfl (Or.inl hS) hz d_jdk_42_method_149_54 ?_
    intro T12 h12 W12 R12
    show Fi p e below s Z _ _ _ _ T12 (mkF m 57 #[.val (.ref x), .val (.ref ca), .val (.int 0), .val (.int (Int32.ofNat cs.length)), .val .null, .val (.ref b9)] [])
    have hne5 : b9 ≠ x := own_en (by omega)
    have K8 : Keep h0 h12 [x] := ((own_xK E9 [x]).wr R11 (Or.inl (List.mem_singleton.mpr rfl))).wr R12 (Or.inl (List.mem_singleton.mpr rfl))
    exact W12.retU hEL me d_jdk_42_method_149_57 ⟨K8, b9, k9, ((EX.ext E9).wr R11).wr R12, ((FC.ext E9).same R11).other R12 (Or.inr hvc.symm), ((FV.ext E9).other R11 (Or.inr hvc)).same R12, (A9.other R11 hne5).other R12 hne5, by omega, hC8⟩ (by decide) (by decide)

set_option maxRecDepth 65536 in
set_option maxHeartbeats 4000000 in
theorem c_init3 {l : Launch} {Z : State} {a0 : Array Value} {kn : Bool} (g : Gl Z a0) {ws : List Cond} {h0 : Heap} {ss : List Addr} (hO : Old Z Z.heap.size h0) {x ca : Addr} {kca : ClassId} {cs : List Int32} {dv vv vc : Value} (EX : Exa Z h0 x "java/lang/String") (FV : Fld Z h0 x "java/lang/String" "value" "[B" vv) (FC : Fld Z h0 x "java/lang/String" "coder" "B" vc) (Aca : Arv Z h0 ca kca .char (Int32.ofNat cs.length) (cs.map Value.int) dv) (hS : x ∈ ss) (hz : Z.heap.size ≤ x) (hC8 : C8 cs) (hl : cs.length ≤ 8) :
    Con l Z consts_1 kn ws (⟨"java/lang/String", "<init>", "([C)V"⟩ : MethodName) jdk_42_method_3_code 2 none ({ frames := 3, cells := 4, slots := 8, locals := 52 } : Room) #[(.ref x), (.ref ca)] h0 ss (rU fun h => Keep h0 h [x] ∧ Lat Z h x cs) := by
  have hw := g.1
  have hEL := g.2.1
  refine Con.of (plainFor_of_name pn_1) hO ?_
  intro p e s m below meth c T0 me W0
  refine Fi.entry (L := #[.val (.ref x), .val (.ref ca)]) (by first | (simp [entryFrame, mkF, argsToLocals, Value.category, maxLocals]; done) | (simp [entryFrame, mkF, argsToLocals, Value.category]; done) | rfl) ?_
  refine W0.aloadN me d_jdk_42_method_3_0 rfl rfl ?_
  refine W0.aloadN me d_jdk_42_method_3_1 rfl rfl ?_
  refine W0.iconst me d_jdk_42_method_3_2 (v := 0) rfl ?_
  refine W0.aloadN me d_jdk_42_method_3_3 rfl rfl ?_
  show Fi p e below s Z _ _ _ _ T0 (mkF m 4 #[.val (.ref x), .val (.ref ca)] [(.ref ca), (.int (0 : Int32)), (.ref ca), (.ref x)])
  refine W0.alen me Aca d_jdk_42_method_3_4 ?_
  refine W0.aconstNull me d_jdk_42_method_3_5 ?_
  show Fi p e below s Z _ _ _ _ T0 (mkF m 6 #[.val (.ref x), .val (.ref ca)] [.null, (.int (Int32.ofNat cs.length)), (.int (0 : Int32)), (.ref ca), (.ref x)])
  refine W0.callI me hEL (hw _ (List.mem_of_getElem? (i := 11) rfl)) (hw _ (List.mem_of_getElem? (i := 12) rfl)) (hw _ (List.mem_of_getElem? (i := 6) rfl)) (hw _ (List.mem_of_getElem? (i := 14) rfl)) rfl (a := x) (argsL := [(.ref ca), (.int (0 : Int32)), (.int (Int32.ofNat cs.length)), .null]) (rest := []) (c_init149 g W0.old EX FV FC Aca hS hz hC8 hl) d_jdk_42_method_3_6 (by decide) (fun _ q => q) rfl (lenOf pd_3 rfl) (own_le rfl) (own_le rfl) (own_le rfl) (own_le rfl) rfl ?_
  intro T1 h1 v1 W1 z1 q1
  obtain ⟨sf1, X1, rfl, K1, L1⟩ := q1
  show Fi p e below s Z _ _ _ _ T1 (mkF m 9 #[.val (.ref x), .val (.ref ca)] [])
  exact W1.retU hEL me d_jdk_42_method_3_9 ⟨K1, L1⟩ (by decide) (by decide)

set_option maxRecDepth 65536 in
set_option maxHeartbeats 4000000 in
theorem c_coder {l : Launch} {Z : State} {a0 : Array Value} {kn : Bool} (g : Gl Z a0) {ws : List Cond} {h0 : Heap} {ss : List Addr} (hO : Old Z Z.heap.size h0) {a : Addr} {cd : Int32} (FC : Fld Z h0 a "java/lang/String" "coder" "B" (.int cd)) (hcd : nar .byte cd = cd) :
    Con l Z consts_1 kn ws (⟨"java/lang/String", "coder", "()B"⟩ : MethodName) jdk_42_method_152_code 1 (some .byte) ({ frames := 0, cells := 0, slots := 0, locals := 0 } : Room) #[(.ref a)] h0 ss (rV fun v h => h0 = h ∧ v = .int cd) := by
  have hw := g.1
  have hEL := g.2.1
  refine Con.of (plainFor_of_name pn_1) hO ?_
  intro p e s m below meth c T0 me W0
  refine Fi.entry (L := #[.val (.ref a)]) (by first | (simp [entryFrame, mkF, argsToLocals, Value.category, maxLocals]; done) | (simp [entryFrame, mkF, argsToLocals, Value.category]; done) | rfl) ?_
  obtain ⟨G, O2, P2⟩ := g.2.2.1
  refine W0.getS me (hw _ (List.mem_of_getElem? (i := 97) rfl)) O2 Via.refl d_jdk_42_method_152_0 ?_
  intro T1 W1
  show Fi p e below s Z _ _ _ _ T1 (mkF m 3 #[.val (.ref a)] [(.int G)])
  refine W1.ifN_eq me d_jdk_42_method_152_3 P2 ?_
  refine W1.aloadN me d_jdk_42_method_152_6 rfl rfl ?_
  show Fi p e below s Z _ _ _ _ T1 (mkF m 7 #[.val (.ref a)] [(.ref a)])
  refine W1.getF me (hw _ (List.mem_of_getElem? (i := 25) rfl)) FC Via.refl d_jdk_42_method_152_7 ?_
  intro T2 W2
  show Fi p e below s Z _ _ _ _ T2 (mkF m 10 #[.val (.ref a)] [(.int cd)])
  refine W2.goto me d_jdk_42_method_152_10 (pc' := 14) (by decide) (by decide) ?_
  show Fi p e below s Z _ _ _ _ T2 (mkF m 14 #[.val (.ref a)] [(.int cd)])
  exact W2.retN hEL me (Or.inr (Or.inl rfl)) d_jdk_42_method_152_14 ⟨rfl, by rw [hcd]⟩ (by decide) (by decide)

set_option maxRecDepth 65536 in
set_option maxHeartbeats 4000000 in
theorem c_length {l : Launch} {Z : State} {a0 : Array Value} {kn : Bool} (g : Gl Z a0) {ws : List Cond} {h0 : Heap} {ss : List Addr} (hO : Old Z Z.heap.size h0) {a : Addr} {cs : List Int32} (L : Lat Z h0 a cs) :
    Con l Z consts_1 kn ws (⟨"java/lang/String", "length", "()I"⟩ : MethodName) jdk_42_method_54_code 1 (some .int) ({ frames := 1, cells := 0, slots := 0, locals := 13 } : Room) #[(.ref a)] h0 ss (rV fun v h => h0 = h ∧ v = .int (Int32.ofNat cs.length)) := by
  have hw := g.1
  have hEL := g.2.1
  refine Con.of (plainFor_of_name pn_1) hO ?_
  intro p e s m below meth c T0 me W0
  refine Fi.entry (L := #[.val (.ref a)]) (by first | (simp [entryFrame, mkF, argsToLocals, Value.category, maxLocals]; done) | (simp [entryFrame, mkF, argsToLocals, Value.category]; done) | rfl) ?_
  obtain ⟨vb, kb, EX, FC, FV, AB, hl, hC8⟩ := L
  refine W0.aloadN me d_jdk_42_method_54_0 rfl rfl ?_
  show Fi p e below s Z _ _ _ _ T0 (mkF m 1 #[.val (.ref a)] [(.ref a)])
  refine W0.getF me (hw _ (List.mem_of_getElem? (i := 24) rfl)) FV Via.refl d_jdk_42_method_54_1 ?_
  intro T1 W1
  show Fi p e below s Z _ _ _ _ T1 (mkF m 4 #[.val (.ref a)] [(.ref vb)])
  refine W1.alen me AB d_jdk_42_method_54_4 ?_
  refine W1.aloadN me d_jdk_42_method_54_5 rfl rfl ?_
  show Fi p e below s Z _ _ _ _ T1 (mkF m 6 #[.val (.ref a)] [(.ref a), (.int (Int32.ofNat cs.length))])
  refine W1.callV me hEL (hw _ (List.mem_of_getElem? (i := 92) rfl)) (hw _ (List.mem_of_getElem? (i := 93) rfl)) (fun hZ' => notFace_of_selects (args := #[]) (mvT (s := s.setVm _) hZ' (hw _ (List.mem_of_getElem? (i := 95) rfl)))) (hw _ (List.mem_of_getElem? (i := 95) rfl)) (hw _ (List.mem_of_getElem? (i := 94) rfl)) (hw _ (List.mem_of_getElem? (i := 6) rfl)) (hw _ (List.mem_of_getElem? (i := 96) rfl)) (a := a) (argsL := []) (rest := [(.int (Int32.ofNat cs.length))]) EX (c_coder (ss := []) g W1.old FC rfl) d_jdk_42_method_54_6 (by decide) (fun _ q => nomatch q) rfl (lenOf pd_4 rfl) (own_le rfl) (own_le rfl) (own_le rfl) (own_le rfl) rfl ?_
  intro T2 h2 v2 W2 z2 q2
  obtain ⟨sf2, X2, _, rfl, rfl, rfl⟩ := q2
  show Fi p e below s Z _ _ _ _ T2 (mkF m 9 #[.val (.ref a)] [(.int (0 : Int32)), (.int (Int32.ofNat cs.length))])
  refine W2.ishr me d_jdk_42_method_54_9 ?_
  show Fi p e below s Z _ _ _ _ T2 (mkF m 10 #[.val (.ref a)] [(.int ((Int32.ofNat cs.length) >>> ((0 : Int32) &&& 31)))])
  have e1 : Int32.ofNat cs.length >>> ((0 : Int32) &&& 31) = Int32.ofNat cs.length := by simp
  rw [e1]
  exact W2.retI hEL me d_jdk_42_method_54_10 ⟨rfl, rfl⟩ (by decide) (by decide)

set_option maxRecDepth 65536 in
set_option maxHeartbeats 4000000 in
theorem c_islat {l : Launch} {Z : State} {a0 : Array Value} {kn : Bool} (g : Gl Z a0) {ws : List Cond} {h0 : Heap} {ss : List Addr} (hO : Old Z Z.heap.size h0) {a : Addr} (FC : Fld Z h0 a "java/lang/String" "coder" "B" (.int 0)) :
    Con l Z consts_1 kn ws (⟨"java/lang/String", "isLatin1", "()Z"⟩ : MethodName) jdk_42_method_154_code 1 (some .boolean) ({ frames := 0, cells := 0, slots := 0, locals := 0 } : Room) #[(.ref a)] h0 ss (rV fun v h => h0 = h ∧ v = .int 1) := by
  have hw := g.1
  have hEL := g.2.1
  refine Con.of (plainFor_of_name pn_1) hO ?_
  intro p e s m below meth c T0 me W0
  refine Fi.entry (L := #[.val (.ref a)]) (by first | (simp [entryFrame, mkF, argsToLocals, Value.category, maxLocals]; done) | (simp [entryFrame, mkF, argsToLocals, Value.category]; done) | rfl) ?_
  obtain ⟨G, O2, P2⟩ := g.2.2.1
  refine W0.getS me (hw _ (List.mem_of_getElem? (i := 97) rfl)) O2 Via.refl d_jdk_42_method_154_0 ?_
  intro T1 W1
  show Fi p e below s Z _ _ _ _ T1 (mkF m 3 #[.val (.ref a)] [(.int G)])
  refine W1.ifN_eq me d_jdk_42_method_154_3 P2 ?_
  refine W1.aloadN me d_jdk_42_method_154_6 rfl rfl ?_
  show Fi p e below s Z _ _ _ _ T1 (mkF m 7 #[.val (.ref a)] [(.ref a)])
  refine W1.getF me (hw _ (List.mem_of_getElem? (i := 25) rfl)) FC Via.refl d_jdk_42_method_154_7 ?_
  intro T2 W2
  show Fi p e below s Z _ _ _ _ T2 (mkF m 10 #[.val (.ref a)] [(.int (0 : Int32))])
  refine W2.ifN_ne me d_jdk_42_method_154_10 rfl ?_
  refine W2.iconst me d_jdk_42_method_154_13 (v := 1) rfl ?_
  refine W2.goto me d_jdk_42_method_154_14 (pc' := 18) (by decide) (by decide) ?_
  show Fi p e below s Z _ _ _ _ T2 (mkF m 18 #[.val (.ref a)] [(.int (1 : Int32))])
  exact W2.retN hEL me (Or.inl rfl) d_jdk_42_method_154_18 ⟨rfl, rfl⟩ (by decide) (by decide)

set_option maxRecDepth 65536 in
set_option maxHeartbeats 4000000 in
theorem c_pchk {l : Launch} {Z : State} {a0 : Array Value} {kn : Bool} (g : Gl Z a0) {ws : List Cond} {h0 : Heap} {ss : List Addr} (hO : Old Z Z.heap.size h0) {i n : Int32} {G : Value} (rG : G.isRef = true) (hi : ¬ i < 0 ∧ i < n) :
    Con l Z consts_1 kn ws (⟨"jdk/internal/util/Preconditions", "checkIndex", "(IILjava/util/function/BiFunction;)I"⟩ : MethodName) jdk_41_method_11_code 3 (some .int) ({ frames := 0, cells := 0, slots := 0, locals := 0 } : Room) #[(.int i), (.int n), G] h0 ss (rV fun v h => h0 = h ∧ v = .int i) := by
  have hw := g.1
  have hEL := g.2.1
  refine Con.of (plainFor_of_name pn_2) hO ?_
  intro p e s m below meth c T0 me W0
  have hcG : G.category = 1 := XT.cat1 rG
  refine Fi.entry (L := #[.val (.int i), .val (.int n), .val G]) (by rcases ref_cases rG with rfl | ⟨ga, rfl⟩ <;> simp [entryFrame, mkF, argsToLocals, Value.category]) ?_
  refine W0.iloadN me d_jdk_41_method_11_0 rfl ?_
  show Fi p e below s Z _ _ _ _ T0 (mkF m 1 #[.val (.int i), .val (.int n), .val G] [(.int i)])
  refine W0.ifN_lt me d_jdk_41_method_11_1 hi.1 ?_
  refine W0.iloadN me d_jdk_41_method_11_4 rfl ?_
  refine W0.iloadN me d_jdk_41_method_11_5 rfl ?_
  show Fi p e below s Z _ _ _ _ T0 (mkF m 6 #[.val (.int i), .val (.int n), .val G] [(.int n), (.int i)])
  refine W0.icY_lt me d_jdk_41_method_11_6 hi.2 (pc' := 16) (by decide) (by decide) ?_
  refine W0.iloadN me d_jdk_41_method_11_16 rfl ?_
  show Fi p e below s Z _ _ _ _ T0 (mkF m 17 #[.val (.int i), .val (.int n), .val G] [(.int i)])
  exact W0.retI hEL me d_jdk_41_method_11_17 ⟨rfl, rfl⟩ (by decide) (by decide)

set_option maxRecDepth 65536 in
set_option maxHeartbeats 4000000 in
theorem c_schk {l : Launch} {Z : State} {a0 : Array Value} {kn : Bool} (g : Gl Z a0) {ws : List Cond} {h0 : Heap} {ss : List Addr} (hO : Old Z Z.heap.size h0) {i n : Int32} (hi : ¬ i < 0 ∧ i < n) :
    Con l Z consts_1 kn ws (⟨"java/lang/String", "checkIndex", "(II)V"⟩ : MethodName) jdk_42_method_155_code 2 none ({ frames := 1, cells := 0, slots := 0, locals := 14 } : Room) #[(.int i), (.int n)] h0 ss (rU fun h => h0 = h) := by
  have hw := g.1
  have hEL := g.2.1
  refine Con.of (plainFor_of_name pn_1) hO ?_
  intro p e s m below meth c T0 me W0
  refine Fi.entry (L := #[.val (.int i), .val (.int n)]) (by first | (simp [entryFrame, mkF, argsToLocals, Value.category, maxLocals]; done) | (simp [entryFrame, mkF, argsToLocals, Value.category]; done) | rfl) ?_
  obtain ⟨G, O3, rG⟩ := g.2.2.2.1
  refine W0.iloadN me d_jdk_42_method_155_0 rfl ?_
  refine W0.iloadN me d_jdk_42_method_155_1 rfl ?_
  show Fi p e below s Z _ _ _ _ T0 (mkF m 2 #[.val (.int i), .val (.int n)] [(.int n), (.int i)])
  refine W0.getS me (hw _ (List.mem_of_getElem? (i := 193) rfl)) O3 Via.refl d_jdk_42_method_155_2 ?_
  intro T1 W1
  show Fi p e below s Z _ _ _ _ T1 (mkF m 5 #[.val (.int i), .val (.int n)] [G, (.int n), (.int i)])
  refine W1.callS me hEL (hw _ (List.mem_of_getElem? (i := 195) rfl)) (hw _ (List.mem_of_getElem? (i := 196) rfl)) (hw _ (List.mem_of_getElem? (i := 194) rfl)) (hw _ (List.mem_of_getElem? (i := 197) rfl)) (argsL := [(.int i), (.int n), G]) (rest := []) (c_pchk (ss := []) g W1.old rG hi) d_jdk_42_method_155_5 (by decide) (fun _ q => nomatch q) rfl (lenOf pd_5 rfl) (own_le rfl) (own_le rfl) (own_le rfl) (own_le rfl) rfl ?_
  intro T2 h2 v2 W2 z2 q2
  obtain ⟨sf2, X2, _, rfl, rfl, rfl⟩ := q2
  show Fi p e below s Z _ _ _ _ T2 (mkF m 8 #[.val (.int i), .val (.int n)] [(.int i)])
  refine W2.pop me d_jdk_42_method_155_8 rfl ?_
  show Fi p e below s Z _ _ _ _ T2 (mkF m 9 #[.val (.int i), .val (.int n)] [])
  exact W2.retU hEL me d_jdk_42_method_155_9 rfl (by decide) (by decide)

set_option maxRecDepth 65536 in
set_option maxHeartbeats 4000000 in
theorem c_latat {l : Launch} {Z : State} {a0 : Array Value} {kn : Bool} (g : Gl Z a0) {ws : List Cond} {h0 : Heap} {ss : List Addr} (hO : Old Z Z.heap.size h0) {b : Addr} {kb : ClassId} {cs : List Int32} {i : Nat} (AB : Arv Z h0 b kb .byte (Int32.ofNat cs.length) (lb cs) (.int 0)) (hl : cs.length < 2 ^ 20) (hC8 : C8 cs) (hi : i < cs.length) :
    Con l Z consts_1 kn ws (⟨"java/lang/StringLatin1", "charAt", "([BI)C"⟩ : MethodName) jdk_43_method_2_code 2 (some .char) ({ frames := 2, cells := 0, slots := 0, locals := 27 } : Room) #[(.ref b), (.int (Int32.ofNat i))] h0 ss (rV fun v h => h0 = h ∧ v = .int (cs.getD i 0)) := by
  have hw := g.1
  have hEL := g.2.1
  refine Con.of (plainFor_of_name pn_3) hO ?_
  intro p e s m below meth c T0 me W0
  refine Fi.entry (L := #[.val (.ref b), .val (.int (Int32.ofNat i))]) (by first | (simp [entryFrame, mkF, argsToLocals, Value.category, maxLocals]; done) | (simp [entryFrame, mkF, argsToLocals, Value.category]; done) | rfl) ?_
  refine W0.iloadN me d_jdk_43_method_2_0 rfl ?_
  refine W0.aloadN me d_jdk_43_method_2_1 rfl rfl ?_
  show Fi p e below s Z _ _ _ _ T0 (mkF m 2 #[.val (.ref b), .val (.int (Int32.ofNat i))] [(.ref b), (.int (Int32.ofNat i))])
  refine W0.alen me AB d_jdk_43_method_2_2 ?_
  refine W0.callS me hEL (hw _ (List.mem_of_getElem? (i := 190) rfl)) (hw _ (List.mem_of_getElem? (i := 191) rfl)) (hw _ (List.mem_of_getElem? (i := 6) rfl)) (hw _ (List.mem_of_getElem? (i := 192) rfl)) (argsL := [(.int (Int32.ofNat i)), (.int (Int32.ofNat cs.length))]) (rest := []) (c_schk (ss := []) g W0.old (on_in hi (by omega))) d_jdk_43_method_2_3 (by decide) (fun _ q => nomatch q) rfl (lenOf pd_6 rfl) (own_le rfl) (own_le rfl) (own_le rfl) (own_le rfl) rfl ?_
  intro T1 h1 v1 W1 z1 q1
  obtain ⟨sf1, X1, rfl, rfl⟩ := q1
  show Fi p e below s Z _ _ _ _ T1 (mkF m 6 #[.val (.ref b), .val (.int (Int32.ofNat i))] [])
  refine W1.aloadN me d_jdk_43_method_2_6 rfl rfl ?_
  refine W1.iloadN me d_jdk_43_method_2_7 rfl ?_
  show Fi p e below s Z _ _ _ _ T1 (mkF m 8 #[.val (.ref b), .val (.int (Int32.ofNat i))] [(.int (Int32.ofNat i)), (.ref b)])
  refine W1.baload me AB d_jdk_43_method_2_8 (on_in hi (by omega)) (v := .int (cs.getD i 0).toInt8.toInt32) (by rw [on_clamp (by omega), lb_get hi]) ?_
  show Fi p e below s Z _ _ _ _ T1 (mkF m 9 #[.val (.ref b), .val (.int (Int32.ofNat i))] [(.int (cs.getD i 0).toInt8.toInt32)])
  refine W1.sipush me d_jdk_43_method_2_9 (v := 255) rfl ?_
  refine W1.iand me d_jdk_43_method_2_12 ?_
  refine W1.i2c me d_jdk_43_method_2_13 ?_
  show Fi p e below s Z _ _ _ _ T1 (mkF m 14 #[.val (.ref b), .val (.int (Int32.ofNat i))] [(.int (((cs.getD i 0).toInt8.toInt32 &&& (255 : Int32)).toUInt32.toUInt16.toUInt32.toInt32))])
  have e1 := byte_back (hC8.at hi)
  have e2 : ((cs.getD i 0).toInt8.toInt32 &&& (255 : Int32)).toUInt32.toUInt16.toUInt32.toInt32 = cs.getD i 0 := by rw [i2c_mask, e1]
  rw [e2]
  exact W1.retN hEL me (Or.inr (Or.inr (Or.inl rfl))) d_jdk_43_method_2_14 ⟨rfl, by rw [nar_char_of (up16 (hC8.at hi))]⟩ (by decide) (by decide)

set_option maxRecDepth 65536 in
set_option maxHeartbeats 4000000 in
theorem c_charat {l : Launch} {Z : State} {a0 : Array Value} {kn : Bool} (g : Gl Z a0) {ws : List Cond} {h0 : Heap} {ss : List Addr} (hO : Old Z Z.heap.size h0) {a : Addr} {cs : List Int32} {i : Nat} (L : Lat Z h0 a cs) (hi : i < cs.length) :
    Con l Z consts_1 kn ws (⟨"java/lang/String", "charAt", "(I)C"⟩ : MethodName) jdk_42_method_56_code 2 (some .char) ({ frames := 3, cells := 0, slots := 0, locals := 40 } : Room) #[(.ref a), (.int (Int32.ofNat i))] h0 ss (rV fun v h => h0 = h ∧ v = .int (cs.getD i 0)) := by
  have hw := g.1
  have hEL := g.2.1
  refine Con.of (plainFor_of_name pn_1) hO ?_
  intro p e s m below meth c T0 me W0
  refine Fi.entry (L := #[.val (.ref a), .val (.int (Int32.ofNat i))]) (by first | (simp [entryFrame, mkF, argsToLocals, Value.category, maxLocals]; done) | (simp [entryFrame, mkF, argsToLocals, Value.category]; done) | rfl) ?_
  obtain ⟨vb, kb, EX, FC, FV, AB, hl, hC8⟩ := L
  refine W0.aloadN me d_jdk_42_method_56_0 rfl rfl ?_
  show Fi p e below s Z _ _ _ _ T0 (mkF m 1 #[.val (.ref a), .val (.int (Int32.ofNat i))] [(.ref a)])
  refine W0.callV me hEL (hw _ (List.mem_of_getElem? (i := 181) rfl)) (hw _ (List.mem_of_getElem? (i := 182) rfl)) (fun hZ' => notFace_of_selects (args := #[]) (mvT (s := s.setVm _) hZ' (hw _ (List.mem_of_getElem? (i := 184) rfl)))) (hw _ (List.mem_of_getElem? (i := 184) rfl)) (hw _ (List.mem_of_getElem? (i := 183) rfl)) (hw _ (List.mem_of_getElem? (i := 6) rfl)) (hw _ (List.mem_of_getElem? (i := 185) rfl)) (a := a) (argsL := []) (rest := []) EX (c_islat (ss := []) g W0.old FC) d_jdk_42_method_56_1 (by decide) (fun _ q => nomatch q) rfl (lenOf pd_7 rfl) (own_le rfl) (own_le rfl) (own_le rfl) (own_le rfl) rfl ?_
  intro T1 h1 v1 W1 z1 q1
  obtain ⟨sf1, X1, _, rfl, rfl, rfl⟩ := q1
  show Fi p e below s Z _ _ _ _ T1 (mkF m 4 #[.val (.ref a), .val (.int (Int32.ofNat i))] [(.int (1 : Int32))])
  refine W1.ifN_eq me d_jdk_42_method_56_4 (by decide) ?_
  refine W1.aloadN me d_jdk_42_method_56_7 rfl rfl ?_
  show Fi p e below s Z _ _ _ _ T1 (mkF m 8 #[.val (.ref a), .val (.int (Int32.ofNat i))] [(.ref a)])
  refine W1.getF me (hw _ (List.mem_of_getElem? (i := 24) rfl)) FV Via.refl d_jdk_42_method_56_8 ?_
  intro T2 W2
  show Fi p e below s Z _ _ _ _ T2 (mkF m 11 #[.val (.ref a), .val (.int (Int32.ofNat i))] [(.ref vb)])
  refine W2.iloadN me d_jdk_42_method_56_11 rfl ?_
  show Fi p e below s Z _ _ _ _ T2 (mkF m 12 #[.val (.ref a), .val (.int (Int32.ofNat i))] [(.int (Int32.ofNat i)), (.ref vb)])
  refine W2.callS me hEL (hw _ (List.mem_of_getElem? (i := 186) rfl)) (hw _ (List.mem_of_getElem? (i := 187) rfl)) (hw _ (List.mem_of_getElem? (i := 188) rfl)) (hw _ (List.mem_of_getElem? (i := 189) rfl)) (argsL := [(.ref vb), (.int (Int32.ofNat i))]) (rest := []) (c_latat (ss := []) g W2.old AB hl hC8 hi) d_jdk_42_method_56_12 (by decide) (fun _ q => nomatch q) rfl (lenOf pd_8 rfl) (own_le rfl) (own_le rfl) (own_le rfl) (own_le rfl) rfl ?_
  intro T3 h3 v3 W3 z3 q3
  obtain ⟨sf3, X3, _, rfl, rfl, rfl⟩ := q3
  show Fi p e below s Z _ _ _ _ T3 (mkF m 15 #[.val (.ref a), .val (.int (Int32.ofNat i))] [(.int (cs.getD i 0))])
  exact W3.retN hEL me (Or.inr (Or.inr (Or.inl rfl))) d_jdk_42_method_56_15 ⟨rfl, by rw [nar_char_of (up16 (hC8.at hi))]⟩ (by decide) (by decide)

set_option maxRecDepth 65536 in
set_option maxHeartbeats 4000000 in
theorem c_min {l : Launch} {Z : State} {a0 : Array Value} {kn : Bool} (g : Gl Z a0) {ws : List Cond} {h0 : Heap} {ss : List Addr} (hO : Old Z Z.heap.size h0) {x y : Int32} (hx : ¬ x < y) :
    Con l Z consts_1 kn ws (⟨"java/lang/Math", "min", "(II)I"⟩ : MethodName) jdk_29_method_69_code 2 (some .int) ({ frames := 0, cells := 0, slots := 0, locals := 0 } : Room) #[(.int x), (.int y)] h0 ss (rV fun v h => h0 = h ∧ v = .int y) := by
  have hw := g.1
  have hEL := g.2.1
  refine Con.of pf_0 hO ?_
  intro p e s m below meth c T0 me W0
  refine Fi.entry (L := #[.val (.int x), .val (.int y)]) (by first | (simp [entryFrame, mkF, argsToLocals, Value.category, maxLocals]; done) | (simp [entryFrame, mkF, argsToLocals, Value.category]; done) | rfl) ?_
  refine W0.iloadN me d_jdk_29_method_69_0 rfl ?_
  refine W0.iloadN me d_jdk_29_method_69_1 rfl ?_
  show Fi p e below s Z _ _ _ _ T0 (mkF m 2 #[.val (.int x), .val (.int y)] [(.int y), (.int x)])
  refine W0.ic_gt me d_jdk_29_method_69_2 (pc' := 9) (by decide) (by decide) (fun hb1 => ?_) (fun hb1 => ?_)
  ·
    show Fi p e below s Z _ _ _ _ T0 (mkF m 9 #[.val (.int x), .val (.int y)] [])
    refine W0.iloadN me d_jdk_29_method_69_9 rfl ?_
    show Fi p e below s Z _ _ _ _ T0 (mkF m 10 #[.val (.int x), .val (.int y)] [(.int y)])
    exact W0.retI hEL me d_jdk_29_method_69_10 ⟨rfl, rfl⟩ (by decide) (by decide)
  ·
    show Fi p e below s Z _ _ _ _ T0 (mkF m 5 #[.val (.int x), .val (.int y)] [])
    refine W0.iloadN me d_jdk_29_method_69_5 rfl ?_
    refine W0.goto me d_jdk_29_method_69_6 (pc' := 10) (by decide) (by decide) ?_
    show Fi p e below s Z _ _ _ _ T0 (mkF m 10 #[.val (.int x), .val (.int y)] [(.int x)])
    have exy : x = y := Int32.le_antisymm (Int32.not_lt.mp hb1) (Int32.not_lt.mp hx)
    exact W0.retI hEL me d_jdk_29_method_69_10 ⟨rfl, by rw [exy]⟩ (by decide) (by decide)

set_option maxRecDepth 65536 in
set_option maxHeartbeats 4000000 in
theorem c_achk {l : Launch} {Z : State} {a0 : Array Value} {kn : Bool} (g : Gl Z a0) {ws : List Cond} {h0 : Heap} {ss : List Addr} (hO : Old Z Z.heap.size h0) {i j : Int32} (hi : ¬ j < i) :
    Con l Z consts_1 kn ws (⟨"java/util/Arrays", "checkLength", "(II)V"⟩ : MethodName) jdk_65_method_131_code 2 none ({ frames := 0, cells := 0, slots := 0, locals := 0 } : Room) #[(.int i), (.int j)] h0 ss (rU fun h => h0 = h) := by
  have hw := g.1
  have hEL := g.2.1
  refine Con.of (plainFor_of_name pn_5) hO ?_
  intro p e s m below meth c T0 me W0
  refine Fi.entry (L := #[.val (.int i), .val (.int j)]) (by first | (simp [entryFrame, mkF, argsToLocals, Value.category, maxLocals]; done) | (simp [entryFrame, mkF, argsToLocals, Value.category]; done) | rfl) ?_
  refine W0.iloadN me d_jdk_65_method_131_0 rfl ?_
  refine W0.iloadN me d_jdk_65_method_131_1 rfl ?_
  show Fi p e below s Z _ _ _ _ T0 (mkF m 2 #[.val (.int i), .val (.int j)] [(.int i), (.int j)])
  refine W0.icY_ge me d_jdk_65_method_131_2 hi (pc' := 37) (by decide) (by decide) ?_
  show Fi p e below s Z _ _ _ _ T0 (mkF m 37 #[.val (.int i), .val (.int j)] [])
  exact W0.retU hEL me d_jdk_65_method_131_37 rfl (by decide) (by decide)

set_option maxRecDepth 65536 in
set_option maxHeartbeats 4000000 in
theorem c_crb {l : Launch} {Z : State} {a0 : Array Value} {kn : Bool} (g : Gl Z a0) {ws : List Cond} {h0 : Heap} {ss : List Addr} (hO : Old Z Z.heap.size h0) {b : Addr} {kb : ClassId} {cs : List Int32} {N f n t : Nat} (ht : t = f + n) (AB : Arv Z h0 b kb .byte (Int32.ofNat N) (lb cs) (.int 0)) (hl : N < 2 ^ 20) (hN : cs.length ≤ N) (hn : n ≤ 40) (hf : f + n ≤ cs.length) :
    Con l Z consts_1 kn ws (⟨"java/util/Arrays", "copyOfRangeByte", "([BII)[B"⟩ : MethodName) jdk_65_method_133_code 5 (some (.array .byte)) ({ frames := 1, cells := 1, slots := 40, locals := 18 } : Room) #[(.ref b), (.int (Int32.ofNat f)), (.int (Int32.ofNat t))] h0 ss (rV fun v h => Ext h0 h ∧ ∃ d kd, v = .ref d ∧ h0.size ≤ d ∧ Arv Z h d kd .byte (Int32.ofNat n) (lb (sub cs f n)) (.int 0)) := by
  have hw := g.1
  have hEL := g.2.1
  refine Con.of (plainFor_of_name pn_5) hO ?_
  intro p e s m below meth c T0 me W0
  refine Fi.entry (L := #[.val (.ref b), .val (.int (Int32.ofNat f)), .val (.int (Int32.ofNat t)), .unset, .unset]) (by first | (simp [entryFrame, mkF, argsToLocals, Value.category, maxLocals]; done) | (simp [entryFrame, mkF, argsToLocals, Value.category]; done) | rfl) ?_
  have hblt := own_lt AB.lt
  refine W0.iloadN me d_jdk_65_method_133_0 rfl ?_
  refine W0.iloadN me d_jdk_65_method_133_1 rfl ?_
  show Fi p e below s Z _ _ _ _ T0 (mkF m 2 #[.val (.ref b), .val (.int (Int32.ofNat f)), .val (.int (Int32.ofNat t)), .unset, .unset] [(.int (Int32.ofNat t)), (.int (Int32.ofNat f))])
  refine W0.callS me hEL (hw _ (List.mem_of_getElem? (i := 164) rfl)) (hw _ (List.mem_of_getElem? (i := 165) rfl)) (hw _ (List.mem_of_getElem? (i := 159) rfl)) (hw _ (List.mem_of_getElem? (i := 166) rfl)) (argsL := [(.int (Int32.ofNat f)), (.int (Int32.ofNat t))]) (rest := []) (c_achk (ss := []) g W0.old (on_nlt (by omega) (by omega))) d_jdk_65_method_133_2 (by decide) (fun _ q => nomatch q) rfl (lenOf pd_6 rfl) (own_le rfl) (own_le rfl) (own_le rfl) (own_le rfl) rfl ?_
  intro T1 h1 v1 W1 z1 q1
  obtain ⟨sf1, X1, rfl, rfl⟩ := q1
  show Fi p e below s Z _ _ _ _ T1 (mkF m 5 #[.val (.ref b), .val (.int (Int32.ofNat f)), .val (.int (Int32.ofNat t)), .unset, .unset] [])
  refine W1.iloadN me d_jdk_65_method_133_5 rfl ?_
  refine W1.iloadN me d_jdk_65_method_133_6 rfl ?_
  refine W1.isub me d_jdk_65_method_133_7 ?_
  show Fi p e below s Z _ _ _ _ T1 (mkF m 8 #[.val (.ref b), .val (.int (Int32.ofNat f)), .val (.int (Int32.ofNat t)), .unset, .unset] [(.int ((Int32.ofNat t) - (Int32.ofNat f)))])
  have e1 : Int32.ofNat t - Int32.ofNat f = Int32.ofNat n := by rw [on_sub (by omega)]; congr 1; omega
  rw [e1]
  refine W1.istoreN me d_jdk_65_method_133_8 (l' := #[.val (.ref b), .val (.int (Int32.ofNat f)), .val (.int (Int32.ofNat t)), .val (.int (Int32.ofNat n)), .unset]) rfl ?_
  refine W1.iloadN me d_jdk_65_method_133_9 rfl ?_
  show Fi p e below s Z _ _ _ _ T1 (mkF m 10 #[.val (.ref b), .val (.int (Int32.ofNat f)), .val (.int (Int32.ofNat t)), .val (.int (Int32.ofNat n)), .unset] [(.int (Int32.ofNat n))])
  refine W1.newA me (hw _ (List.mem_of_getElem? (i := 19) rfl)) d_jdk_65_method_133_10 (on_nneg (by omega)) (cap := 40) (by rw [on_clamp (by omega)]; omega) (own_le rfl) (own_le rfl) (own_le rfl) ?_
  intro T2 h2 a2 k2 g2 W2 E2 A2
  show Fi p e below s Z _ _ _ _ T2 (mkF m 12 #[.val (.ref b), .val (.int (Int32.ofNat f)), .val (.int (Int32.ofNat t)), .val (.int (Int32.ofNat n)), .unset] [(.ref a2)])
  refine W2.astore me d_jdk_65_method_133_12 (l' := #[.val (.ref b), .val (.int (Int32.ofNat f)), .val (.int (Int32.ofNat t)), .val (.int (Int32.ofNat n)), .val (.ref a2)]) rfl rfl ?_
  refine W2.aloadN me d_jdk_65_method_133_14 rfl rfl ?_
  refine W2.iloadN me d_jdk_65_method_133_15 rfl ?_
  refine W2.aload me d_jdk_65_method_133_16 rfl rfl ?_
  refine W2.iconst me d_jdk_65_method_133_18 (v := 0) rfl ?_
  refine W2.aloadN me d_jdk_65_method_133_19 rfl rfl ?_
  show Fi p e below s Z _ _ _ _ T2 (mkF m 20 #[.val (.ref b), .val (.int (Int32.ofNat f)), .val (.int (Int32.ofNat t)), .val (.int (Int32.ofNat n)), .val (.ref a2)] [(.ref b), (.int (0 : Int32)), (.ref a2), (.int (Int32.ofNat f)), (.ref b)])
  refine W2.alen me (AB.ext E2) d_jdk_65_method_133_20 ?_
  refine W2.iloadN me d_jdk_65_method_133_21 rfl ?_
  refine W2.isub me d_jdk_65_method_133_22 ?_
  show Fi p e below s Z _ _ _ _ T2 (mkF m 23 #[.val (.ref b), .val (.int (Int32.ofNat f)), .val (.int (Int32.ofNat t)), .val (.int (Int32.ofNat n)), .val (.ref a2)] [(.int ((Int32.ofNat N) - (Int32.ofNat f))), (.int (0 : Int32)), (.ref a2), (.int (Int32.ofNat f)), (.ref b)])
  have e2 : Int32.ofNat N - Int32.ofNat f = Int32.ofNat (N - f) := on_sub (by omega)
  rw [e2]
  refine W2.iloadN me d_jdk_65_method_133_23 rfl ?_
  show Fi p e below s Z _ _ _ _ T2 (mkF m 24 #[.val (.ref b), .val (.int (Int32.ofNat f)), .val (.int (Int32.ofNat t)), .val (.int (Int32.ofNat n)), .val (.ref a2)] [(.int (Int32.ofNat n)), (.int (Int32.ofNat (N - f))), (.int (0 : Int32)), (.ref a2), (.int (Int32.ofNat f)), (.ref b)])
  refine W2.callS me hEL (hw _ (List.mem_of_getElem? (i := 167) rfl)) (hw _ (List.mem_of_getElem? (i := 168) rfl)) (hw _ (List.mem_of_getElem? (i := 169) rfl)) (hw _ (List.mem_of_getElem? (i := 170) rfl)) (argsL := [(.int (Int32.ofNat (N - f))), (.int (Int32.ofNat n))]) (rest := [(.int (0 : Int32)), (.ref a2), (.int (Int32.ofNat f)), (.ref b)]) (c_min (ss := []) g W2.old (on_nlt (by omega) (by omega))) d_jdk_65_method_133_24 (by decide) (fun _ q => nomatch q) rfl (lenOf pd_9 rfl) (own_le rfl) (own_le rfl) (own_le rfl) (own_le rfl) rfl ?_
  intro T3 h3 v3 W3 z3 q3
  obtain ⟨sf3, X3, _, rfl, rfl, rfl⟩ := q3
  show Fi p e below s Z _ _ _ _ T3 (mkF m 27 #[.val (.ref b), .val (.int (Int32.ofNat f)), .val (.int (Int32.ofNat t)), .val (.int (Int32.ofNat n)), .val (.ref a2)] [(.int (Int32.ofNat n)), (.int (0 : Int32)), (.ref a2), (.int (Int32.ofNat f)), (.ref b)])
  have hz2 : Z.heap.size ≤ a2 := by have := hO.2.1; omega
  refine W3.acopy me (hw _ (List.mem_of_getElem? (i := 171) rfl)) (hw _ (List.mem_of_getElem? (i := 124) rfl)) (hw _ (List.mem_of_getElem? (i := 122) rfl)) (hw _ (List.mem_of_getElem? (i := 123) rfl)) (AB.ext E2) (own_fill A2 n) rfl (Or.inl (List.mem_cons_self ..)) hz2 (on_nneg (by omega)) (by decide) (on_nneg (by omega)) (by rw [on_clamp (by omega), on_clamp (by omega), on_clamp (by omega)]; omega) (by rw [on_clamp (by omega)]; show 0 + n ≤ n; omega) (us := lb (sub cs f n)) (by rw [on_clamp (by omega), on_clamp (by omega)]; exact (own_us (by omega)).symm) (by rw [on_clamp (by omega), List.length_replicate]; show 0 + n ≤ n; omega) d_jdk_65_method_133_27 rfl (own_le rfl) (own_le rfl) ?_
  intro T4 h4 W4 K4 A4
  show Fi p e below s Z _ _ _ _ T4 (mkF m 30 #[.val (.ref b), .val (.int (Int32.ofNat f)), .val (.int (Int32.ofNat t)), .val (.int (Int32.ofNat n)), .val (.ref a2)] [])
  refine W4.aload me d_jdk_65_method_133_30 rfl rfl ?_
  show Fi p e below s Z _ _ _ _ T4 (mkF m 32 #[.val (.ref b), .val (.int (Int32.ofNat f)), .val (.int (Int32.ofNat t)), .val (.int (Int32.ofNat n)), .val (.ref a2)] [(.ref a2)])
  have eA : List.take (0 : Int32).toNatClampNeg (List.replicate n (Value.int 0)) ++ lb (sub cs f n) ++ List.drop ((0 : Int32).toNatClampNeg + (Int32.ofNat n).toNatClampNeg) (List.replicate n (Value.int 0)) = lb (sub cs f n) := by
    rw [on_clamp (by omega)]
    show List.take 0 _ ++ _ ++ List.drop (0 + n) _ = _
    simp
  have A4' : Arv Z h4 a2 k2 .byte (Int32.ofNat n) (lb (sub cs f n)) (.int 0) := eA ▸ A4
  exact W4.retA hEL me d_jdk_65_method_133_32 ⟨own_xk E2 K4 (allS (by omega) all0), a2, k2, rfl, by omega, A4'⟩ (by decide) (by decide) rfl rfl rfl

set_option maxRecDepth 65536 in
set_option maxHeartbeats 4000000 in
theorem c_cr {l : Launch} {Z : State} {a0 : Array Value} {kn : Bool} (g : Gl Z a0) {ws : List Cond} {h0 : Heap} {ss : List Addr} (hO : Old Z Z.heap.size h0) {b : Addr} {kb : ClassId} {cs : List Int32} {N f n t : Nat} (ht : t = f + n) (AB : Arv Z h0 b kb .byte (Int32.ofNat N) (lb cs) (.int 0)) (hl : N < 2 ^ 20) (hN : cs.length ≤ N) (hn : n ≤ 40) (hf : f + n ≤ cs.length) (hne : f ≠ 0 ∨ t ≠ N) :
    Con l Z consts_1 kn ws (⟨"java/util/Arrays", "copyOfRange", "([BII)[B"⟩ : MethodName) jdk_65_method_132_code 3 (some (.array .byte)) ({ frames := 2, cells := 1, slots := 40, locals := 34 } : Room) #[(.ref b), (.int (Int32.ofNat f)), (.int (Int32.ofNat t))] h0 ss (rV fun v h => Ext h0 h ∧ ∃ d kd, v = .ref d ∧ h0.size ≤ d ∧ Arv Z h d kd .byte (Int32.ofNat n) (lb (sub cs f n)) (.int 0)) := by
  have hw := g.1
  have hEL := g.2.1
  refine Con.of (plainFor_of_name pn_5) hO ?_
  intro p e s m below meth c T0 me W0
  refine Fi.entry (L := #[.val (.ref b), .val (.int (Int32.ofNat f)), .val (.int (Int32.ofNat t))]) (by first | (simp [entryFrame, mkF, argsToLocals, Value.category, maxLocals]; done) | (simp [entryFrame, mkF, argsToLocals, Value.category]; done) | rfl) ?_
  refine W0.iloadN me d_jdk_65_method_132_0 rfl ?_
  show Fi p e below s Z _ _ _ _ T0 (mkF m 1 #[.val (.ref b), .val (.int (Int32.ofNat f)), .val (.int (Int32.ofNat t))] [(.int (Int32.ofNat f))])
  refine W0.if_ne me d_jdk_65_method_132_1 (pc' := 10) (by decide) (by decide) (fun hb1 => ?_) (fun hb1 => ?_)
  ·
    show Fi p e below s Z _ _ _ _ T0 (mkF m 10 #[.val (.ref b), .val (.int (Int32.ofNat f)), .val (.int (Int32.ofNat t))] [])
    refine W0.aloadN me d_jdk_65_method_132_10 rfl rfl ?_
    refine W0.iloadN me d_jdk_65_method_132_11 rfl ?_
    refine W0.iloadN me d_jdk_65_method_132_12 rfl ?_
    show Fi p e below s Z _ _ _ _ T0 (mkF m 13 #[.val (.ref b), .val (.int (Int32.ofNat f)), .val (.int (Int32.ofNat t))] [(.int (Int32.ofNat t)), (.int (Int32.ofNat f)), (.ref b)])
    refine W0.callS me hEL (hw _ (List.mem_of_getElem? (i := 161) rfl)) (hw _ (List.mem_of_getElem? (i := 162) rfl)) (hw _ (List.mem_of_getElem? (i := 159) rfl)) (hw _ (List.mem_of_getElem? (i := 163) rfl)) (argsL := [(.ref b), (.int (Int32.ofNat f)), (.int (Int32.ofNat t))]) (rest := []) (c_crb (ss := []) g W0.old ht AB hl hN hn hf) d_jdk_65_method_132_13 (by decide) (fun _ q => nomatch q) rfl (lenOf pd_10 rfl) (own_le rfl) (own_le rfl) (own_le rfl) (own_le rfl) rfl ?_
    intro T1 h1 v1 W1 z1 q1
    obtain ⟨sf1, X1, _, rfl, E1, d1, k1, rfl, y1, A1⟩ := q1
    show Fi p e below s Z _ _ _ _ T1 (mkF m 16 #[.val (.ref b), .val (.int (Int32.ofNat f)), .val (.int (Int32.ofNat t))] [(.ref d1)])
    exact W1.retA hEL me d_jdk_65_method_132_16 ⟨E1, d1, k1, rfl, y1, A1⟩ (by decide) (by decide) rfl rfl rfl
  ·
    show Fi p e below s Z _ _ _ _ T0 (mkF m 4 #[.val (.ref b), .val (.int (Int32.ofNat f)), .val (.int (Int32.ofNat t))] [])
    refine W0.iloadN me d_jdk_65_method_132_4 rfl ?_
    refine W0.aloadN me d_jdk_65_method_132_5 rfl rfl ?_
    show Fi p e below s Z _ _ _ _ T0 (mkF m 6 #[.val (.ref b), .val (.int (Int32.ofNat f)), .val (.int (Int32.ofNat t))] [(.ref b), (.int (Int32.ofNat t))])
    refine W0.alen me AB d_jdk_65_method_132_6 ?_
    show Fi p e below s Z _ _ _ _ T0 (mkF m 7 #[.val (.ref b), .val (.int (Int32.ofNat f)), .val (.int (Int32.ofNat t))] [(.int (Int32.ofNat N)), (.int (Int32.ofNat t))])
    refine W0.icN_eq me d_jdk_65_method_132_7 (fun q => hne.elim (fun z => z ((on_inj (by omega) (n := 0) (by omega)).mp hb1)) (fun z => z ((on_inj (by omega) (by omega)).mp q))) ?_
    refine W0.aloadN me d_jdk_65_method_132_10 rfl rfl ?_
    refine W0.iloadN me d_jdk_65_method_132_11 rfl ?_
    refine W0.iloadN me d_jdk_65_method_132_12 rfl ?_
    show Fi p e below s Z _ _ _ _ T0 (mkF m 13 #[.val (.ref b), .val (.int (Int32.ofNat f)), .val (.int (Int32.ofNat t))] [(.int (Int32.ofNat t)), (.int (Int32.ofNat f)), (.ref b)])
    refine W0.callS me hEL (hw _ (List.mem_of_getElem? (i := 161) rfl)) (hw _ (List.mem_of_getElem? (i := 162) rfl)) (hw _ (List.mem_of_getElem? (i := 159) rfl)) (hw _ (List.mem_of_getElem? (i := 163) rfl)) (argsL := [(.ref b), (.int (Int32.ofNat f)), (.int (Int32.ofNat t))]) (rest := []) (c_crb (ss := []) g W0.old ht AB hl hN hn hf) d_jdk_65_method_132_13 (by decide) (fun _ q => nomatch q) rfl (lenOf pd_10 rfl) (own_le rfl) (own_le rfl) (own_le rfl) (own_le rfl) rfl ?_
    intro T2 h2 v2 W2 z2 q2
    obtain ⟨sf2, X2, _, rfl, E2, d2, k2, rfl, y2, A2⟩ := q2
    show Fi p e below s Z _ _ _ _ T2 (mkF m 16 #[.val (.ref b), .val (.int (Int32.ofNat f)), .val (.int (Int32.ofNat t))] [(.ref d2)])
    exact W2.retA hEL me d_jdk_65_method_132_16 ⟨E2, d2, k2, rfl, y2, A2⟩ (by decide) (by decide) rfl rfl rfl

set_option maxRecDepth 65536 in
set_option maxHeartbeats 4000000 in
theorem c_asbinit {l : Launch} {Z : State} {a0 : Array Value} {kn : Bool} (g : Gl Z a0) {ws : List Cond} {h0 : Heap} {ss : List Addr} (hO : Old Z Z.heap.size h0) {x : Addr} {vv vc : Value} (EX : Exa Z h0 x "java/lang/StringBuilder") (FV : Fld Z h0 x "java/lang/AbstractStringBuilder" "value" "[B" vv) (FC : Fld Z h0 x "java/lang/AbstractStringBuilder" "coder" "B" vc) (FN : Fld Z h0 x "java/lang/AbstractStringBuilder" "count" "I" (.int 0)) (hz : Z.heap.size ≤ x) :
    Con l Z consts_1 kn ws (⟨"java/lang/AbstractStringBuilder", "<init>", "(I)V"⟩ : MethodName) jdk_68_method_2_code 2 none ({ frames := 1, cells := 1, slots := 16, locals := 12 } : Room) #[(.ref x), (.int (16 : Int32))] h0 ss (rUs fun h sf => Keep h0 h [x] ∧ ∃ d, h0.size ≤ d ∧ sf d ∧ Sbd Z h x d [] 16) := by
  have hw := g.1
  have hEL := g.2.1
  refine Con.of (plainFor_of_name pn_6) hO ?_
  intro p e s m below meth c T0 me W0
  refine Fi.entry (L := #[.val (.ref x), .val (.int (16 : Int32))]) (by first | (simp [entryFrame, mkF, argsToLocals, Value.category, maxLocals]; done) | (simp [entryFrame, mkF, argsToLocals, Value.category]; done) | rfl) ?_
  have n_value_coder : Jvm.RoadKit.slotOf Z "java/lang/AbstractStringBuilder" "value" "[B" ≠ Jvm.RoadKit.slotOf Z "java/lang/AbstractStringBuilder" "coder" "B" := slot_ne (Or.inl (hw _ (List.mem_of_getElem? (i := 60) rfl)) : Laid Z a0 "java/lang/StringBuilder" "java/lang/AbstractStringBuilder" "value" "[B") (Or.inl (hw _ (List.mem_of_getElem? (i := 62) rfl)) : Laid Z a0 "java/lang/StringBuilder" "java/lang/AbstractStringBuilder" "coder" "B") (by decide) (t := .array .byte) (t' := .byte) (by decide) (by decide)
  have n_value_count : Jvm.RoadKit.slotOf Z "java/lang/AbstractStringBuilder" "value" "[B" ≠ Jvm.RoadKit.slotOf Z "java/lang/AbstractStringBuilder" "count" "I" := slot_ne (Or.inl (hw _ (List.mem_of_getElem? (i := 60) rfl)) : Laid Z a0 "java/lang/StringBuilder" "java/lang/AbstractStringBuilder" "value" "[B") (Or.inl (hw _ (List.mem_of_getElem? (i := 99) rfl)) : Laid Z a0 "java/lang/StringBuilder" "java/lang/AbstractStringBuilder" "count" "I") (by decide) (t := .array .byte) (t' := .int) (by decide) (by decide)
  have n_coder_count : Jvm.RoadKit.slotOf Z "java/lang/AbstractStringBuilder" "coder" "B" ≠ Jvm.RoadKit.slotOf Z "java/lang/AbstractStringBuilder" "count" "I" := slot_ne (Or.inl (hw _ (List.mem_of_getElem? (i := 62) rfl)) : Laid Z a0 "java/lang/StringBuilder" "java/lang/AbstractStringBuilder" "coder" "B") (Or.inl (hw _ (List.mem_of_getElem? (i := 99) rfl)) : Laid Z a0 "java/lang/StringBuilder" "java/lang/AbstractStringBuilder" "count" "I") (by decide) (t := .byte) (t' := .int) (by decide) (by decide)
  have hxlt := own_lt EX.lt
  refine W0.aloadN me d_jdk_68_method_2_0 rfl rfl ?_
  show Fi p e below s Z _ _ _ _ T0 (mkF m 1 #[.val (.ref x), .val (.int (16 : Int32))] [(.ref x)])
  refine W0.initO me (hw _ (List.mem_of_getElem? (i := 57) rfl)) (hw _ (List.mem_of_getElem? (i := 16) rfl)) (hw _ (List.mem_of_getElem? (i := 17) rfl)) d_jdk_68_method_2_1 rfl (own_le rfl) (own_le rfl) ?_
  intro T1 W1
  show Fi p e below s Z _ _ _ _ T1 (mkF m 4 #[.val (.ref x), .val (.int (16 : Int32))] [])
  obtain ⟨G, O2, P2⟩ := g.2.2.1
  refine W1.getS me (hw _ (List.mem_of_getElem? (i := 58) rfl)) O2 Via.refl d_jdk_68_method_2_4 ?_
  intro T2 W2
  show Fi p e below s Z _ _ _ _ T2 (mkF m 7 #[.val (.ref x), .val (.int (16 : Int32))] [(.int G)])
  refine W2.ifN_eq me d_jdk_68_method_2_7 P2 ?_
  refine W2.aloadN me d_jdk_68_method_2_10 rfl rfl ?_
  refine W2.iloadN me d_jdk_68_method_2_11 rfl ?_
  show Fi p e below s Z _ _ _ _ T2 (mkF m 12 #[.val (.ref x), .val (.int (16 : Int32))] [(.int (16 : Int32)), (.ref x)])
  refine W2.newAE me (hw _ (List.mem_of_getElem? (i := 19) rfl)) d_jdk_68_method_2_12 (by decide) (cap := 16) (by decide) (by decide) (own_le rfl) (own_le rfl) (ad := "[B") (by decide) ?_
  intro T3 h3 a3 k3 g3 W3 E3 A3 EB3
  show Fi p e below s Z _ _ _ _ T3 (mkF m 14 #[.val (.ref x), .val (.int (16 : Int32))] [(.ref a3), (.ref x)])
  refine W3.putF me (hw _ (List.mem_of_getElem? (i := 59) rfl)) (FV.ext E3) Via.refl (EX.ext E3) (Or.inl (hw _ (List.mem_of_getElem? (i := 60) rfl))) (hw _ (List.mem_of_getElem? (i := 46) rfl)) (ty := (.array .byte)) (by decide) rfl rfl (Or.inr (Or.inl ⟨"java/lang/StringBuilder", EX.ext E3, by decide, by decide⟩)) hz d_jdk_68_method_2_14 ?_
  intro T4 h4 W4 R4
  show Fi p e below s Z _ _ _ _ T4 (mkF m 17 #[.val (.ref x), .val (.int (16 : Int32))] [])
  refine W4.aloadN me d_jdk_68_method_2_17 rfl rfl ?_
  refine W4.iconst me d_jdk_68_method_2_18 (v := 0) rfl ?_
  show Fi p e below s Z _ _ _ _ T4 (mkF m 19 #[.val (.ref x), .val (.int (16 : Int32))] [(.int (0 : Int32)), (.ref x)])
  refine W4.putF me (hw _ (List.mem_of_getElem? (i := 61) rfl)) ((FC.ext E3).other R4 (Or.inr n_value_coder.symm)) Via.refl ((EX.ext E3).wr R4) (Or.inl (hw _ (List.mem_of_getElem? (i := 62) rfl))) (hw _ (List.mem_of_getElem? (i := 46) rfl)) (ty := .byte) (by decide) rfl rfl (Or.inr (Or.inl ⟨"java/lang/StringBuilder", (EX.ext E3).wr R4, by decide, by decide⟩)) hz d_jdk_68_method_2_19 ?_
  intro T5 h5 W5 R5
  show Fi p e below s Z _ _ _ _ T5 (mkF m 22 #[.val (.ref x), .val (.int (16 : Int32))] [])
  refine W5.goto me d_jdk_68_method_2_22 (pc' := 38) (by decide) (by decide) ?_
  show Fi p e below s Z _ _ _ _ T5 (mkF m 38 #[.val (.ref x), .val (.int (16 : Int32))] [])
  have hne : a3 ≠ x := own_en (by omega)
  have K : Keep h0 h5 [x] := ((own_xK E3 [x]).wr R4 (Or.inl (List.mem_singleton.mpr rfl))).wr R5 (Or.inl (List.mem_singleton.mpr rfl))
  have S : Sbd Z h5 x a3 [] 16 := ⟨k3, ((EX.ext E3).wr R4).wr R5, ((FV.ext E3).same R4).other R5 (Or.inr n_value_coder), ((FC.ext E3).other R4 (Or.inr n_value_coder.symm)).same R5, ((FN.ext E3).other R4 (Or.inr n_value_count.symm)).other R5 (Or.inr n_coder_count.symm), (A3.other R4 hne).other R5 hne, (EB3.wr R4).wr R5, by decide, by decide, C8.nil⟩
  exact W5.retUs hEL me d_jdk_68_method_2_38 (fun sf q => ⟨K, a3, by omega, q _ (List.mem_cons_self ..), S⟩) (by decide) (by decide)

set_option maxRecDepth 65536 in
set_option maxHeartbeats 4000000 in
theorem c_sbinit {l : Launch} {Z : State} {a0 : Array Value} {kn : Bool} (g : Gl Z a0) {ws : List Cond} {h0 : Heap} {ss : List Addr} (hO : Old Z Z.heap.size h0) {x : Addr} {vv vc : Value} (EX : Exa Z h0 x "java/lang/StringBuilder") (FV : Fld Z h0 x "java/lang/AbstractStringBuilder" "value" "[B" vv) (FC : Fld Z h0 x "java/lang/AbstractStringBuilder" "coder" "B" vc) (FN : Fld Z h0 x "java/lang/AbstractStringBuilder" "count" "I" (.int 0)) (hz : Z.heap.size ≤ x) :
    Con l Z consts_1 kn ws (⟨"java/lang/StringBuilder", "<init>", "()V"⟩ : MethodName) jdk_67_method_1_code 1 none ({ frames := 2, cells := 1, slots := 16, locals := 25 } : Room) #[(.ref x)] h0 ss (rUs fun h sf => Keep h0 h [x] ∧ ∃ d, h0.size ≤ d ∧ sf d ∧ Sbd Z h x d [] 16) := by
  have hw := g.1
  have hEL := g.2.1
  refine Con.of (plainFor_of_name pn_7) hO ?_
  intro p e s m below meth c T0 me W0
  refine Fi.entry (L := #[.val (.ref x)]) (by first | (simp [entryFrame, mkF, argsToLocals, Value.category, maxLocals]; done) | (simp [entryFrame, mkF, argsToLocals, Value.category]; done) | rfl) ?_
  refine W0.aloadN me d_jdk_67_method_1_0 rfl rfl ?_
  refine W0.bipush me d_jdk_67_method_1_1 (v := 16) rfl ?_
  show Fi p e below s Z _ _ _ _ T0 (mkF m 3 #[.val (.ref x)] [(.int (16 : Int32)), (.ref x)])
  refine W0.callI me hEL (hw _ (List.mem_of_getElem? (i := 51) rfl)) (hw _ (List.mem_of_getElem? (i := 52) rfl)) (hw _ (List.mem_of_getElem? (i := 55) rfl)) (hw _ (List.mem_of_getElem? (i := 56) rfl)) rfl (a := x) (argsL := [(.int (16 : Int32))]) (rest := []) (c_asbinit (ss := []) g W0.old EX FV FC FN hz) d_jdk_67_method_1_3 (by decide) (fun _ q => nomatch q) rfl (lenOf pd_11 rfl) (own_le rfl) (own_le rfl) (own_le rfl) (own_le rfl) rfl ?_
  intro T1 h1 v1 W1 z1 q1
  obtain ⟨sf1, X1, rfl, K1, d1, y1, s1, M1⟩ := q1
  show Fi p e below s Z _ _ _ _ T1 (mkF m 6 #[.val (.ref x)] [])
  exact (X1 [d1] (allS s1 all0)).retUs hEL me d_jdk_67_method_1_6 (fun sf q => ⟨K1, d1, y1, q _ (List.mem_cons_self ..), M1⟩) (by decide) (by decide)

set_option maxRecDepth 65536 in
set_option maxHeartbeats 4000000 in
theorem c_maxr {l : Launch} {Z : State} {a0 : Array Value} {kn : Bool} (g : Gl Z a0) {ws : List Cond} {h0 : Heap} {ss : List Addr} (hO : Old Z Z.heap.size h0) {x y : Int32} (hx : ¬ y < x) :
    Con l Z consts_1 kn ws (⟨"java/lang/Math", "max", "(II)I"⟩ : MethodName) jdk_29_method_65_code 2 (some .int) ({ frames := 0, cells := 0, slots := 0, locals := 0 } : Room) #[(.int x), (.int y)] h0 ss (rV fun v h => h0 = h ∧ v = .int y) := by
  have hw := g.1
  have hEL := g.2.1
  refine Con.of pf_1 hO ?_
  intro p e s m below meth c T0 me W0
  refine Fi.entry (L := #[.val (.int x), .val (.int y)]) (by first | (simp [entryFrame, mkF, argsToLocals, Value.category, maxLocals]; done) | (simp [entryFrame, mkF, argsToLocals, Value.category]; done) | rfl) ?_
  refine W0.iloadN me d_jdk_29_method_65_0 rfl ?_
  refine W0.iloadN me d_jdk_29_method_65_1 rfl ?_
  show Fi p e below s Z _ _ _ _ T0 (mkF m 2 #[.val (.int x), .val (.int y)] [(.int y), (.int x)])
  refine W0.ic_lt me d_jdk_29_method_65_2 (pc' := 9) (by decide) (by decide) (fun hb1 => ?_) (fun hb1 => ?_)
  ·
    show Fi p e below s Z _ _ _ _ T0 (mkF m 9 #[.val (.int x), .val (.int y)] [])
    refine W0.iloadN me d_jdk_29_method_65_9 rfl ?_
    show Fi p e below s Z _ _ _ _ T0 (mkF m 10 #[.val (.int x), .val (.int y)] [(.int y)])
    exact W0.retI hEL me d_jdk_29_method_65_10 ⟨rfl, rfl⟩ (by decide) (by decide)
  ·
    show Fi p e below s Z _ _ _ _ T0 (mkF m 5 #[.val (.int x), .val (.int y)] [])
    refine W0.iloadN me d_jdk_29_method_65_5 rfl ?_
    refine W0.goto me d_jdk_29_method_65_6 (pc' := 10) (by decide) (by decide) ?_
    show Fi p e below s Z _ _ _ _ T0 (mkF m 10 #[.val (.int x), .val (.int y)] [(.int x)])
    have exy : x = y := Int32.le_antisymm (Int32.not_lt.mp hx) (Int32.not_lt.mp hb1)
    exact W0.retI hEL me d_jdk_29_method_65_10 ⟨rfl, by rw [exy]⟩ (by decide) (by decide)

set_option maxRecDepth 65536 in
set_option maxHeartbeats 4000000 in
theorem c_newlen {l : Launch} {Z : State} {a0 : Array Value} {kn : Bool} (g : Gl Z a0) {ws : List Cond} {h0 : Heap} {ss : List Addr} (hO : Old Z Z.heap.size h0) {o q f : Nat} (hq : q ≤ f) (hf : 0 < o + f) (ho : o + f < 2 ^ 21) :
    Con l Z consts_1 kn ws (⟨"jdk/internal/util/ArraysSupport", "newLength", "(III)I"⟩ : MethodName) jdk_48_method_27_code 4 (some .int) ({ frames := 1, cells := 0, slots := 0, locals := 14 } : Room) #[(.int (Int32.ofNat o)), (.int (Int32.ofNat q)), (.int (Int32.ofNat f))] h0 ss (rV fun v h => h0 = h ∧ v = .int (Int32.ofNat (o + f))) := by
  have hw := g.1
  have hEL := g.2.1
  refine Con.of (plainFor_of_name pn_8) hO ?_
  intro p e s m below meth c T0 me W0
  refine Fi.entry (L := #[.val (.int (Int32.ofNat o)), .val (.int (Int32.ofNat q)), .val (.int (Int32.ofNat f)), .unset]) (by first | (simp [entryFrame, mkF, argsToLocals, Value.category, maxLocals]; done) | (simp [entryFrame, mkF, argsToLocals, Value.category]; done) | rfl) ?_
  refine W0.iloadN me d_jdk_48_method_27_0 rfl ?_
  refine W0.iloadN me d_jdk_48_method_27_1 rfl ?_
  refine W0.iloadN me d_jdk_48_method_27_2 rfl ?_
  show Fi p e below s Z _ _ _ _ T0 (mkF m 3 #[.val (.int (Int32.ofNat o)), .val (.int (Int32.ofNat q)), .val (.int (Int32.ofNat f)), .unset] [(.int (Int32.ofNat f)), (.int (Int32.ofNat q)), (.int (Int32.ofNat o))])
  refine W0.callS me hEL (hw _ (List.mem_of_getElem? (i := 228) rfl)) (hw _ (List.mem_of_getElem? (i := 229) rfl)) (hw _ (List.mem_of_getElem? (i := 169) rfl)) (hw _ (List.mem_of_getElem? (i := 230) rfl)) (argsL := [(.int (Int32.ofNat q)), (.int (Int32.ofNat f))]) (rest := [(.int (Int32.ofNat o))]) (c_maxr (ss := []) g W0.old (on_nlt hq (by omega))) d_jdk_48_method_27_3 (by decide) (fun _ q => nomatch q) rfl (lenOf pd_9 rfl) (own_le rfl) (own_le rfl) (own_le rfl) (own_le rfl) rfl ?_
  intro T1 h1 v1 W1 z1 q1
  obtain ⟨sf1, X1, _, rfl, rfl, rfl⟩ := q1
  show Fi p e below s Z _ _ _ _ T1 (mkF m 6 #[.val (.int (Int32.ofNat o)), .val (.int (Int32.ofNat q)), .val (.int (Int32.ofNat f)), .unset] [(.int (Int32.ofNat f)), (.int (Int32.ofNat o))])
  show Fi p e below s Z _ _ _ _ T1 (mkF m 6 #[.val (.int (Int32.ofNat o)), .val (.int (Int32.ofNat q)), .val (.int (Int32.ofNat f)), .unset] [(.int (Int32.ofNat f)), (.int (Int32.ofNat o))])
  refine W1.iadd me d_jdk_48_method_27_6 ?_
  rw [on_add]
  refine W1.istoreN me d_jdk_48_method_27_7 (l' := #[.val (.int (Int32.ofNat o)), .val (.int (Int32.ofNat q)), .val (.int (Int32.ofNat f)), .val (.int (Int32.ofNat (o + f)))]) rfl ?_
  refine W1.iconst me d_jdk_48_method_27_8 (v := 0) rfl ?_
  refine W1.iloadN me d_jdk_48_method_27_9 rfl ?_
  show Fi p e below s Z _ _ _ _ T1 (mkF m 10 #[.val (.int (Int32.ofNat o)), .val (.int (Int32.ofNat q)), .val (.int (Int32.ofNat f)), .val (.int (Int32.ofNat (o + f)))] [(.int (Int32.ofNat (o + f))), (.int (0 : Int32))])
  refine W1.icN_ge me d_jdk_48_method_27_10 (on_lt (i := 0) (by omega) (by omega)) ?_
  refine W1.iloadN me d_jdk_48_method_27_13 rfl ?_
  refine W1.ldcI me (hw _ (List.mem_of_getElem? (i := 231) rfl)) d_jdk_48_method_27_14 ?_
  show Fi p e below s Z _ _ _ _ T1 (mkF m 16 #[.val (.int (Int32.ofNat o)), .val (.int (Int32.ofNat q)), .val (.int (Int32.ofNat f)), .val (.int (Int32.ofNat (o + f)))] [(.int (2147483639 : Int32)), (.int (Int32.ofNat (o + f)))])
  refine W1.icN_gt me d_jdk_48_method_27_16 (fun q => absurd q (own_cap (by omega))) ?_
  refine W1.iloadN me d_jdk_48_method_27_19 rfl ?_
  show Fi p e below s Z _ _ _ _ T1 (mkF m 20 #[.val (.int (Int32.ofNat o)), .val (.int (Int32.ofNat q)), .val (.int (Int32.ofNat f)), .val (.int (Int32.ofNat (o + f)))] [(.int (Int32.ofNat (o + f)))])
  exact W1.retI hEL me d_jdk_48_method_27_20 ⟨rfl, rfl⟩ (by decide) (by decide)

set_option maxRecDepth 65536 in
set_option maxHeartbeats 4000000 in
theorem c_newcap {l : Launch} {Z : State} {a0 : Array Value} {kn : Bool} (g : Gl Z a0) {ws : List Cond} {h0 : Heap} {ss : List Addr} (hO : Old Z Z.heap.size h0) {a b : Addr} {cs : List Int32} {cap : Nat} (M : Sbd Z h0 a b cs cap) {n : Nat} (hn : cap < n) (hn2 : n ≤ cap + cap + 2) (hc : cap < 2 ^ 19) :
    Con l Z consts_1 kn ws (⟨"java/lang/AbstractStringBuilder", "newCapacity", "(I)I"⟩ : MethodName) jdk_68_method_10_code 6 (some .int) ({ frames := 2, cells := 0, slots := 0, locals := 29 } : Room) #[(.ref a), (.int (Int32.ofNat n))] h0 ss (rV fun v h => h0 = h ∧ v = .int (Int32.ofNat (cap + (cap + 2)))) := by
  have hw := g.1
  have hEL := g.2.1
  refine Con.of (plainFor_of_name pn_6) hO ?_
  intro p e s m below meth c T0 me W0
  refine Fi.entry (L := #[.val (.ref a), .val (.int (Int32.ofNat n)), .unset, .unset, .unset, .unset]) (by first | (simp [entryFrame, mkF, argsToLocals, Value.category, maxLocals]; done) | (simp [entryFrame, mkF, argsToLocals, Value.category]; done) | rfl) ?_
  obtain ⟨k, EA, FV, FC, FN, AB, EB, hcap, hc20, hC8⟩ := M
  refine W0.aloadN me d_jdk_68_method_10_0 rfl rfl ?_
  show Fi p e below s Z _ _ _ _ T0 (mkF m 1 #[.val (.ref a), .val (.int (Int32.ofNat n)), .unset, .unset, .unset, .unset] [(.ref a)])
  refine W0.getF me (hw _ (List.mem_of_getElem? (i := 59) rfl)) FV Via.refl d_jdk_68_method_10_1 ?_
  intro T1 W1
  show Fi p e below s Z _ _ _ _ T1 (mkF m 4 #[.val (.ref a), .val (.int (Int32.ofNat n)), .unset, .unset, .unset, .unset] [(.ref b)])
  refine W1.alen me AB d_jdk_68_method_10_4 ?_
  show Fi p e below s Z _ _ _ _ T1 (mkF m 5 #[.val (.ref a), .val (.int (Int32.ofNat n)), .unset, .unset, .unset, .unset] [(.int (Int32.ofNat cap))])
  refine W1.istoreN me d_jdk_68_method_10_5 (l' := #[.val (.ref a), .val (.int (Int32.ofNat n)), .val (.int (Int32.ofNat cap)), .unset, .unset, .unset]) rfl ?_
  refine W1.iloadN me d_jdk_68_method_10_6 rfl ?_
  refine W1.aloadN me d_jdk_68_method_10_7 rfl rfl ?_
  show Fi p e below s Z _ _ _ _ T1 (mkF m 8 #[.val (.ref a), .val (.int (Int32.ofNat n)), .val (.int (Int32.ofNat cap)), .unset, .unset, .unset] [(.ref a), (.int (Int32.ofNat n))])
  refine W1.getF me (hw _ (List.mem_of_getElem? (i := 61) rfl)) FC Via.refl d_jdk_68_method_10_8 ?_
  intro T2 W2
  show Fi p e below s Z _ _ _ _ T2 (mkF m 11 #[.val (.ref a), .val (.int (Int32.ofNat n)), .val (.int (Int32.ofNat cap)), .unset, .unset, .unset] [(.int (0 : Int32)), (.int (Int32.ofNat n))])
  refine W2.ishl me d_jdk_68_method_10_11 ?_
  rw [own_shl0]
  show Fi p e below s Z _ _ _ _ T2 (mkF m 12 #[.val (.ref a), .val (.int (Int32.ofNat n)), .val (.int (Int32.ofNat cap)), .unset, .unset, .unset] [(.int (Int32.ofNat n))])
  refine W2.istoreN me d_jdk_68_method_10_12 (l' := #[.val (.ref a), .val (.int (Int32.ofNat n)), .val (.int (Int32.ofNat cap)), .val (.int (Int32.ofNat n)), .unset, .unset]) rfl ?_
  refine W2.iloadN me d_jdk_68_method_10_13 rfl ?_
  refine W2.iloadN me d_jdk_68_method_10_14 rfl ?_
  show Fi p e below s Z _ _ _ _ T2 (mkF m 15 #[.val (.ref a), .val (.int (Int32.ofNat n)), .val (.int (Int32.ofNat cap)), .val (.int (Int32.ofNat n)), .unset, .unset] [(.int (Int32.ofNat cap)), (.int (Int32.ofNat n))])
  refine W2.isub me d_jdk_68_method_10_15 ?_
  rw [on_sub (by omega)]
  show Fi p e below s Z _ _ _ _ T2 (mkF m 16 #[.val (.ref a), .val (.int (Int32.ofNat n)), .val (.int (Int32.ofNat cap)), .val (.int (Int32.ofNat n)), .unset, .unset] [(.int (Int32.ofNat (n - cap)))])
  refine W2.istore me d_jdk_68_method_10_16 (l' := #[.val (.ref a), .val (.int (Int32.ofNat n)), .val (.int (Int32.ofNat cap)), .val (.int (Int32.ofNat n)), .val (.int (Int32.ofNat (n - cap))), .unset]) rfl ?_
  refine W2.iloadN me d_jdk_68_method_10_18 rfl ?_
  refine W2.iload me d_jdk_68_method_10_19 rfl ?_
  refine W2.iloadN me d_jdk_68_method_10_21 rfl ?_
  refine W2.iconst me d_jdk_68_method_10_22 (v := 2) rfl ?_
  refine W2.aloadN me d_jdk_68_method_10_23 rfl rfl ?_
  show Fi p e below s Z _ _ _ _ T2 (mkF m 24 #[.val (.ref a), .val (.int (Int32.ofNat n)), .val (.int (Int32.ofNat cap)), .val (.int (Int32.ofNat n)), .val (.int (Int32.ofNat (n - cap))), .unset] [(.ref a), (.int (2 : Int32)), (.int (Int32.ofNat cap)), (.int (Int32.ofNat (n - cap))), (.int (Int32.ofNat cap))])
  refine W2.getF me (hw _ (List.mem_of_getElem? (i := 61) rfl)) FC Via.refl d_jdk_68_method_10_24 ?_
  intro T3 W3
  show Fi p e below s Z _ _ _ _ T3 (mkF m 27 #[.val (.ref a), .val (.int (Int32.ofNat n)), .val (.int (Int32.ofNat cap)), .val (.int (Int32.ofNat n)), .val (.int (Int32.ofNat (n - cap))), .unset] [(.int (0 : Int32)), (.int (2 : Int32)), (.int (Int32.ofNat cap)), (.int (Int32.ofNat (n - cap))), (.int (Int32.ofNat cap))])
  refine W3.ishl me d_jdk_68_method_10_27 ?_
  rw [own_shl0]
  show Fi p e below s Z _ _ _ _ T3 (mkF m 28 #[.val (.ref a), .val (.int (Int32.ofNat n)), .val (.int (Int32.ofNat cap)), .val (.int (Int32.ofNat n)), .val (.int (Int32.ofNat (n - cap))), .unset] [(.int (2 : Int32)), (.int (Int32.ofNat cap)), (.int (Int32.ofNat (n - cap))), (.int (Int32.ofNat cap))])
  refine W3.iadd me d_jdk_68_method_10_28 ?_
  rw [own_plus2]
  show Fi p e below s Z _ _ _ _ T3 (mkF m 29 #[.val (.ref a), .val (.int (Int32.ofNat n)), .val (.int (Int32.ofNat cap)), .val (.int (Int32.ofNat n)), .val (.int (Int32.ofNat (n - cap))), .unset] [(.int (Int32.ofNat (cap + 2))), (.int (Int32.ofNat (n - cap))), (.int (Int32.ofNat cap))])
  refine W3.callS me hEL (hw _ (List.mem_of_getElem? (i := 224) rfl)) (hw _ (List.mem_of_getElem? (i := 225) rfl)) (hw _ (List.mem_of_getElem? (i := 226) rfl)) (hw _ (List.mem_of_getElem? (i := 227) rfl)) (argsL := [(.int (Int32.ofNat cap)), (.int (Int32.ofNat (n - cap))), (.int (Int32.ofNat (cap + 2)))]) (rest := []) (c_newlen (ss := []) g W3.old (by omega) (by omega) (by omega)) d_jdk_68_method_10_29 (by decide) (fun _ q => nomatch q) rfl (lenOf pd_12 rfl) (own_le rfl) (own_le rfl) (own_le rfl) (own_le rfl) rfl ?_
  intro T4 h4 v4 W4 z4 q4
  obtain ⟨sf4, X4, _, rfl, rfl, rfl⟩ := q4
  show Fi p e below s Z _ _ _ _ T4 (mkF m 32 #[.val (.ref a), .val (.int (Int32.ofNat n)), .val (.int (Int32.ofNat cap)), .val (.int (Int32.ofNat n)), .val (.int (Int32.ofNat (n - cap))), .unset] [(.int (Int32.ofNat (cap + (cap + 2))))])
  refine W4.istore me d_jdk_68_method_10_32 (l' := #[.val (.ref a), .val (.int (Int32.ofNat n)), .val (.int (Int32.ofNat cap)), .val (.int (Int32.ofNat n)), .val (.int (Int32.ofNat (n - cap))), .val (.int (Int32.ofNat (cap + (cap + 2))))]) rfl ?_
  refine W4.iload me d_jdk_68_method_10_34 rfl ?_
  refine W4.ldcI me (hw _ (List.mem_of_getElem? (i := 232) rfl)) d_jdk_68_method_10_36 ?_
  show Fi p e below s Z _ _ _ _ T4 (mkF m 38 #[.val (.ref a), .val (.int (Int32.ofNat n)), .val (.int (Int32.ofNat cap)), .val (.int (Int32.ofNat n)), .val (.int (Int32.ofNat (n - cap))), .val (.int (Int32.ofNat (cap + (cap + 2))))] [(.int (2147483647 : Int32)), (.int (Int32.ofNat (cap + (cap + 2))))])
  refine W4.icY_ne me d_jdk_68_method_10_38 (own_nmax (by omega)) (pc' := 51) (by decide) (by decide) ?_
  refine W4.iload me d_jdk_68_method_10_51 rfl ?_
  refine W4.aloadN me d_jdk_68_method_10_53 rfl rfl ?_
  show Fi p e below s Z _ _ _ _ T4 (mkF m 54 #[.val (.ref a), .val (.int (Int32.ofNat n)), .val (.int (Int32.ofNat cap)), .val (.int (Int32.ofNat n)), .val (.int (Int32.ofNat (n - cap))), .val (.int (Int32.ofNat (cap + (cap + 2))))] [(.ref a), (.int (Int32.ofNat (cap + (cap + 2))))])
  refine W4.getF me (hw _ (List.mem_of_getElem? (i := 61) rfl)) FC Via.refl d_jdk_68_method_10_54 ?_
  intro T5 W5
  show Fi p e below s Z _ _ _ _ T5 (mkF m 57 #[.val (.ref a), .val (.int (Int32.ofNat n)), .val (.int (Int32.ofNat cap)), .val (.int (Int32.ofNat n)), .val (.int (Int32.ofNat (n - cap))), .val (.int (Int32.ofNat (cap + (cap + 2))))] [(.int (0 : Int32)), (.int (Int32.ofNat (cap + (cap + 2))))])
  refine W5.ishr me d_jdk_68_method_10_57 ?_
  rw [own_shr0]
  show Fi p e below s Z _ _ _ _ T5 (mkF m 58 #[.val (.ref a), .val (.int (Int32.ofNat n)), .val (.int (Int32.ofNat cap)), .val (.int (Int32.ofNat n)), .val (.int (Int32.ofNat (n - cap))), .val (.int (Int32.ofNat (cap + (cap + 2))))] [(.int (Int32.ofNat (cap + (cap + 2))))])
  exact W5.retI hEL me d_jdk_68_method_10_58 ⟨rfl, rfl⟩ (by decide) (by decide)

set_option maxRecDepth 65536 in
set_option maxHeartbeats 4000000 in
theorem c_minl {l : Launch} {Z : State} {a0 : Array Value} {kn : Bool} (g : Gl Z a0) {ws : List Cond} {h0 : Heap} {ss : List Addr} (hO : Old Z Z.heap.size h0) {x y : Int32} (hx : ¬ y < x) :
    Con l Z consts_1 kn ws (⟨"java/lang/Math", "min", "(II)I"⟩ : MethodName) jdk_29_method_69_code 2 (some .int) ({ frames := 0, cells := 0, slots := 0, locals := 0 } : Room) #[(.int x), (.int y)] h0 ss (rV fun v h => h0 = h ∧ v = .int x) := by
  have hw := g.1
  have hEL := g.2.1
  refine Con.of pf_0 hO ?_
  intro p e s m below meth c T0 me W0
  refine Fi.entry (L := #[.val (.int x), .val (.int y)]) (by first | (simp [entryFrame, mkF, argsToLocals, Value.category, maxLocals]; done) | (simp [entryFrame, mkF, argsToLocals, Value.category]; done) | rfl) ?_
  refine W0.iloadN me d_jdk_29_method_69_0 rfl ?_
  refine W0.iloadN me d_jdk_29_method_69_1 rfl ?_
  show Fi p e below s Z _ _ _ _ T0 (mkF m 2 #[.val (.int x), .val (.int y)] [(.int y), (.int x)])
  refine W0.icN_gt me d_jdk_29_method_69_2 hx ?_
  refine W0.iloadN me d_jdk_29_method_69_5 rfl ?_
  refine W0.goto me d_jdk_29_method_69_6 (pc' := 10) (by decide) (by decide) ?_
  show Fi p e below s Z _ _ _ _ T0 (mkF m 10 #[.val (.int x), .val (.int y)] [(.int x)])
  exact W0.retI hEL me d_jdk_29_method_69_10 ⟨rfl, rfl⟩ (by decide) (by decide)

set_option maxRecDepth 65536 in
set_option maxHeartbeats 4000000 in
theorem c_copyof {l : Launch} {Z : State} {a0 : Array Value} {kn : Bool} (g : Gl Z a0) {ws : List Cond} {h0 : Heap} {ss : List Addr} (hO : Old Z Z.heap.size h0) {b : Addr} {kb : ClassId} {cs : List Int32} {N n : Nat} (AB : Arv Z h0 b kb .byte (Int32.ofNat N) (lb cs) (.int 0)) (hN : cs.length ≤ N) (hn : N < n) (hn2 : n ≤ 40) :
    Con l Z consts_1 kn ws (⟨"java/util/Arrays", "copyOf", "([BI)[B"⟩ : MethodName) jdk_65_method_121_code 3 (some (.array .byte)) ({ frames := 1, cells := 1, slots := 40, locals := 18 } : Room) #[(.ref b), (.int (Int32.ofNat n))] h0 ss (rVs fun v h sf => Ext h0 h ∧ ∃ d kd, v = .ref d ∧ h0.size ≤ d ∧ sf d ∧ Arv Z h d kd .byte (Int32.ofNat n) (lb cs) (.int 0) ∧ Exa Z h d "[B") := by
  have hw := g.1
  have hEL := g.2.1
  refine Con.of (plainFor_of_name pn_5) hO ?_
  intro p e s m below meth c T0 me W0
  refine Fi.entry (L := #[.val (.ref b), .val (.int (Int32.ofNat n)), .unset]) (by first | (simp [entryFrame, mkF, argsToLocals, Value.category, maxLocals]; done) | (simp [entryFrame, mkF, argsToLocals, Value.category]; done) | rfl) ?_
  have hblt := own_lt AB.lt
  refine W0.iloadN me d_jdk_65_method_121_0 rfl ?_
  refine W0.aloadN me d_jdk_65_method_121_1 rfl rfl ?_
  show Fi p e below s Z _ _ _ _ T0 (mkF m 2 #[.val (.ref b), .val (.int (Int32.ofNat n)), .unset] [(.ref b), (.int (Int32.ofNat n))])
  refine W0.alen me AB d_jdk_65_method_121_2 ?_
  show Fi p e below s Z _ _ _ _ T0 (mkF m 3 #[.val (.ref b), .val (.int (Int32.ofNat n)), .unset] [(.int (Int32.ofNat N)), (.int (Int32.ofNat n))])
  refine W0.icY_ne me d_jdk_65_method_121_3 (fun q => absurd ((on_inj (by omega) (by omega)).mp q) (by omega)) (pc' := 14) (by decide) (by decide) ?_
  refine W0.iloadN me d_jdk_65_method_121_14 rfl ?_
  show Fi p e below s Z _ _ _ _ T0 (mkF m 15 #[.val (.ref b), .val (.int (Int32.ofNat n)), .unset] [(.int (Int32.ofNat n))])
  refine W0.newAE me (hw _ (List.mem_of_getElem? (i := 19) rfl)) d_jdk_65_method_121_15 (on_nneg (by omega)) (cap := 40) (by rw [on_clamp (by omega)]; omega) (by decide) (own_le rfl) (own_le rfl) (ad := "[B") (by decide) ?_
  intro T1 h1 a1 k1 g1 W1 E1 A1 EB1
  show Fi p e below s Z _ _ _ _ T1 (mkF m 17 #[.val (.ref b), .val (.int (Int32.ofNat n)), .unset] [(.ref a1)])
  refine W1.astoreN me d_jdk_65_method_121_17 (l' := #[.val (.ref b), .val (.int (Int32.ofNat n)), .val (.ref a1)]) rfl rfl ?_
  refine W1.aloadN me d_jdk_65_method_121_18 rfl rfl ?_
  refine W1.iconst me d_jdk_65_method_121_19 (v := 0) rfl ?_
  refine W1.aloadN me d_jdk_65_method_121_20 rfl rfl ?_
  refine W1.iconst me d_jdk_65_method_121_21 (v := 0) rfl ?_
  refine W1.aloadN me d_jdk_65_method_121_22 rfl rfl ?_
  show Fi p e below s Z _ _ _ _ T1 (mkF m 23 #[.val (.ref b), .val (.int (Int32.ofNat n)), .val (.ref a1)] [(.ref b), (.int (0 : Int32)), (.ref a1), (.int (0 : Int32)), (.ref b)])
  refine W1.alen me (AB.ext E1) d_jdk_65_method_121_23 ?_
  show Fi p e below s Z _ _ _ _ T1 (mkF m 24 #[.val (.ref b), .val (.int (Int32.ofNat n)), .val (.ref a1)] [(.int (Int32.ofNat N)), (.int (0 : Int32)), (.ref a1), (.int (0 : Int32)), (.ref b)])
  refine W1.iloadN me d_jdk_65_method_121_24 rfl ?_
  show Fi p e below s Z _ _ _ _ T1 (mkF m 25 #[.val (.ref b), .val (.int (Int32.ofNat n)), .val (.ref a1)] [(.int (Int32.ofNat n)), (.int (Int32.ofNat N)), (.int (0 : Int32)), (.ref a1), (.int (0 : Int32)), (.ref b)])
  refine W1.callS me hEL (hw _ (List.mem_of_getElem? (i := 167) rfl)) (hw _ (List.mem_of_getElem? (i := 168) rfl)) (hw _ (List.mem_of_getElem? (i := 169) rfl)) (hw _ (List.mem_of_getElem? (i := 170) rfl)) (argsL := [(.int (Int32.ofNat N)), (.int (Int32.ofNat n))]) (rest := [(.int (0 : Int32)), (.ref a1), (.int (0 : Int32)), (.ref b)]) (c_minl (ss := []) g W1.old (on_nlt (by omega) (by omega))) d_jdk_65_method_121_25 (by decide) (fun _ q => nomatch q) rfl (lenOf pd_9 rfl) (own_le rfl) (own_le rfl) (own_le rfl) (own_le rfl) rfl ?_
  intro T2 h2 v2 W2 z2 q2
  obtain ⟨sf2, X2, _, rfl, rfl, rfl⟩ := q2
  show Fi p e below s Z _ _ _ _ T2 (mkF m 28 #[.val (.ref b), .val (.int (Int32.ofNat n)), .val (.ref a1)] [(.int (Int32.ofNat N)), (.int (0 : Int32)), (.ref a1), (.int (0 : Int32)), (.ref b)])
  have hz1 : Z.heap.size ≤ a1 := by have := hO.2.1; omega
  refine W2.acopy me (hw _ (List.mem_of_getElem? (i := 171) rfl)) (hw _ (List.mem_of_getElem? (i := 124) rfl)) (hw _ (List.mem_of_getElem? (i := 122) rfl)) (hw _ (List.mem_of_getElem? (i := 123) rfl)) (AB.ext E1) (own_fill A1 N) rfl (Or.inl (List.mem_cons_self ..)) hz1 (by decide) (by decide) (on_nneg (by omega)) (by rw [on_clamp (by omega)]; show 0 + N ≤ N; omega) (by rw [on_clamp (by omega), on_clamp (by omega)]; show 0 + N ≤ n; omega) (us := (List.range N).map fun i => (lb cs).getD (0 + i) (.int 0)) (by rw [on_clamp (by omega)]; rfl) (by rw [on_clamp (by omega), List.length_replicate]; show 0 + N ≤ N; omega) d_jdk_65_method_121_28 rfl (own_le rfl) (own_le rfl) ?_
  intro T3 h3 W3 K3 A3
  show Fi p e below s Z _ _ _ _ T3 (mkF m 31 #[.val (.ref b), .val (.int (Int32.ofNat n)), .val (.ref a1)] [])
  refine W3.aloadN me d_jdk_65_method_121_31 rfl rfl ?_
  show Fi p e below s Z _ _ _ _ T3 (mkF m 32 #[.val (.ref b), .val (.int (Int32.ofNat n)), .val (.ref a1)] [(.ref a1)])
  have A3' : Arv Z h3 a1 k1 .byte (Int32.ofNat n) (lb cs) (.int 0) := own_copied A3 (by omega) hN
  exact W3.retAs hEL me d_jdk_65_method_121_32 (fun sf q => ⟨own_xk E1 K3 (allS (by omega) all0), a1, k1, rfl, by omega, q _ (List.mem_cons_self ..), A3', EB1.keep K3⟩) (by decide) (by decide) rfl rfl rfl

set_option maxRecDepth 65536 in
set_option maxHeartbeats 4000000 in
theorem c_ens1 {l : Launch} {Z : State} {a0 : Array Value} {kn : Bool} (g : Gl Z a0) {ws : List Cond} {h0 : Heap} {ss : List Addr} (hO : Old Z Z.heap.size h0) {a b : Addr} {cs : List Int32} {cap : Nat} (M : Sbd Z h0 a b cs cap) {n : Nat} (hn : cap < n) (hn2 : n ≤ cap + cap + 2) (hc : cap + (cap + 2) ≤ 40) (hz : Z.heap.size ≤ a) :
    Con l Z consts_1 kn ws (⟨"java/lang/AbstractStringBuilder", "ensureCapacityInternal", "(I)V"⟩ : MethodName) jdk_68_method_9_code 3 none ({ frames := 3, cells := 1, slots := 40, locals := 48 } : Room) #[(.ref a), (.int (Int32.ofNat n))] h0 ss (rUs fun h sf => Keep h0 h [a] ∧ ∃ d, h0.size ≤ d ∧ sf d ∧ Sbd Z h a d cs (cap + (cap + 2))) := by
  have hw := g.1
  have hEL := g.2.1
  refine Con.of (plainFor_of_name pn_6) hO ?_
  intro p e s m below meth c T0 me W0
  refine Fi.entry (L := #[.val (.ref a), .val (.int (Int32.ofNat n)), .unset]) (by first | (simp [entryFrame, mkF, argsToLocals, Value.category, maxLocals]; done) | (simp [entryFrame, mkF, argsToLocals, Value.category]; done) | rfl) ?_
  have M' := M
  obtain ⟨k, EA, FV, FC, FN, AB, EB, hcap, hc20, hC8⟩ := M
  refine W0.aloadN me d_jdk_68_method_9_0 rfl rfl ?_
  show Fi p e below s Z _ _ _ _ T0 (mkF m 1 #[.val (.ref a), .val (.int (Int32.ofNat n)), .unset] [(.ref a)])
  refine W0.getF me (hw _ (List.mem_of_getElem? (i := 59) rfl)) FV Via.refl d_jdk_68_method_9_1 ?_
  intro T1 W1
  show Fi p e below s Z _ _ _ _ T1 (mkF m 4 #[.val (.ref a), .val (.int (Int32.ofNat n)), .unset] [(.ref b)])
  refine W1.alen me AB d_jdk_68_method_9_4 ?_
  show Fi p e below s Z _ _ _ _ T1 (mkF m 5 #[.val (.ref a), .val (.int (Int32.ofNat n)), .unset] [(.int (Int32.ofNat cap))])
  refine W1.aloadN me d_jdk_68_method_9_5 rfl rfl ?_
  show Fi p e below s Z _ _ _ _ T1 (mkF m 6 #[.val (.ref a), .val (.int (Int32.ofNat n)), .unset] [(.ref a), (.int (Int32.ofNat cap))])
  refine W1.getF me (hw _ (List.mem_of_getElem? (i := 61) rfl)) FC Via.refl d_jdk_68_method_9_6 ?_
  intro T2 W2
  show Fi p e below s Z _ _ _ _ T2 (mkF m 9 #[.val (.ref a), .val (.int (Int32.ofNat n)), .unset] [(.int (0 : Int32)), (.int (Int32.ofNat cap))])
  refine W2.ishr me d_jdk_68_method_9_9 ?_
  rw [own_shr0]
  show Fi p e below s Z _ _ _ _ T2 (mkF m 10 #[.val (.ref a), .val (.int (Int32.ofNat n)), .unset] [(.int (Int32.ofNat cap))])
  refine W2.istoreN me d_jdk_68_method_9_10 (l' := #[.val (.ref a), .val (.int (Int32.ofNat n)), .val (.int (Int32.ofNat cap))]) rfl ?_
  refine W2.iloadN me d_jdk_68_method_9_11 rfl ?_
  refine W2.iloadN me d_jdk_68_method_9_12 rfl ?_
  refine W2.isub me d_jdk_68_method_9_13 ?_
  show Fi p e below s Z _ _ _ _ T2 (mkF m 14 #[.val (.ref a), .val (.int (Int32.ofNat n)), .val (.int (Int32.ofNat cap))] [(.int ((Int32.ofNat n) - (Int32.ofNat cap)))])
  have n_value_coder : Jvm.RoadKit.slotOf Z "java/lang/AbstractStringBuilder" "value" "[B" ≠ Jvm.RoadKit.slotOf Z "java/lang/AbstractStringBuilder" "coder" "B" := slot_ne (Or.inl (hw _ (List.mem_of_getElem? (i := 60) rfl)) : Laid Z a0 "java/lang/StringBuilder" "java/lang/AbstractStringBuilder" "value" "[B") (Or.inl (hw _ (List.mem_of_getElem? (i := 62) rfl)) : Laid Z a0 "java/lang/StringBuilder" "java/lang/AbstractStringBuilder" "coder" "B") (by decide) (t := .array .byte) (t' := .byte) (by decide) (by decide)
  have n_value_count : Jvm.RoadKit.slotOf Z "java/lang/AbstractStringBuilder" "value" "[B" ≠ Jvm.RoadKit.slotOf Z "java/lang/AbstractStringBuilder" "count" "I" := slot_ne (Or.inl (hw _ (List.mem_of_getElem? (i := 60) rfl)) : Laid Z a0 "java/lang/StringBuilder" "java/lang/AbstractStringBuilder" "value" "[B") (Or.inl (hw _ (List.mem_of_getElem? (i := 99) rfl)) : Laid Z a0 "java/lang/StringBuilder" "java/lang/AbstractStringBuilder" "count" "I") (by decide) (t := .array .byte) (t' := .int) (by decide) (by decide)
  have n_coder_count : Jvm.RoadKit.slotOf Z "java/lang/AbstractStringBuilder" "coder" "B" ≠ Jvm.RoadKit.slotOf Z "java/lang/AbstractStringBuilder" "count" "I" := slot_ne (Or.inl (hw _ (List.mem_of_getElem? (i := 62) rfl)) : Laid Z a0 "java/lang/StringBuilder" "java/lang/AbstractStringBuilder" "coder" "B") (Or.inl (hw _ (List.mem_of_getElem? (i := 99) rfl)) : Laid Z a0 "java/lang/StringBuilder" "java/lang/AbstractStringBuilder" "count" "I") (by decide) (t := .byte) (t' := .int) (by decide) (by decide)
  refine W2.ifN_le me d_jdk_68_method_9_14 (own_subgt (by omega) (by omega)) ?_
  refine W2.aloadN me d_jdk_68_method_9_17 rfl rfl ?_
  refine W2.aloadN me d_jdk_68_method_9_18 rfl rfl ?_
  show Fi p e below s Z _ _ _ _ T2 (mkF m 19 #[.val (.ref a), .val (.int (Int32.ofNat n)), .val (.int (Int32.ofNat cap))] [(.ref a), (.ref a)])
  refine W2.getF me (hw _ (List.mem_of_getElem? (i := 59) rfl)) FV Via.refl d_jdk_68_method_9_19 ?_
  intro T3 W3
  show Fi p e below s Z _ _ _ _ T3 (mkF m 22 #[.val (.ref a), .val (.int (Int32.ofNat n)), .val (.int (Int32.ofNat cap))] [(.ref b), (.ref a)])
  refine W3.aloadN me d_jdk_68_method_9_22 rfl rfl ?_
  refine W3.iloadN me d_jdk_68_method_9_23 rfl ?_
  show Fi p e below s Z _ _ _ _ T3 (mkF m 24 #[.val (.ref a), .val (.int (Int32.ofNat n)), .val (.int (Int32.ofNat cap))] [(.int (Int32.ofNat n)), (.ref a), (.ref b), (.ref a)])
  refine W3.callP me hEL (hw _ (List.mem_of_getElem? (i := 219) rfl)) (hw _ (List.mem_of_getElem? (i := 220) rfl)) (hw _ (List.mem_of_getElem? (i := 221) rfl)) (hw _ (List.mem_of_getElem? (i := 222) rfl)) (hw _ (List.mem_of_getElem? (i := 55) rfl)) (hw _ (List.mem_of_getElem? (i := 223) rfl)) (a := a) (argsL := [(.int (Int32.ofNat n))]) (rest := [(.ref b), (.ref a)]) EA (c_newcap (ss := []) g W3.old M' hn (by omega) (by omega)) d_jdk_68_method_9_24 (by decide) (fun _ q => nomatch q) rfl (lenOf pd_13 rfl) (own_le rfl) (own_le rfl) (own_le rfl) (own_le rfl) rfl ?_
  intro T4 h4 v4 W4 z4 q4
  obtain ⟨sf4, X4, _, rfl, rfl, rfl⟩ := q4
  show Fi p e below s Z _ _ _ _ T4 (mkF m 27 #[.val (.ref a), .val (.int (Int32.ofNat n)), .val (.int (Int32.ofNat cap))] [(.int (Int32.ofNat (cap + (cap + 2)))), (.ref b), (.ref a)])
  refine W4.aloadN me d_jdk_68_method_9_27 rfl rfl ?_
  show Fi p e below s Z _ _ _ _ T4 (mkF m 28 #[.val (.ref a), .val (.int (Int32.ofNat n)), .val (.int (Int32.ofNat cap))] [(.ref a), (.int (Int32.ofNat (cap + (cap + 2)))), (.ref b), (.ref a)])
  refine W4.getF me (hw _ (List.mem_of_getElem? (i := 61) rfl)) FC Via.refl d_jdk_68_method_9_28 ?_
  intro T5 W5
  show Fi p e below s Z _ _ _ _ T5 (mkF m 31 #[.val (.ref a), .val (.int (Int32.ofNat n)), .val (.int (Int32.ofNat cap))] [(.int (0 : Int32)), (.int (Int32.ofNat (cap + (cap + 2)))), (.ref b), (.ref a)])
  refine W5.ishl me d_jdk_68_method_9_31 ?_
  rw [own_shl0]
  show Fi p e below s Z _ _ _ _ T5 (mkF m 32 #[.val (.ref a), .val (.int (Int32.ofNat n)), .val (.int (Int32.ofNat cap))] [(.int (Int32.ofNat (cap + (cap + 2)))), (.ref b), (.ref a)])
  refine W5.callS me hEL (hw _ (List.mem_of_getElem? (i := 233) rfl)) (hw _ (List.mem_of_getElem? (i := 234) rfl)) (hw _ (List.mem_of_getElem? (i := 159) rfl)) (hw _ (List.mem_of_getElem? (i := 235) rfl)) (argsL := [(.ref b), (.int (Int32.ofNat (cap + (cap + 2))))]) (rest := [(.ref a)]) (c_copyof (ss := []) g W5.old AB hcap (n := cap + (cap + 2)) (by omega) (by omega)) d_jdk_68_method_9_32 (by decide) (fun _ q => nomatch q) rfl (lenOf pd_14 rfl) (own_le rfl) (own_le rfl) (own_le rfl) (own_le rfl) rfl ?_
  intro T6 h6 v6 W6 z6 q6
  obtain ⟨sf6, X6, _, rfl, E6, d6, k6, rfl, y6, s6, A6, EB6⟩ := q6
  show Fi p e below s Z _ _ _ _ T6 (mkF m 35 #[.val (.ref a), .val (.int (Int32.ofNat n)), .val (.int (Int32.ofNat cap))] [(.ref d6), (.ref a)])
  refine (X6 [d6] (allS s6 all0)).putF me (hw _ (List.mem_of_getElem? (i := 59) rfl)) (FV.ext E6) Via.refl (EA.ext E6) (Or.inl (hw _ (List.mem_of_getElem? (i := 60) rfl))) (hw _ (List.mem_of_getElem? (i := 46) rfl)) (ty := (.array .byte)) (by decide) rfl rfl (Or.inr (Or.inl ⟨"java/lang/StringBuilder", EA.ext E6, by decide, by decide⟩)) hz d_jdk_68_method_9_35 ?_
  intro T7 h7 W7 R7
  show Fi p e below s Z _ _ _ _ T7 (mkF m 38 #[.val (.ref a), .val (.int (Int32.ofNat n)), .val (.int (Int32.ofNat cap))] [])
  have hne : d6 ≠ a := own_en (by have := own_lt EA.lt; omega)
  have S : Sbd Z h7 a d6 cs (cap + (cap + 2)) := ⟨k6, (EA.ext E6).wr R7, (FV.ext E6).same R7, (FC.ext E6).other R7 (Or.inr n_value_coder.symm), (FN.ext E6).other R7 (Or.inr n_value_count.symm), A6.other R7 hne, EB6.wr R7, by omega, by omega, hC8⟩
  exact W7.retUs hEL me d_jdk_68_method_9_38 (fun sf q => ⟨(own_xK E6 [a]).wr R7 (Or.inl (List.mem_singleton.mpr rfl)), d6, y6, q _ (List.mem_cons_self ..), S⟩) (by decide) (by decide)

set_option maxRecDepth 65536 in
set_option maxHeartbeats 4000000 in
theorem c_ens0 {l : Launch} {Z : State} {a0 : Array Value} {kn : Bool} (g : Gl Z a0) {ws : List Cond} {h0 : Heap} {ss : List Addr} (hO : Old Z Z.heap.size h0) {a b : Addr} {cs : List Int32} {cap : Nat} (M : Sbd Z h0 a b cs cap) {n : Nat} (hn : n ≤ cap) (hn2 : n < 2 ^ 20) :
    Con l Z consts_1 kn ws (⟨"java/lang/AbstractStringBuilder", "ensureCapacityInternal", "(I)V"⟩ : MethodName) jdk_68_method_9_code 3 none ({ frames := 0, cells := 0, slots := 0, locals := 0 } : Room) #[(.ref a), (.int (Int32.ofNat n))] h0 ss (rU fun h => h0 = h) := by
  have hw := g.1
  have hEL := g.2.1
  refine Con.of (plainFor_of_name pn_6) hO ?_
  intro p e s m below meth c T0 me W0
  refine Fi.entry (L := #[.val (.ref a), .val (.int (Int32.ofNat n)), .unset]) (by first | (simp [entryFrame, mkF, argsToLocals, Value.category, maxLocals]; done) | (simp [entryFrame, mkF, argsToLocals, Value.category]; done) | rfl) ?_
  have M' := M
  obtain ⟨k, EA, FV, FC, FN, AB, EB, hcap, hc20, hC8⟩ := M
  refine W0.aloadN me d_jdk_68_method_9_0 rfl rfl ?_
  show Fi p e below s Z _ _ _ _ T0 (mkF m 1 #[.val (.ref a), .val (.int (Int32.ofNat n)), .unset] [(.ref a)])
  refine W0.getF me (hw _ (List.mem_of_getElem? (i := 59) rfl)) FV Via.refl d_jdk_68_method_9_1 ?_
  intro T1 W1
  show Fi p e below s Z _ _ _ _ T1 (mkF m 4 #[.val (.ref a), .val (.int (Int32.ofNat n)), .unset] [(.ref b)])
  refine W1.alen me AB d_jdk_68_method_9_4 ?_
  show Fi p e below s Z _ _ _ _ T1 (mkF m 5 #[.val (.ref a), .val (.int (Int32.ofNat n)), .unset] [(.int (Int32.ofNat cap))])
  refine W1.aloadN me d_jdk_68_method_9_5 rfl rfl ?_
  show Fi p e below s Z _ _ _ _ T1 (mkF m 6 #[.val (.ref a), .val (.int (Int32.ofNat n)), .unset] [(.ref a), (.int (Int32.ofNat cap))])
  refine W1.getF me (hw _ (List.mem_of_getElem? (i := 61) rfl)) FC Via.refl d_jdk_68_method_9_6 ?_
  intro T2 W2
  show Fi p e below s Z _ _ _ _ T2 (mkF m 9 #[.val (.ref a), .val (.int (Int32.ofNat n)), .unset] [(.int (0 : Int32)), (.int (Int32.ofNat cap))])
  refine W2.ishr me d_jdk_68_method_9_9 ?_
  rw [own_shr0]
  show Fi p e below s Z _ _ _ _ T2 (mkF m 10 #[.val (.ref a), .val (.int (Int32.ofNat n)), .unset] [(.int (Int32.ofNat cap))])
  refine W2.istoreN me d_jdk_68_method_9_10 (l' := #[.val (.ref a), .val (.int (Int32.ofNat n)), .val (.int (Int32.ofNat cap))]) rfl ?_
  refine W2.iloadN me d_jdk_68_method_9_11 rfl ?_
  refine W2.iloadN me d_jdk_68_method_9_12 rfl ?_
  refine W2.isub me d_jdk_68_method_9_13 ?_
  show Fi p e below s Z _ _ _ _ T2 (mkF m 14 #[.val (.ref a), .val (.int (Int32.ofNat n)), .val (.int (Int32.ofNat cap))] [(.int ((Int32.ofNat n) - (Int32.ofNat cap)))])
  refine W2.ifY_le me d_jdk_68_method_9_14 (own_suble (by omega) (by omega)) (pc' := 38) (by decide) (by decide) ?_
  show Fi p e below s Z _ _ _ _ T2 (mkF m 38 #[.val (.ref a), .val (.int (Int32.ofNat n)), .val (.int (Int32.ofNat cap))] [])
  exact W2.retU hEL me d_jdk_68_method_9_38 rfl (by decide) (by decide)

set_option maxRecDepth 65536 in
set_option maxHeartbeats 4000000 in
theorem c_inflif {l : Launch} {Z : State} {a0 : Array Value} {kn : Bool} (g : Gl Z a0) {ws : List Cond} {h0 : Heap} {ss : List Addr} (hO : Old Z Z.heap.size h0) {a b : Addr} {cs : List Int32} {cap : Nat} (M : Sbd Z h0 a b cs cap) {u : Addr} {ds : List Int32} (L : Lat Z h0 u ds) :
    Con l Z consts_1 kn ws (⟨"java/lang/AbstractStringBuilder", "inflateIfNeededFor", "(Ljava/lang/String;)V"⟩ : MethodName) jdk_68_method_71_code 2 none ({ frames := 1, cells := 0, slots := 0, locals := 13 } : Room) #[(.ref a), (.ref u)] h0 ss (rU fun h => h0 = h) := by
  have hw := g.1
  have hEL := g.2.1
  refine Con.of (plainFor_of_name pn_6) hO ?_
  intro p e s m below meth c T0 me W0
  refine Fi.entry (L := #[.val (.ref a), .val (.ref u)]) (by first | (simp [entryFrame, mkF, argsToLocals, Value.category, maxLocals]; done) | (simp [entryFrame, mkF, argsToLocals, Value.category]; done) | rfl) ?_
  obtain ⟨k, EA, FV, FC, FN, AB, EB, hcap, hc20, hC8⟩ := M
  obtain ⟨vb, ku, EX, UC, UV, AU, ul, u8⟩ := L
  obtain ⟨G, O2, P2⟩ := g.2.2.1
  refine W0.getS me (hw _ (List.mem_of_getElem? (i := 58) rfl)) O2 Via.refl d_jdk_68_method_71_0 ?_
  intro T1 W1
  show Fi p e below s Z _ _ _ _ T1 (mkF m 3 #[.val (.ref a), .val (.ref u)] [(.int G)])
  refine W1.ifN_eq me d_jdk_68_method_71_3 P2 ?_
  refine W1.aloadN me d_jdk_68_method_71_6 rfl rfl ?_
  show Fi p e below s Z _ _ _ _ T1 (mkF m 7 #[.val (.ref a), .val (.ref u)] [(.ref a)])
  refine W1.getF me (hw _ (List.mem_of_getElem? (i := 61) rfl)) FC Via.refl d_jdk_68_method_71_7 ?_
  intro T2 W2
  show Fi p e below s Z _ _ _ _ T2 (mkF m 10 #[.val (.ref a), .val (.ref u)] [(.int (0 : Int32))])
  refine W2.aloadN me d_jdk_68_method_71_10 rfl rfl ?_
  show Fi p e below s Z _ _ _ _ T2 (mkF m 11 #[.val (.ref a), .val (.ref u)] [(.ref u), (.int (0 : Int32))])
  refine W2.callV me hEL (hw _ (List.mem_of_getElem? (i := 115) rfl)) (hw _ (List.mem_of_getElem? (i := 93) rfl)) (fun hZ' => notFace_of_selects (args := #[]) (mvT (s := s.setVm _) hZ' (hw _ (List.mem_of_getElem? (i := 95) rfl)))) (hw _ (List.mem_of_getElem? (i := 95) rfl)) (hw _ (List.mem_of_getElem? (i := 94) rfl)) (hw _ (List.mem_of_getElem? (i := 6) rfl)) (hw _ (List.mem_of_getElem? (i := 96) rfl)) (a := u) (argsL := []) (rest := [(.int (0 : Int32))]) EX (c_coder (ss := []) g W2.old UC rfl) d_jdk_68_method_71_11 (by decide) (fun _ q => nomatch q) rfl (lenOf pd_4 rfl) (own_le rfl) (own_le rfl) (own_le rfl) (own_le rfl) rfl ?_
  intro T3 h3 v3 W3 z3 q3
  obtain ⟨sf3, X3, _, rfl, rfl, rfl⟩ := q3
  show Fi p e below s Z _ _ _ _ T3 (mkF m 14 #[.val (.ref a), .val (.ref u)] [(.int (0 : Int32)), (.int (0 : Int32))])
  show Fi p e below s Z _ _ _ _ T3 (mkF m 14 #[.val (.ref a), .val (.ref u)] [(.int (0 : Int32)), (.int (0 : Int32))])
  refine W3.icY_eq me d_jdk_68_method_71_14 (by decide) (pc' := 21) (by decide) (by decide) ?_
  show Fi p e below s Z _ _ _ _ T3 (mkF m 21 #[.val (.ref a), .val (.ref u)] [])
  show Fi p e below s Z _ _ _ _ T3 (mkF m 21 #[.val (.ref a), .val (.ref u)] [])
  exact W3.retU hEL me d_jdk_68_method_71_21 rfl (by decide) (by decide)

set_option maxRecDepth 65536 in
set_option maxHeartbeats 4000000 in
theorem c_getbytes {l : Launch} {Z : State} {a0 : Array Value} {kn : Bool} (g : Gl Z a0) {ws : List Cond} {h0 : Heap} {ss : List Addr} (hO : Old Z Z.heap.size h0) {u vb b : Addr} {kb : ClassId} {cs ds : List Int32} {N : Nat} (L : LatB Z h0 u vb ds) (AB : Arv Z h0 b kb .byte (Int32.ofNat N) (lb cs) (.int 0)) (hN : N < 2 ^ 20) (hfit : cs.length + ds.length ≤ N) (hS : b ∈ ss) (hz : Z.heap.size ≤ b) :
    Con l Z consts_1 kn ws (⟨"java/lang/String", "getBytes", "([BIB)V"⟩ : MethodName) jdk_42_method_147_code 4 none ({ frames := 1, cells := 0, slots := 0, locals := 18 } : Room) #[(.ref u), (.ref b), (.int (Int32.ofNat cs.length)), (.int (0 : Int32))] h0 ss (rU fun h => Keep h0 h [b] ∧ Arv Z h b kb .byte (Int32.ofNat N) (lb (cs ++ ds)) (.int 0)) := by
  have hw := g.1
  have hEL := g.2.1
  refine Con.of (plainFor_of_name pn_1) hO ?_
  intro p e s m below meth c T0 me W0
  refine Fi.entry (L := #[.val (.ref u), .val (.ref b), .val (.int (Int32.ofNat cs.length)), .val (.int (0 : Int32))]) (by first | (simp [entryFrame, mkF, argsToLocals, Value.category, maxLocals]; done) | (simp [entryFrame, mkF, argsToLocals, Value.category]; done) | rfl) ?_
  obtain ⟨ku, EX, UC, UV, AU, ul, u8⟩ := L
  refine W0.aloadN me d_jdk_42_method_147_0 rfl rfl ?_
  show Fi p e below s Z _ _ _ _ T0 (mkF m 1 #[.val (.ref u), .val (.ref b), .val (.int (Int32.ofNat cs.length)), .val (.int (0 : Int32))] [(.ref u)])
  refine W0.callV me hEL (hw _ (List.mem_of_getElem? (i := 92) rfl)) (hw _ (List.mem_of_getElem? (i := 93) rfl)) (fun hZ' => notFace_of_selects (args := #[]) (mvT (s := s.setVm _) hZ' (hw _ (List.mem_of_getElem? (i := 95) rfl)))) (hw _ (List.mem_of_getElem? (i := 95) rfl)) (hw _ (List.mem_of_getElem? (i := 94) rfl)) (hw _ (List.mem_of_getElem? (i := 6) rfl)) (hw _ (List.mem_of_getElem? (i := 96) rfl)) (a := u) (argsL := []) (rest := []) EX (c_coder (ss := []) g W0.old UC rfl) d_jdk_42_method_147_1 (by decide) (fun _ q => nomatch q) rfl (lenOf pd_4 rfl) (own_le rfl) (own_le rfl) (own_le rfl) (own_le rfl) rfl ?_
  intro T1 h1 v1 W1 z1 q1
  obtain ⟨sf1, X1, _, rfl, rfl, rfl⟩ := q1
  show Fi p e below s Z _ _ _ _ T1 (mkF m 4 #[.val (.ref u), .val (.ref b), .val (.int (Int32.ofNat cs.length)), .val (.int (0 : Int32))] [(.int (0 : Int32))])
  refine W1.iloadN me d_jdk_42_method_147_4 rfl ?_
  show Fi p e below s Z _ _ _ _ T1 (mkF m 5 #[.val (.ref u), .val (.ref b), .val (.int (Int32.ofNat cs.length)), .val (.int (0 : Int32))] [(.int (0 : Int32)), (.int (0 : Int32))])
  refine W1.icN_ne me d_jdk_42_method_147_5 (by decide) ?_
  show Fi p e below s Z _ _ _ _ T1 (mkF m 8 #[.val (.ref u), .val (.ref b), .val (.int (Int32.ofNat cs.length)), .val (.int (0 : Int32))] [])
  refine W1.aloadN me d_jdk_42_method_147_8 rfl rfl ?_
  show Fi p e below s Z _ _ _ _ T1 (mkF m 9 #[.val (.ref u), .val (.ref b), .val (.int (Int32.ofNat cs.length)), .val (.int (0 : Int32))] [(.ref u)])
  refine W1.getF me (hw _ (List.mem_of_getElem? (i := 24) rfl)) UV Via.refl d_jdk_42_method_147_9 ?_
  intro T2 W2
  show Fi p e below s Z _ _ _ _ T2 (mkF m 12 #[.val (.ref u), .val (.ref b), .val (.int (Int32.ofNat cs.length)), .val (.int (0 : Int32))] [(.ref vb)])
  refine W2.iconst me d_jdk_42_method_147_12 (v := 0) rfl ?_
  refine W2.aloadN me d_jdk_42_method_147_13 rfl rfl ?_
  refine W2.iloadN me d_jdk_42_method_147_14 rfl ?_
  refine W2.iloadN me d_jdk_42_method_147_15 rfl ?_
  show Fi p e below s Z _ _ _ _ T2 (mkF m 16 #[.val (.ref u), .val (.ref b), .val (.int (Int32.ofNat cs.length)), .val (.int (0 : Int32))] [(.int (0 : Int32)), (.int (Int32.ofNat cs.length)), (.ref b), (.int (0 : Int32)), (.ref vb)])
  refine W2.ishl me d_jdk_42_method_147_16 ?_
  rw [own_shl0]
  show Fi p e below s Z _ _ _ _ T2 (mkF m 17 #[.val (.ref u), .val (.ref b), .val (.int (Int32.ofNat cs.length)), .val (.int (0 : Int32))] [(.int (Int32.ofNat cs.length)), (.ref b), (.int (0 : Int32)), (.ref vb)])
  refine W2.aloadN me d_jdk_42_method_147_17 rfl rfl ?_
  show Fi p e below s Z _ _ _ _ T2 (mkF m 18 #[.val (.ref u), .val (.ref b), .val (.int (Int32.ofNat cs.length)), .val (.int (0 : Int32))] [(.ref u), (.int (Int32.ofNat cs.length)), (.ref b), (.int (0 : Int32)), (.ref vb)])
  refine W2.getF me (hw _ (List.mem_of_getElem? (i := 24) rfl)) UV Via.refl d_jdk_42_method_147_18 ?_
  intro T3 W3
  show Fi p e below s Z _ _ _ _ T3 (mkF m 21 #[.val (.ref u), .val (.ref b), .val (.int (Int32.ofNat cs.length)), .val (.int (0 : Int32))] [(.ref vb), (.int (Int32.ofNat cs.length)), (.ref b), (.int (0 : Int32)), (.ref vb)])
  refine W3.alen me AU d_jdk_42_method_147_21 ?_
  show Fi p e below s Z _ _ _ _ T3 (mkF m 22 #[.val (.ref u), .val (.ref b), .val (.int (Int32.ofNat cs.length)), .val (.int (0 : Int32))] [(.int (Int32.ofNat ds.length)), (.int (Int32.ofNat cs.length)), (.ref b), (.int (0 : Int32)), (.ref vb)])
  refine W3.acopy me (hw _ (List.mem_of_getElem? (i := 121) rfl)) (hw _ (List.mem_of_getElem? (i := 124) rfl)) (hw _ (List.mem_of_getElem? (i := 122) rfl)) (hw _ (List.mem_of_getElem? (i := 123) rfl)) AU (own_pad AB (N := N)) rfl (Or.inl hS) hz (by decide) (on_nneg (by omega)) (on_nneg (by omega)) (by show 0 + _ ≤ _; omega) (by rw [on_clamp (by omega), on_clamp (by omega), on_clamp (by omega)]; omega) (us := lb ds) (by rw [on_clamp (by omega)]; exact own_all ds) (by rw [on_clamp (by omega), on_clamp (by omega), own_padlen (by rw [lb_len]; omega)]; omega) d_jdk_42_method_147_22 rfl (own_le rfl) (own_le rfl) ?_
  intro T4 h4 W4 K4 A4
  show Fi p e below s Z _ _ _ _ T4 (mkF m 25 #[.val (.ref u), .val (.ref b), .val (.int (Int32.ofNat cs.length)), .val (.int (0 : Int32))] [])
  refine W4.goto me d_jdk_42_method_147_25 (pc' := 43) (by decide) (by decide) ?_
  show Fi p e below s Z _ _ _ _ T4 (mkF m 43 #[.val (.ref u), .val (.ref b), .val (.int (Int32.ofNat cs.length)), .val (.int (0 : Int32))] [])
  have A' : Arv Z h4 b kb .byte (Int32.ofNat N) (lb (cs ++ ds)) (.int 0) := own_laid A4 (by omega) hfit
  exact W4.retU hEL me d_jdk_42_method_147_43 ⟨K4, A'⟩ (by decide) (by decide)

set_option maxRecDepth 65536 in
set_option maxHeartbeats 4000000 in
theorem c_putat {l : Launch} {Z : State} {a0 : Array Value} {kn : Bool} (g : Gl Z a0) {ws : List Cond} {h0 : Heap} {ss : List Addr} (hO : Old Z Z.heap.size h0) {a b : Addr} {cs : List Int32} {cap : Nat} (M : Sbd Z h0 a b cs cap) {u vb : Addr} {ds : List Int32} (L : LatB Z h0 u vb ds) (hfit : cs.length + ds.length ≤ cap) (hS : b ∈ ss) (hz : Z.heap.size ≤ b) :
    Con l Z consts_1 kn ws (⟨"java/lang/AbstractStringBuilder", "putStringAt", "(ILjava/lang/String;)V"⟩ : MethodName) jdk_68_method_73_code 3 none ({ frames := 2, cells := 0, slots := 0, locals := 33 } : Room) #[(.ref a), (.int (Int32.ofNat cs.length)), (.ref u)] h0 ss (rU fun h => Keep h0 h [b] ∧ ∃ k, Arv Z h b k .byte (Int32.ofNat cap) (lb (cs ++ ds)) (.int 0)) := by
  have hw := g.1
  have hEL := g.2.1
  refine Con.of (plainFor_of_name pn_6) hO ?_
  intro p e s m below meth c T0 me W0
  refine Fi.entry (L := #[.val (.ref a), .val (.int (Int32.ofNat cs.length)), .val (.ref u)]) (by first | (simp [entryFrame, mkF, argsToLocals, Value.category, maxLocals]; done) | (simp [entryFrame, mkF, argsToLocals, Value.category]; done) | rfl) ?_
  have M' := M
  obtain ⟨k, EA, FV, FC, FN, AB, EB, hcap, hc20, hC8⟩ := M
  refine W0.aloadN me d_jdk_68_method_73_0 rfl rfl ?_
  refine W0.aloadN me d_jdk_68_method_73_1 rfl rfl ?_
  show Fi p e below s Z _ _ _ _ T0 (mkF m 2 #[.val (.ref a), .val (.int (Int32.ofNat cs.length)), .val (.ref u)] [(.ref u), (.ref a)])
  refine W0.callP me hEL (hw _ (List.mem_of_getElem? (i := 110) rfl)) (hw _ (List.mem_of_getElem? (i := 111) rfl)) (hw _ (List.mem_of_getElem? (i := 112) rfl)) (hw _ (List.mem_of_getElem? (i := 113) rfl)) (hw _ (List.mem_of_getElem? (i := 55) rfl)) (hw _ (List.mem_of_getElem? (i := 114) rfl)) (a := a) (argsL := [(.ref u)]) (rest := []) EA (c_inflif (ss := []) g W0.old M' L.lat) d_jdk_68_method_73_2 (by decide) (fun _ q => nomatch q) rfl (lenOf pd_15 rfl) (own_le rfl) (own_le rfl) (own_le rfl) (own_le rfl) rfl ?_
  intro T1 h1 v1 W1 z1 q1
  obtain ⟨sf1, X1, rfl, rfl⟩ := q1
  show Fi p e below s Z _ _ _ _ T1 (mkF m 5 #[.val (.ref a), .val (.int (Int32.ofNat cs.length)), .val (.ref u)] [])
  refine W1.aloadN me d_jdk_68_method_73_5 rfl rfl ?_
  refine W1.aloadN me d_jdk_68_method_73_6 rfl rfl ?_
  show Fi p e below s Z _ _ _ _ T1 (mkF m 7 #[.val (.ref a), .val (.int (Int32.ofNat cs.length)), .val (.ref u)] [(.ref a), (.ref u)])
  refine W1.getF me (hw _ (List.mem_of_getElem? (i := 59) rfl)) FV Via.refl d_jdk_68_method_73_7 ?_
  intro T2 W2
  show Fi p e below s Z _ _ _ _ T2 (mkF m 10 #[.val (.ref a), .val (.int (Int32.ofNat cs.length)), .val (.ref u)] [(.ref b), (.ref u)])
  refine W2.iloadN me d_jdk_68_method_73_10 rfl ?_
  refine W2.aloadN me d_jdk_68_method_73_11 rfl rfl ?_
  show Fi p e below s Z _ _ _ _ T2 (mkF m 12 #[.val (.ref a), .val (.int (Int32.ofNat cs.length)), .val (.ref u)] [(.ref a), (.int (Int32.ofNat cs.length)), (.ref b), (.ref u)])
  refine W2.getF me (hw _ (List.mem_of_getElem? (i := 61) rfl)) FC Via.refl d_jdk_68_method_73_12 ?_
  intro T3 W3
  show Fi p e below s Z _ _ _ _ T3 (mkF m 15 #[.val (.ref a), .val (.int (Int32.ofNat cs.length)), .val (.ref u)] [(.int (0 : Int32)), (.int (Int32.ofNat cs.length)), (.ref b), (.ref u)])
  refine W3.callV me hEL (hw _ (List.mem_of_getElem? (i := 116) rfl)) (hw _ (List.mem_of_getElem? (i := 117) rfl)) (fun hZ' => notFace_of_selects (args := #[]) (mvT (s := s.setVm _) hZ' (hw _ (List.mem_of_getElem? (i := 119) rfl)))) (hw _ (List.mem_of_getElem? (i := 119) rfl)) (hw _ (List.mem_of_getElem? (i := 118) rfl)) (hw _ (List.mem_of_getElem? (i := 6) rfl)) (hw _ (List.mem_of_getElem? (i := 120) rfl)) (a := u) (argsL := [(.ref b), (.int (Int32.ofNat cs.length)), (.int (0 : Int32))]) (rest := []) L.exa (c_getbytes g W3.old L AB hc20 hfit hS hz) d_jdk_68_method_73_15 (by decide) (fun _ q => q) rfl (lenOf pd_16 rfl) (own_le rfl) (own_le rfl) (own_le rfl) (own_le rfl) rfl ?_
  intro T4 h4 v4 W4 z4 q4
  obtain ⟨sf4, X4, rfl, K4, A4⟩ := q4
  show Fi p e below s Z _ _ _ _ T4 (mkF m 18 #[.val (.ref a), .val (.int (Int32.ofNat cs.length)), .val (.ref u)] [])
  exact W4.retU hEL me d_jdk_68_method_73_18 ⟨K4, k, A4⟩ (by decide) (by decide)

set_option maxRecDepth 65536 in
set_option maxHeartbeats 4000000 in
theorem c_asba0 {l : Launch} {Z : State} {a0 : Array Value} {kn : Bool} (g : Gl Z a0) {ws : List Cond} {h0 : Heap} {ss : List Addr} (hO : Old Z Z.heap.size h0) {a b : Addr} {cs : List Int32} {cap : Nat} (M : Sbd Z h0 a b cs cap) {u vb : Addr} {ds : List Int32} (L : LatB Z h0 u vb ds) (hfit : cs.length + ds.length ≤ cap) (hS : b ∈ ss) (hza : Z.heap.size ≤ a) (hzb : Z.heap.size ≤ b) :
    Con l Z consts_1 kn ws (⟨"java/lang/AbstractStringBuilder", "append", "(Ljava/lang/String;)Ljava/lang/AbstractStringBuilder;"⟩ : MethodName) jdk_68_method_22_code 3 (some (.object "java/lang/AbstractStringBuilder")) ({ frames := 3, cells := 0, slots := 0, locals := 47 } : Room) #[(.ref a), (.ref u)] h0 ss (rV fun v h => Keep h0 h [a, b] ∧ v = .ref a ∧ Sbd Z h a b (cs ++ ds) cap) := by
  have hw := g.1
  have hEL := g.2.1
  refine Con.of (plainFor_of_name pn_6) hO ?_
  intro p e s m below meth c T0 me W0
  refine Fi.entry (L := #[.val (.ref a), .val (.ref u), .unset]) (by first | (simp [entryFrame, mkF, argsToLocals, Value.category, maxLocals]; done) | (simp [entryFrame, mkF, argsToLocals, Value.category]; done) | rfl) ?_
  have n_value_coder : Jvm.RoadKit.slotOf Z "java/lang/AbstractStringBuilder" "value" "[B" ≠ Jvm.RoadKit.slotOf Z "java/lang/AbstractStringBuilder" "coder" "B" := slot_ne (Or.inl (hw _ (List.mem_of_getElem? (i := 60) rfl)) : Laid Z a0 "java/lang/StringBuilder" "java/lang/AbstractStringBuilder" "value" "[B") (Or.inl (hw _ (List.mem_of_getElem? (i := 62) rfl)) : Laid Z a0 "java/lang/StringBuilder" "java/lang/AbstractStringBuilder" "coder" "B") (by decide) (t := .array .byte) (t' := .byte) (by decide) (by decide)
  have n_value_count : Jvm.RoadKit.slotOf Z "java/lang/AbstractStringBuilder" "value" "[B" ≠ Jvm.RoadKit.slotOf Z "java/lang/AbstractStringBuilder" "count" "I" := slot_ne (Or.inl (hw _ (List.mem_of_getElem? (i := 60) rfl)) : Laid Z a0 "java/lang/StringBuilder" "java/lang/AbstractStringBuilder" "value" "[B") (Or.inl (hw _ (List.mem_of_getElem? (i := 99) rfl)) : Laid Z a0 "java/lang/StringBuilder" "java/lang/AbstractStringBuilder" "count" "I") (by decide) (t := .array .byte) (t' := .int) (by decide) (by decide)
  have n_coder_count : Jvm.RoadKit.slotOf Z "java/lang/AbstractStringBuilder" "coder" "B" ≠ Jvm.RoadKit.slotOf Z "java/lang/AbstractStringBuilder" "count" "I" := slot_ne (Or.inl (hw _ (List.mem_of_getElem? (i := 62) rfl)) : Laid Z a0 "java/lang/StringBuilder" "java/lang/AbstractStringBuilder" "coder" "B") (Or.inl (hw _ (List.mem_of_getElem? (i := 99) rfl)) : Laid Z a0 "java/lang/StringBuilder" "java/lang/AbstractStringBuilder" "count" "I") (by decide) (t := .byte) (t' := .int) (by decide) (by decide)
  have hl20 : ds.length < 2 ^ 20 := by obtain ⟨_, _, _, _, _, q, _⟩ := L; exact q
  refine W0.aloadN me d_jdk_68_method_22_0 rfl rfl ?_
  show Fi p e below s Z _ _ _ _ T0 (mkF m 1 #[.val (.ref a), .val (.ref u), .unset] [(.ref u)])
  refine W0.nonnullY me d_jdk_68_method_22_1 (pc' := 9) (by decide) (by decide) ?_
  show Fi p e below s Z _ _ _ _ T0 (mkF m 9 #[.val (.ref a), .val (.ref u), .unset] [])
  refine W0.aloadN me d_jdk_68_method_22_9 rfl rfl ?_
  show Fi p e below s Z _ _ _ _ T0 (mkF m 10 #[.val (.ref a), .val (.ref u), .unset] [(.ref u)])
  refine W0.callV me hEL (hw _ (List.mem_of_getElem? (i := 87) rfl)) (hw _ (List.mem_of_getElem? (i := 88) rfl)) (fun hZ' => notFace_of_selects (args := #[]) (mvT (s := s.setVm _) hZ' (hw _ (List.mem_of_getElem? (i := 90) rfl)))) (hw _ (List.mem_of_getElem? (i := 90) rfl)) (hw _ (List.mem_of_getElem? (i := 89) rfl)) (hw _ (List.mem_of_getElem? (i := 6) rfl)) (hw _ (List.mem_of_getElem? (i := 91) rfl)) (a := u) (argsL := []) (rest := []) L.exa (c_length (ss := []) g W0.old L.lat) d_jdk_68_method_22_10 (by decide) (fun _ q => nomatch q) rfl (lenOf pd_17 rfl) (own_le rfl) (own_le rfl) (own_le rfl) (own_le rfl) rfl ?_
  intro T1 h1 v1 W1 z1 q1
  obtain ⟨sf1, X1, _, rfl, rfl, rfl⟩ := q1
  show Fi p e below s Z _ _ _ _ T1 (mkF m 13 #[.val (.ref a), .val (.ref u), .unset] [(.int (Int32.ofNat ds.length))])
  refine W1.istoreN me d_jdk_68_method_22_13 (l' := #[.val (.ref a), .val (.ref u), .val (.int (Int32.ofNat ds.length))]) rfl ?_
  refine W1.aloadN me d_jdk_68_method_22_14 rfl rfl ?_
  refine W1.aloadN me d_jdk_68_method_22_15 rfl rfl ?_
  show Fi p e below s Z _ _ _ _ T1 (mkF m 16 #[.val (.ref a), .val (.ref u), .val (.int (Int32.ofNat ds.length))] [(.ref a), (.ref a)])
  have M' := M
  obtain ⟨k, EA, FV, FC, FN, AB, EB, hcap, hc20, hC8⟩ := M
  refine W1.getF me (hw _ (List.mem_of_getElem? (i := 98) rfl)) FN Via.refl d_jdk_68_method_22_16 ?_
  intro T2 W2
  show Fi p e below s Z _ _ _ _ T2 (mkF m 19 #[.val (.ref a), .val (.ref u), .val (.int (Int32.ofNat ds.length))] [(.int (Int32.ofNat cs.length)), (.ref a)])
  refine W2.iloadN me d_jdk_68_method_22_19 rfl ?_
  show Fi p e below s Z _ _ _ _ T2 (mkF m 20 #[.val (.ref a), .val (.ref u), .val (.int (Int32.ofNat ds.length))] [(.int (Int32.ofNat ds.length)), (.int (Int32.ofNat cs.length)), (.ref a)])
  refine W2.iadd me d_jdk_68_method_22_20 ?_
  rw [on_add]
  show Fi p e below s Z _ _ _ _ T2 (mkF m 21 #[.val (.ref a), .val (.ref u), .val (.int (Int32.ofNat ds.length))] [(.int (Int32.ofNat (cs.length + ds.length))), (.ref a)])
  refine W2.callP me hEL (hw _ (List.mem_of_getElem? (i := 100) rfl)) (hw _ (List.mem_of_getElem? (i := 101) rfl)) (hw _ (List.mem_of_getElem? (i := 102) rfl)) (hw _ (List.mem_of_getElem? (i := 103) rfl)) (hw _ (List.mem_of_getElem? (i := 55) rfl)) (hw _ (List.mem_of_getElem? (i := 104) rfl)) (a := a) (argsL := [(.int (Int32.ofNat (cs.length + ds.length)))]) (rest := []) EA (c_ens0 (ss := []) g W2.old M' hfit (by omega)) d_jdk_68_method_22_21 (by decide) (fun _ q => nomatch q) rfl (lenOf pd_11 rfl) (own_le rfl) (own_le rfl) (own_le rfl) (own_le rfl) rfl ?_
  intro T3 h3 v3 W3 z3 q3
  obtain ⟨sf3, X3, rfl, rfl⟩ := q3
  show Fi p e below s Z _ _ _ _ T3 (mkF m 24 #[.val (.ref a), .val (.ref u), .val (.int (Int32.ofNat ds.length))] [])
  refine W3.aloadN me d_jdk_68_method_22_24 rfl rfl ?_
  refine W3.aloadN me d_jdk_68_method_22_25 rfl rfl ?_
  show Fi p e below s Z _ _ _ _ T3 (mkF m 26 #[.val (.ref a), .val (.ref u), .val (.int (Int32.ofNat ds.length))] [(.ref a), (.ref a)])
  refine W3.getF me (hw _ (List.mem_of_getElem? (i := 98) rfl)) FN Via.refl d_jdk_68_method_22_26 ?_
  intro T4 W4
  show Fi p e below s Z _ _ _ _ T4 (mkF m 29 #[.val (.ref a), .val (.ref u), .val (.int (Int32.ofNat ds.length))] [(.int (Int32.ofNat cs.length)), (.ref a)])
  refine W4.aloadN me d_jdk_68_method_22_29 rfl rfl ?_
  show Fi p e below s Z _ _ _ _ T4 (mkF m 30 #[.val (.ref a), .val (.ref u), .val (.int (Int32.ofNat ds.length))] [(.ref u), (.int (Int32.ofNat cs.length)), (.ref a)])
  refine W4.callP me hEL (hw _ (List.mem_of_getElem? (i := 105) rfl)) (hw _ (List.mem_of_getElem? (i := 106) rfl)) (hw _ (List.mem_of_getElem? (i := 107) rfl)) (hw _ (List.mem_of_getElem? (i := 108) rfl)) (hw _ (List.mem_of_getElem? (i := 55) rfl)) (hw _ (List.mem_of_getElem? (i := 109) rfl)) (a := a) (argsL := [(.int (Int32.ofNat cs.length)), (.ref u)]) (rest := []) EA (c_putat g W4.old M' L hfit hS hzb) d_jdk_68_method_22_30 (by decide) (fun _ q => q) rfl (lenOf pd_18 rfl) (own_le rfl) (own_le rfl) (own_le rfl) (own_le rfl) rfl ?_
  intro T5 h5 v5 W5 z5 q5
  obtain ⟨sf5, X5, rfl, K5, k5, A5⟩ := q5
  show Fi p e below s Z _ _ _ _ T5 (mkF m 33 #[.val (.ref a), .val (.ref u), .val (.int (Int32.ofNat ds.length))] [])
  have hab : a ≠ b := EA.neArv AB (hw _ (List.mem_of_getElem? (i := 46) rfl))
  have EA2 := EA.keep K5
  have FV2 := FV.keep K5 (ninS hab nin0)
  have FC2 := FC.keep K5 (ninS hab nin0)
  have FN2 := FN.keep K5 (ninS hab nin0)
  refine W5.aloadN me d_jdk_68_method_22_33 rfl rfl ?_
  refine W5.dup me d_jdk_68_method_22_34 rfl ?_
  show Fi p e below s Z _ _ _ _ T5 (mkF m 35 #[.val (.ref a), .val (.ref u), .val (.int (Int32.ofNat ds.length))] [(.ref a), (.ref a)])
  refine W5.getF me (hw _ (List.mem_of_getElem? (i := 98) rfl)) FN2 Via.refl d_jdk_68_method_22_35 ?_
  intro T6 W6
  show Fi p e below s Z _ _ _ _ T6 (mkF m 38 #[.val (.ref a), .val (.ref u), .val (.int (Int32.ofNat ds.length))] [(.int (Int32.ofNat cs.length)), (.ref a)])
  refine W6.iloadN me d_jdk_68_method_22_38 rfl ?_
  show Fi p e below s Z _ _ _ _ T6 (mkF m 39 #[.val (.ref a), .val (.ref u), .val (.int (Int32.ofNat ds.length))] [(.int (Int32.ofNat ds.length)), (.int (Int32.ofNat cs.length)), (.ref a)])
  refine W6.iadd me d_jdk_68_method_22_39 ?_
  rw [on_add]
  show Fi p e below s Z _ _ _ _ T6 (mkF m 40 #[.val (.ref a), .val (.ref u), .val (.int (Int32.ofNat ds.length))] [(.int (Int32.ofNat (cs.length + ds.length))), (.ref a)])
  refine W6.putF me (hw _ (List.mem_of_getElem? (i := 98) rfl)) FN2 Via.refl EA2 (Or.inl (hw _ (List.mem_of_getElem? (i := 99) rfl))) (hw _ (List.mem_of_getElem? (i := 46) rfl)) (ty := .int) (by decide) rfl rfl (Or.inr (Or.inl ⟨"java/lang/StringBuilder", EA2, by decide, by decide⟩)) hza d_jdk_68_method_22_40 ?_
  intro T7 h7 W7 R7
  show Fi p e below s Z _ _ _ _ T7 (mkF m 43 #[.val (.ref a), .val (.ref u), .val (.int (Int32.ofNat ds.length))] [])
  refine W7.aloadN me d_jdk_68_method_22_43 rfl rfl ?_
  show Fi p e below s Z _ _ _ _ T7 (mkF m 44 #[.val (.ref a), .val (.ref u), .val (.int (Int32.ofNat ds.length))] [(.ref a)])
  have hlen : (cs ++ ds).length = cs.length + ds.length := List.length_append
  have S : Sbd Z h7 a b (cs ++ ds) cap := ⟨k5, EA2.wr R7, FV2.other R7 (Or.inr n_value_count), FC2.other R7 (Or.inr n_coder_count), by rw [hlen]; exact FN2.same R7, A5.other R7 hab.symm, (EB.keep K5).wr R7, by rw [hlen]; exact hfit, hc20, hC8.app (by obtain ⟨_, _, _, _, _, _, q⟩ := L; exact q)⟩
  have K : Keep h0 h7 [a, b] := (own_keep1 K5).wr R7 (Or.inl (List.mem_cons_self ..))
  exact W7.retA hEL me d_jdk_68_method_22_44 ⟨K, rfl, S⟩ (by decide) (by decide) rfl rfl rfl

set_option maxRecDepth 65536 in
set_option maxHeartbeats 4000000 in
theorem c_app0 {l : Launch} {Z : State} {a0 : Array Value} {kn : Bool} (g : Gl Z a0) {ws : List Cond} {h0 : Heap} {ss : List Addr} (hO : Old Z Z.heap.size h0) {a b : Addr} {cs : List Int32} {cap : Nat} (M : Sbd Z h0 a b cs cap) {u vb : Addr} {ds : List Int32} (L : LatB Z h0 u vb ds) (hfit : cs.length + ds.length ≤ cap) (hS : b ∈ ss) (hza : Z.heap.size ≤ a) (hzb : Z.heap.size ≤ b) :
    Con l Z consts_1 kn ws (⟨"java/lang/StringBuilder", "append", "(Ljava/lang/String;)Ljava/lang/StringBuilder;"⟩ : MethodName) jdk_67_method_7_code 2 (some (.object "java/lang/StringBuilder")) ({ frames := 4, cells := 0, slots := 0, locals := 61 } : Room) #[(.ref a), (.ref u)] h0 ss (rV fun v h => Keep h0 h [a, b] ∧ v = .ref a ∧ Sbd Z h a b (cs ++ ds) cap) := by
  have hw := g.1
  have hEL := g.2.1
  refine Con.of (plainFor_of_name pn_7) hO ?_
  intro p e s m below meth c T0 me W0
  refine Fi.entry (L := #[.val (.ref a), .val (.ref u)]) (by first | (simp [entryFrame, mkF, argsToLocals, Value.category, maxLocals]; done) | (simp [entryFrame, mkF, argsToLocals, Value.category]; done) | rfl) ?_
  refine W0.aloadN me d_jdk_67_method_7_0 rfl rfl ?_
  refine W0.aloadN me d_jdk_67_method_7_1 rfl rfl ?_
  show Fi p e below s Z _ _ _ _ T0 (mkF m 2 #[.val (.ref a), .val (.ref u)] [(.ref u), (.ref a)])
  refine W0.callU me hEL (hw _ (List.mem_of_getElem? (i := 82) rfl)) (hw _ (List.mem_of_getElem? (i := 83) rfl)) (hw _ (List.mem_of_getElem? (i := 84) rfl)) (hw _ (List.mem_of_getElem? (i := 103) rfl)) rfl (hw _ (List.mem_of_getElem? (i := 55) rfl)) (hw _ (List.mem_of_getElem? (i := 86) rfl)) (by decide) (a := a) (argsL := [(.ref u)]) (rest := []) M.exa (c_asba0 g W0.old M L hfit hS hza hzb) d_jdk_67_method_7_2 (by decide) (fun _ q => q) rfl (lenOf pd_19 rfl) (own_le rfl) (own_le rfl) (own_le rfl) (own_le rfl) rfl ?_
  intro T1 h1 v1 W1 z1 q1
  obtain ⟨sf1, X1, _, rfl, K1, rfl, M1⟩ := q1
  show Fi p e below s Z _ _ _ _ T1 (mkF m 5 #[.val (.ref a), .val (.ref u)] [(.ref a)])
  refine W1.pop me d_jdk_67_method_7_5 rfl ?_
  refine W1.aloadN me d_jdk_67_method_7_6 rfl rfl ?_
  show Fi p e below s Z _ _ _ _ T1 (mkF m 7 #[.val (.ref a), .val (.ref u)] [(.ref a)])
  exact W1.retA hEL me d_jdk_67_method_7_7 ⟨K1, rfl, M1⟩ (by decide) (by decide) rfl rfl rfl

set_option maxRecDepth 65536 in
set_option maxHeartbeats 4000000 in
theorem c_asba1 {l : Launch} {Z : State} {a0 : Array Value} {kn : Bool} (g : Gl Z a0) {ws : List Cond} {h0 : Heap} {ss : List Addr} (hO : Old Z Z.heap.size h0) {a b : Addr} {cs : List Int32} {cap : Nat} (M : Sbd Z h0 a b cs cap) {u vb : Addr} {ds : List Int32} (L : LatB Z h0 u vb ds) (hgr : cap < cs.length + ds.length) (hg2 : cs.length + ds.length ≤ cap + cap + 2) (hc : cap + (cap + 2) ≤ 40) (hza : Z.heap.size ≤ a) :
    Con l Z consts_1 kn ws (⟨"java/lang/AbstractStringBuilder", "append", "(Ljava/lang/String;)Ljava/lang/AbstractStringBuilder;"⟩ : MethodName) jdk_68_method_22_code 3 (some (.object "java/lang/AbstractStringBuilder")) ({ frames := 4, cells := 1, slots := 40, locals := 62 } : Room) #[(.ref a), (.ref u)] h0 ss (rVs fun v h sf => Keep h0 h [a, b] ∧ v = .ref a ∧ ∃ d, h0.size ≤ d ∧ sf d ∧ Sbd Z h a d (cs ++ ds) (cap + (cap + 2))) := by
  have hw := g.1
  have hEL := g.2.1
  refine Con.of (plainFor_of_name pn_6) hO ?_
  intro p e s m below meth c T0 me W0
  refine Fi.entry (L := #[.val (.ref a), .val (.ref u), .unset]) (by first | (simp [entryFrame, mkF, argsToLocals, Value.category, maxLocals]; done) | (simp [entryFrame, mkF, argsToLocals, Value.category]; done) | rfl) ?_
  have n_value_coder : Jvm.RoadKit.slotOf Z "java/lang/AbstractStringBuilder" "value" "[B" ≠ Jvm.RoadKit.slotOf Z "java/lang/AbstractStringBuilder" "coder" "B" := slot_ne (Or.inl (hw _ (List.mem_of_getElem? (i := 60) rfl)) : Laid Z a0 "java/lang/StringBuilder" "java/lang/AbstractStringBuilder" "value" "[B") (Or.inl (hw _ (List.mem_of_getElem? (i := 62) rfl)) : Laid Z a0 "java/lang/StringBuilder" "java/lang/AbstractStringBuilder" "coder" "B") (by decide) (t := .array .byte) (t' := .byte) (by decide) (by decide)
  have n_value_count : Jvm.RoadKit.slotOf Z "java/lang/AbstractStringBuilder" "value" "[B" ≠ Jvm.RoadKit.slotOf Z "java/lang/AbstractStringBuilder" "count" "I" := slot_ne (Or.inl (hw _ (List.mem_of_getElem? (i := 60) rfl)) : Laid Z a0 "java/lang/StringBuilder" "java/lang/AbstractStringBuilder" "value" "[B") (Or.inl (hw _ (List.mem_of_getElem? (i := 99) rfl)) : Laid Z a0 "java/lang/StringBuilder" "java/lang/AbstractStringBuilder" "count" "I") (by decide) (t := .array .byte) (t' := .int) (by decide) (by decide)
  have n_coder_count : Jvm.RoadKit.slotOf Z "java/lang/AbstractStringBuilder" "coder" "B" ≠ Jvm.RoadKit.slotOf Z "java/lang/AbstractStringBuilder" "count" "I" := slot_ne (Or.inl (hw _ (List.mem_of_getElem? (i := 62) rfl)) : Laid Z a0 "java/lang/StringBuilder" "java/lang/AbstractStringBuilder" "coder" "B") (Or.inl (hw _ (List.mem_of_getElem? (i := 99) rfl)) : Laid Z a0 "java/lang/StringBuilder" "java/lang/AbstractStringBuilder" "count" "I") (by decide) (t := .byte) (t' := .int) (by decide) (by decide)
  have hl20 : ds.length < 2 ^ 20 := by obtain ⟨_, _, _, _, _, q, _⟩ := L; exact q
  refine W0.aloadN me d_jdk_68_method_22_0 rfl rfl ?_
  show Fi p e below s Z _ _ _ _ T0 (mkF m 1 #[.val (.ref a), .val (.ref u), .unset] [(.ref u)])
  refine W0.nonnullY me d_jdk_68_method_22_1 (pc' := 9) (by decide) (by decide) ?_
  show Fi p e below s Z _ _ _ _ T0 (mkF m 9 #[.val (.ref a), .val (.ref u), .unset] [])
  refine W0.aloadN me d_jdk_68_method_22_9 rfl rfl ?_
  show Fi p e below s Z _ _ _ _ T0 (mkF m 10 #[.val (.ref a), .val (.ref u), .unset] [(.ref u)])
  refine W0.callV me hEL (hw _ (List.mem_of_getElem? (i := 87) rfl)) (hw _ (List.mem_of_getElem? (i := 88) rfl)) (fun hZ' => notFace_of_selects (args := #[]) (mvT (s := s.setVm _) hZ' (hw _ (List.mem_of_getElem? (i := 90) rfl)))) (hw _ (List.mem_of_getElem? (i := 90) rfl)) (hw _ (List.mem_of_getElem? (i := 89) rfl)) (hw _ (List.mem_of_getElem? (i := 6) rfl)) (hw _ (List.mem_of_getElem? (i := 91) rfl)) (a := u) (argsL := []) (rest := []) L.exa (c_length (ss := []) g W0.old L.lat) d_jdk_68_method_22_10 (by decide) (fun _ q => nomatch q) rfl (lenOf pd_17 rfl) (own_le rfl) (own_le rfl) (own_le rfl) (own_le rfl) rfl ?_
  intro T1 h1 v1 W1 z1 q1
  obtain ⟨sf1, X1, _, rfl, rfl, rfl⟩ := q1
  show Fi p e below s Z _ _ _ _ T1 (mkF m 13 #[.val (.ref a), .val (.ref u), .unset] [(.int (Int32.ofNat ds.length))])
  refine W1.istoreN me d_jdk_68_method_22_13 (l' := #[.val (.ref a), .val (.ref u), .val (.int (Int32.ofNat ds.length))]) rfl ?_
  refine W1.aloadN me d_jdk_68_method_22_14 rfl rfl ?_
  refine W1.aloadN me d_jdk_68_method_22_15 rfl rfl ?_
  show Fi p e below s Z _ _ _ _ T1 (mkF m 16 #[.val (.ref a), .val (.ref u), .val (.int (Int32.ofNat ds.length))] [(.ref a), (.ref a)])
  have M' := M
  obtain ⟨k, EA, FV, FC, FN, AB, EB, hcap, hc20, hC8⟩ := M
  refine W1.getF me (hw _ (List.mem_of_getElem? (i := 98) rfl)) FN Via.refl d_jdk_68_method_22_16 ?_
  intro T2 W2
  show Fi p e below s Z _ _ _ _ T2 (mkF m 19 #[.val (.ref a), .val (.ref u), .val (.int (Int32.ofNat ds.length))] [(.int (Int32.ofNat cs.length)), (.ref a)])
  refine W2.iloadN me d_jdk_68_method_22_19 rfl ?_
  show Fi p e below s Z _ _ _ _ T2 (mkF m 20 #[.val (.ref a), .val (.ref u), .val (.int (Int32.ofNat ds.length))] [(.int (Int32.ofNat ds.length)), (.int (Int32.ofNat cs.length)), (.ref a)])
  refine W2.iadd me d_jdk_68_method_22_20 ?_
  rw [on_add]
  show Fi p e below s Z _ _ _ _ T2 (mkF m 21 #[.val (.ref a), .val (.ref u), .val (.int (Int32.ofNat ds.length))] [(.int (Int32.ofNat (cs.length + ds.length))), (.ref a)])
  refine W2.callP me hEL (hw _ (List.mem_of_getElem? (i := 100) rfl)) (hw _ (List.mem_of_getElem? (i := 101) rfl)) (hw _ (List.mem_of_getElem? (i := 102) rfl)) (hw _ (List.mem_of_getElem? (i := 103) rfl)) (hw _ (List.mem_of_getElem? (i := 55) rfl)) (hw _ (List.mem_of_getElem? (i := 104) rfl)) (a := a) (argsL := [(.int (Int32.ofNat (cs.length + ds.length)))]) (rest := []) EA (c_ens1 (ss := []) g W2.old M' (n := cs.length + ds.length) (by omega) (by omega) hc hza) d_jdk_68_method_22_21 (by decide) (fun _ q => nomatch q) rfl (lenOf pd_11 rfl) (own_le rfl) (own_le rfl) (own_le rfl) (own_le rfl) rfl ?_
  intro T3 h3 v3 W3 z3 q3
  obtain ⟨sf3, X3, rfl, K3, d3, y3, s3, M3⟩ := q3
  show Fi p e below s Z _ _ _ _ T3 (mkF m 24 #[.val (.ref a), .val (.ref u), .val (.int (Int32.ofNat ds.length))] [])
  replace W3 := X3 [d3] (allS s3 all0)
  have hS2 : d3 ∈ [d3] ++ ss := List.mem_cons_self ..
  have hzd : Z.heap.size ≤ d3 := by have := hO.2.1; omega
  have hua : u ≠ a := Exa.ne L.exa EA (by decide)
  have hva : vb ≠ a := by obtain ⟨_, _, _, _, q, _⟩ := L; exact (EA.neArv q (hw _ (List.mem_of_getElem? (i := 46) rfl))).symm
  have L2 := L.keep K3 (ninS hua nin0) (ninS hva nin0)
  have M2 := M3
  obtain ⟨k2, EA2, FV2, FC2, FN2, AB2, EB2, hcap2, hc202, -⟩ := M3
  refine W3.aloadN me d_jdk_68_method_22_24 rfl rfl ?_
  refine W3.aloadN me d_jdk_68_method_22_25 rfl rfl ?_
  show Fi p e below s Z _ _ _ _ T3 (mkF m 26 #[.val (.ref a), .val (.ref u), .val (.int (Int32.ofNat ds.length))] [(.ref a), (.ref a)])
  refine W3.getF me (hw _ (List.mem_of_getElem? (i := 98) rfl)) FN2 Via.refl d_jdk_68_method_22_26 ?_
  intro T4 W4
  show Fi p e below s Z _ _ _ _ T4 (mkF m 29 #[.val (.ref a), .val (.ref u), .val (.int (Int32.ofNat ds.length))] [(.int (Int32.ofNat cs.length)), (.ref a)])
  refine W4.aloadN me d_jdk_68_method_22_29 rfl rfl ?_
  show Fi p e below s Z _ _ _ _ T4 (mkF m 30 #[.val (.ref a), .val (.ref u), .val (.int (Int32.ofNat ds.length))] [(.ref u), (.int (Int32.ofNat cs.length)), (.ref a)])
  refine W4.callP me hEL (hw _ (List.mem_of_getElem? (i := 105) rfl)) (hw _ (List.mem_of_getElem? (i := 106) rfl)) (hw _ (List.mem_of_getElem? (i := 107) rfl)) (hw _ (List.mem_of_getElem? (i := 108) rfl)) (hw _ (List.mem_of_getElem? (i := 55) rfl)) (hw _ (List.mem_of_getElem? (i := 109) rfl)) (a := a) (argsL := [(.int (Int32.ofNat cs.length)), (.ref u)]) (rest := []) EA2 (c_putat g W4.old M2 L2 (by omega) hS2 hzd) d_jdk_68_method_22_30 (by decide) (fun _ q => q) rfl (lenOf pd_18 rfl) (own_le rfl) (own_le rfl) (own_le rfl) (own_le rfl) rfl ?_
  intro T5 h5 v5 W5 z5 q5
  obtain ⟨sf5, X5, rfl, K5, k5, A5⟩ := q5
  show Fi p e below s Z _ _ _ _ T5 (mkF m 33 #[.val (.ref a), .val (.ref u), .val (.int (Int32.ofNat ds.length))] [])
  have hab : a ≠ d3 := EA2.neArv AB2 (hw _ (List.mem_of_getElem? (i := 46) rfl))
  have EA3 := EA2.keep K5
  have FV3 := FV2.keep K5 (ninS hab nin0)
  have FC3 := FC2.keep K5 (ninS hab nin0)
  have FN3 := FN2.keep K5 (ninS hab nin0)
  refine W5.aloadN me d_jdk_68_method_22_33 rfl rfl ?_
  refine W5.dup me d_jdk_68_method_22_34 rfl ?_
  show Fi p e below s Z _ _ _ _ T5 (mkF m 35 #[.val (.ref a), .val (.ref u), .val (.int (Int32.ofNat ds.length))] [(.ref a), (.ref a)])
  refine W5.getF me (hw _ (List.mem_of_getElem? (i := 98) rfl)) FN3 Via.refl d_jdk_68_method_22_35 ?_
  intro T6 W6
  show Fi p e below s Z _ _ _ _ T6 (mkF m 38 #[.val (.ref a), .val (.ref u), .val (.int (Int32.ofNat ds.length))] [(.int (Int32.ofNat cs.length)), (.ref a)])
  refine W6.iloadN me d_jdk_68_method_22_38 rfl ?_
  show Fi p e below s Z _ _ _ _ T6 (mkF m 39 #[.val (.ref a), .val (.ref u), .val (.int (Int32.ofNat ds.length))] [(.int (Int32.ofNat ds.length)), (.int (Int32.ofNat cs.length)), (.ref a)])
  refine W6.iadd me d_jdk_68_method_22_39 ?_
  rw [on_add]
  show Fi p e below s Z _ _ _ _ T6 (mkF m 40 #[.val (.ref a), .val (.ref u), .val (.int (Int32.ofNat ds.length))] [(.int (Int32.ofNat (cs.length + ds.length))), (.ref a)])
  refine W6.putF me (hw _ (List.mem_of_getElem? (i := 98) rfl)) FN3 Via.refl EA3 (Or.inl (hw _ (List.mem_of_getElem? (i := 99) rfl))) (hw _ (List.mem_of_getElem? (i := 46) rfl)) (ty := .int) (by decide) rfl rfl (Or.inr (Or.inl ⟨"java/lang/StringBuilder", EA3, by decide, by decide⟩)) hza d_jdk_68_method_22_40 ?_
  intro T7 h7 W7 R7
  show Fi p e below s Z _ _ _ _ T7 (mkF m 43 #[.val (.ref a), .val (.ref u), .val (.int (Int32.ofNat ds.length))] [])
  refine W7.aloadN me d_jdk_68_method_22_43 rfl rfl ?_
  show Fi p e below s Z _ _ _ _ T7 (mkF m 44 #[.val (.ref a), .val (.ref u), .val (.int (Int32.ofNat ds.length))] [(.ref a)])
  have hlen : (cs ++ ds).length = cs.length + ds.length := List.length_append
  have S : Sbd Z h7 a d3 (cs ++ ds) (cap + (cap + 2)) := ⟨k5, EA3.wr R7, FV3.other R7 (Or.inr n_value_count), FC3.other R7 (Or.inr n_coder_count), by rw [hlen]; exact FN3.same R7, A5.other R7 hab.symm, (EB2.keep K5).wr R7, by rw [hlen]; omega, hc202, hC8.app (by obtain ⟨_, _, _, _, _, _, q⟩ := L; exact q)⟩
  have K : Keep h0 h7 [a, b] := own_keep2 K3 K5 R7 y3
  exact W7.retAs hEL me d_jdk_68_method_22_44 (fun sf q => ⟨K, rfl, d3, y3, q _ (List.mem_cons_self ..), S⟩) (by decide) (by decide) rfl rfl rfl

set_option maxRecDepth 65536 in
set_option maxHeartbeats 4000000 in
theorem c_app1 {l : Launch} {Z : State} {a0 : Array Value} {kn : Bool} (g : Gl Z a0) {ws : List Cond} {h0 : Heap} {ss : List Addr} (hO : Old Z Z.heap.size h0) {a b : Addr} {cs : List Int32} {cap : Nat} (M : Sbd Z h0 a b cs cap) {u vb : Addr} {ds : List Int32} (L : LatB Z h0 u vb ds) (hgr : cap < cs.length + ds.length) (hg2 : cs.length + ds.length ≤ cap + cap + 2) (hc : cap + (cap + 2) ≤ 40) (hza : Z.heap.size ≤ a) :
    Con l Z consts_1 kn ws (⟨"java/lang/StringBuilder", "append", "(Ljava/lang/String;)Ljava/lang/StringBuilder;"⟩ : MethodName) jdk_67_method_7_code 2 (some (.object "java/lang/StringBuilder")) ({ frames := 5, cells := 1, slots := 40, locals := 76 } : Room) #[(.ref a), (.ref u)] h0 ss (rVs fun v h sf => Keep h0 h [a, b] ∧ v = .ref a ∧ ∃ d, h0.size ≤ d ∧ sf d ∧ Sbd Z h a d (cs ++ ds) (cap + (cap + 2))) := by
  have hw := g.1
  have hEL := g.2.1
  refine Con.of (plainFor_of_name pn_7) hO ?_
  intro p e s m below meth c T0 me W0
  refine Fi.entry (L := #[.val (.ref a), .val (.ref u)]) (by first | (simp [entryFrame, mkF, argsToLocals, Value.category, maxLocals]; done) | (simp [entryFrame, mkF, argsToLocals, Value.category]; done) | rfl) ?_
  refine W0.aloadN me d_jdk_67_method_7_0 rfl rfl ?_
  refine W0.aloadN me d_jdk_67_method_7_1 rfl rfl ?_
  show Fi p e below s Z _ _ _ _ T0 (mkF m 2 #[.val (.ref a), .val (.ref u)] [(.ref u), (.ref a)])
  refine W0.callU me hEL (hw _ (List.mem_of_getElem? (i := 82) rfl)) (hw _ (List.mem_of_getElem? (i := 83) rfl)) (hw _ (List.mem_of_getElem? (i := 84) rfl)) (hw _ (List.mem_of_getElem? (i := 103) rfl)) rfl (hw _ (List.mem_of_getElem? (i := 55) rfl)) (hw _ (List.mem_of_getElem? (i := 86) rfl)) (by decide) (a := a) (argsL := [(.ref u)]) (rest := []) M.exa (c_asba1 (ss := []) g W0.old M L hgr hg2 hc hza) d_jdk_67_method_7_2 (by decide) (fun _ q => nomatch q) rfl (lenOf pd_19 rfl) (own_le rfl) (own_le rfl) (own_le rfl) (own_le rfl) rfl ?_
  intro T1 h1 v1 W1 z1 q1
  obtain ⟨sf1, X1, _, rfl, K1, rfl, d1, y1, s1, M1⟩ := q1
  show Fi p e below s Z _ _ _ _ T1 (mkF m 5 #[.val (.ref a), .val (.ref u)] [(.ref a)])
  refine W1.pop me d_jdk_67_method_7_5 rfl ?_
  refine W1.aloadN me d_jdk_67_method_7_6 rfl rfl ?_
  show Fi p e below s Z _ _ _ _ T1 (mkF m 7 #[.val (.ref a), .val (.ref u)] [(.ref a)])
  exact (X1 [d1] (allS s1 all0)).retAs hEL me d_jdk_67_method_7_7 (fun sf q => ⟨K1, rfl, d1, y1, q _ (List.mem_cons_self ..), M1⟩) (by decide) (by decide) rfl rfl rfl

set_option maxRecDepth 65536 in
set_option maxHeartbeats 4000000 in
theorem c_getval {l : Launch} {Z : State} {a0 : Array Value} {kn : Bool} (g : Gl Z a0) {ws : List Cond} {h0 : Heap} {ss : List Addr} (hO : Old Z Z.heap.size h0) {a b : Addr} {cs : List Int32} {cap : Nat} (M : Sbd Z h0 a b cs cap) :
    Con l Z consts_1 kn ws (⟨"java/lang/AbstractStringBuilder", "getValue", "()[B"⟩ : MethodName) jdk_68_method_64_code 1 (some (.array .byte)) ({ frames := 0, cells := 0, slots := 0, locals := 0 } : Room) #[(.ref a)] h0 ss (rV fun v h => h0 = h ∧ v = (.ref b)) := by
  have hw := g.1
  have hEL := g.2.1
  refine Con.of (plainFor_of_name pn_6) hO ?_
  intro p e s m below meth c T0 me W0
  refine Fi.entry (L := #[.val (.ref a)]) (by first | (simp [entryFrame, mkF, argsToLocals, Value.category, maxLocals]; done) | (simp [entryFrame, mkF, argsToLocals, Value.category]; done) | rfl) ?_
  obtain ⟨k, EA, FV, FC, FN, AB, EB, hcap, hc20, hC8⟩ := M
  refine W0.aloadN me d_jdk_68_method_64_0 rfl rfl ?_
  show Fi p e below s Z _ _ _ _ T0 (mkF m 1 #[.val (.ref a)] [(.ref a)])
  refine W0.getF me (hw _ (List.mem_of_getElem? (i := 59) rfl)) FV Via.refl d_jdk_68_method_64_1 ?_
  intro T1 W1
  show Fi p e below s Z _ _ _ _ T1 (mkF m 4 #[.val (.ref a)] [(.ref b)])
  exact W1.retA hEL me d_jdk_68_method_64_4 ⟨rfl, rfl⟩ (by decide) (by decide) rfl rfl rfl

set_option maxRecDepth 65536 in
set_option maxHeartbeats 4000000 in
theorem c_asblen {l : Launch} {Z : State} {a0 : Array Value} {kn : Bool} (g : Gl Z a0) {ws : List Cond} {h0 : Heap} {ss : List Addr} (hO : Old Z Z.heap.size h0) {a b : Addr} {cs : List Int32} {cap : Nat} (M : Sbd Z h0 a b cs cap) :
    Con l Z consts_1 kn ws (⟨"java/lang/AbstractStringBuilder", "length", "()I"⟩ : MethodName) jdk_68_method_6_code 1 (some .int) ({ frames := 0, cells := 0, slots := 0, locals := 0 } : Room) #[(.ref a)] h0 ss (rV fun v h => h0 = h ∧ v = (.int (Int32.ofNat cs.length))) := by
  have hw := g.1
  have hEL := g.2.1
  refine Con.of (plainFor_of_name pn_6) hO ?_
  intro p e s m below meth c T0 me W0
  refine Fi.entry (L := #[.val (.ref a)]) (by first | (simp [entryFrame, mkF, argsToLocals, Value.category, maxLocals]; done) | (simp [entryFrame, mkF, argsToLocals, Value.category]; done) | rfl) ?_
  obtain ⟨k, EA, FV, FC, FN, AB, EB, hcap, hc20, hC8⟩ := M
  refine W0.aloadN me d_jdk_68_method_6_0 rfl rfl ?_
  show Fi p e below s Z _ _ _ _ T0 (mkF m 1 #[.val (.ref a)] [(.ref a)])
  refine W0.getF me (hw _ (List.mem_of_getElem? (i := 98) rfl)) FN Via.refl d_jdk_68_method_6_1 ?_
  intro T1 W1
  show Fi p e below s Z _ _ _ _ T1 (mkF m 4 #[.val (.ref a)] [(.int (Int32.ofNat cs.length))])
  exact W1.retI hEL me d_jdk_68_method_6_4 ⟨rfl, rfl⟩ (by decide) (by decide)

set_option maxRecDepth 65536 in
set_option maxHeartbeats 4000000 in
theorem c_sblen {l : Launch} {Z : State} {a0 : Array Value} {kn : Bool} (g : Gl Z a0) {ws : List Cond} {h0 : Heap} {ss : List Addr} (hO : Old Z Z.heap.size h0) {a b : Addr} {cs : List Int32} {cap : Nat} (M : Sbd Z h0 a b cs cap) :
    Con l Z consts_1 kn ws (⟨"java/lang/StringBuilder", "length", "()I"⟩ : MethodName) jdk_67_method_93_code 1 (some .int) ({ frames := 1, cells := 0, slots := 0, locals := 12 } : Room) #[(.ref a)] h0 ss (rV fun v h => h0 = h ∧ v = .int (Int32.ofNat cs.length)) := by
  have hw := g.1
  have hEL := g.2.1
  refine Con.of (plainFor_of_name pn_7) hO ?_
  intro p e s m below meth c T0 me W0
  refine Fi.entry (L := #[.val (.ref a)]) (by first | (simp [entryFrame, mkF, argsToLocals, Value.category, maxLocals]; done) | (simp [entryFrame, mkF, argsToLocals, Value.category]; done) | rfl) ?_
  refine W0.aloadN me d_jdk_67_method_93_0 rfl rfl ?_
  show Fi p e below s Z _ _ _ _ T0 (mkF m 1 #[.val (.ref a)] [(.ref a)])
  refine W0.callU me hEL (hw _ (List.mem_of_getElem? (i := 150) rfl)) (hw _ (List.mem_of_getElem? (i := 146) rfl)) (hw _ (List.mem_of_getElem? (i := 84) rfl)) (hw _ (List.mem_of_getElem? (i := 103) rfl)) rfl (hw _ (List.mem_of_getElem? (i := 55) rfl)) (hw _ (List.mem_of_getElem? (i := 151) rfl)) (by decide) (a := a) (argsL := []) (rest := []) M.exa (c_asblen (ss := []) g W0.old M) d_jdk_67_method_93_1 (by decide) (fun _ q => nomatch q) rfl (lenOf pd_17 rfl) (own_le rfl) (own_le rfl) (own_le rfl) (own_le rfl) rfl ?_
  intro T1 h1 v1 W1 z1 q1
  obtain ⟨sf1, X1, _, rfl, rfl, rfl⟩ := q1
  show Fi p e below s Z _ _ _ _ T1 (mkF m 4 #[.val (.ref a)] [(.int (Int32.ofNat cs.length))])
  exact W1.retI hEL me d_jdk_67_method_93_4 ⟨rfl, rfl⟩ (by decide) (by decide)

set_option maxRecDepth 65536 in
set_option maxHeartbeats 4000000 in
theorem c_asblat {l : Launch} {Z : State} {a0 : Array Value} {kn : Bool} (g : Gl Z a0) {ws : List Cond} {h0 : Heap} {ss : List Addr} (hO : Old Z Z.heap.size h0) {a b : Addr} {cs : List Int32} {cap : Nat} (M : Sbd Z h0 a b cs cap) :
    Con l Z consts_1 kn ws (⟨"java/lang/AbstractStringBuilder", "isLatin1", "()Z"⟩ : MethodName) jdk_68_method_68_code 1 (some .boolean) ({ frames := 0, cells := 0, slots := 0, locals := 0 } : Room) #[(.ref a)] h0 ss (rV fun v h => h0 = h ∧ v = .int 1) := by
  have hw := g.1
  have hEL := g.2.1
  refine Con.of (plainFor_of_name pn_6) hO ?_
  intro p e s m below meth c T0 me W0
  refine Fi.entry (L := #[.val (.ref a)]) (by first | (simp [entryFrame, mkF, argsToLocals, Value.category, maxLocals]; done) | (simp [entryFrame, mkF, argsToLocals, Value.category]; done) | rfl) ?_
  obtain ⟨k, EA, FV, FC, FN, AB, EB, hcap, hc20, hC8⟩ := M
  obtain ⟨G, O2, P2⟩ := g.2.2.1
  refine W0.getS me (hw _ (List.mem_of_getElem? (i := 58) rfl)) O2 Via.refl d_jdk_68_method_68_0 ?_
  intro T1 W1
  show Fi p e below s Z _ _ _ _ T1 (mkF m 3 #[.val (.ref a)] [(.int G)])
  refine W1.ifN_eq me d_jdk_68_method_68_3 P2 ?_
  refine W1.aloadN me d_jdk_68_method_68_6 rfl rfl ?_
  show Fi p e below s Z _ _ _ _ T1 (mkF m 7 #[.val (.ref a)] [(.ref a)])
  refine W1.getF me (hw _ (List.mem_of_getElem? (i := 61) rfl)) FC Via.refl d_jdk_68_method_68_7 ?_
  intro T2 W2
  show Fi p e below s Z _ _ _ _ T2 (mkF m 10 #[.val (.ref a)] [(.int (0 : Int32))])
  show Fi p e below s Z _ _ _ _ T2 (mkF m 10 #[.val (.ref a)] [(.int (0 : Int32))])
  refine W2.ifN_ne me d_jdk_68_method_68_10 (by decide) ?_
  show Fi p e below s Z _ _ _ _ T2 (mkF m 13 #[.val (.ref a)] [])
  refine W2.iconst me d_jdk_68_method_68_13 (v := 1) rfl ?_
  refine W2.goto me d_jdk_68_method_68_14 (pc' := 18) (by decide) (by decide) ?_
  show Fi p e below s Z _ _ _ _ T2 (mkF m 18 #[.val (.ref a)] [(.int (1 : Int32))])
  exact W2.retN hEL me (Or.inl rfl) d_jdk_68_method_68_18 ⟨rfl, rfl⟩ (by decide) (by decide)

set_option maxRecDepth 65536 in
set_option maxHeartbeats 4000000 in
theorem c_crclone {l : Launch} {Z : State} {a0 : Array Value} {kn : Bool} (g : Gl Z a0) {ws : List Cond} {h0 : Heap} {ss : List Addr} (hO : Old Z Z.heap.size h0) {b : Addr} {kb : ClassId} {cs : List Int32} (AB : Arv Z h0 b kb .byte (Int32.ofNat cs.length) (lb cs) (.int 0)) (EB : Exa Z h0 b "[B") (hl : cs.length ≤ 40) :
    Con l Z consts_1 kn ws (⟨"java/util/Arrays", "copyOfRange", "([BII)[B"⟩ : MethodName) jdk_65_method_132_code 3 (some (.array .byte)) ({ frames := 1, cells := 1, slots := 40, locals := 14 } : Room) #[(.ref b), (.int (0 : Int32)), (.int (Int32.ofNat cs.length))] h0 ss (rV fun v h => Ext h0 h ∧ ∃ d kd, v = .ref d ∧ h0.size ≤ d ∧ Arv Z h d kd .byte (Int32.ofNat cs.length) (lb cs) (.int 0)) := by
  have hw := g.1
  have hEL := g.2.1
  refine Con.of (plainFor_of_name pn_5) hO ?_
  intro p e s m below meth c T0 me W0
  refine Fi.entry (L := #[.val (.ref b), .val (.int (0 : Int32)), .val (.int (Int32.ofNat cs.length))]) (by first | (simp [entryFrame, mkF, argsToLocals, Value.category, maxLocals]; done) | (simp [entryFrame, mkF, argsToLocals, Value.category]; done) | rfl) ?_
  refine W0.iloadN me d_jdk_65_method_132_0 rfl ?_
  show Fi p e below s Z _ _ _ _ T0 (mkF m 1 #[.val (.ref b), .val (.int (0 : Int32)), .val (.int (Int32.ofNat cs.length))] [(.int (0 : Int32))])
  refine W0.ifN_ne me d_jdk_65_method_132_1 (by decide) ?_
  show Fi p e below s Z _ _ _ _ T0 (mkF m 4 #[.val (.ref b), .val (.int (0 : Int32)), .val (.int (Int32.ofNat cs.length))] [])
  refine W0.iloadN me d_jdk_65_method_132_4 rfl ?_
  refine W0.aloadN me d_jdk_65_method_132_5 rfl rfl ?_
  show Fi p e below s Z _ _ _ _ T0 (mkF m 6 #[.val (.ref b), .val (.int (0 : Int32)), .val (.int (Int32.ofNat cs.length))] [(.ref b), (.int (Int32.ofNat cs.length))])
  refine W0.alen me AB d_jdk_65_method_132_6 ?_
  show Fi p e below s Z _ _ _ _ T0 (mkF m 7 #[.val (.ref b), .val (.int (0 : Int32)), .val (.int (Int32.ofNat cs.length))] [(.int (Int32.ofNat cs.length)), (.int (Int32.ofNat cs.length))])
  refine W0.icY_eq me d_jdk_65_method_132_7 rfl (pc' := 17) (by decide) (by decide) ?_
  refine W0.aloadN me d_jdk_65_method_132_17 rfl rfl ?_
  show Fi p e below s Z _ _ _ _ T0 (mkF m 18 #[.val (.ref b), .val (.int (0 : Int32)), .val (.int (Int32.ofNat cs.length))] [(.ref b)])
  refine W0.clone me (hw _ (List.mem_of_getElem? (i := 210) rfl)) (hw _ (List.mem_of_getElem? (i := 211) rfl)) (hw _ (List.mem_of_getElem? (i := 215) rfl)) (hw _ (List.mem_of_getElem? (i := 213) rfl)) (hw _ (List.mem_of_getElem? (i := 214) rfl)) (hw _ (List.mem_of_getElem? (i := 216) rfl)) AB EB d_jdk_65_method_132_18 rfl (own_le rfl) (own_le rfl) (cap := 40) (by rw [on_clamp (by omega)]; exact hl) (own_le rfl) (own_le rfl) ?_
  intro T1 h1 d1 g1 W1 E1 A1 EB1
  show Fi p e below s Z _ _ _ _ T1 (mkF m 21 #[.val (.ref b), .val (.int (0 : Int32)), .val (.int (Int32.ofNat cs.length))] [(.ref d1)])
  refine W1.cast me (hw _ (List.mem_of_getElem? (i := 217) rfl)) (Ins.self EB1) d_jdk_65_method_132_21 ?_
  intro T2 W2
  show Fi p e below s Z _ _ _ _ T2 (mkF m 24 #[.val (.ref b), .val (.int (0 : Int32)), .val (.int (Int32.ofNat cs.length))] [(.ref d1)])
  exact W2.retA hEL me d_jdk_65_method_132_24 ⟨E1, d1, _, rfl, by omega, A1⟩ (by decide) (by decide) rfl rfl rfl

set_option maxRecDepth 65536 in
set_option maxHeartbeats 4000000 in
theorem c_init150 {l : Launch} {Z : State} {a0 : Array Value} {kn : Bool} (g : Gl Z a0) {ws : List Cond} {h0 : Heap} {ss : List Addr} (hO : Old Z Z.heap.size h0) {a b : Addr} {cs : List Int32} {cap : Nat} (M : Sbd Z h0 a b cs cap) {x : Addr} {vv vc : Value} (EX : Exa Z h0 x "java/lang/String") (XV : Fld Z h0 x "java/lang/String" "value" "[B" vv) (XC : Fld Z h0 x "java/lang/String" "coder" "B" vc) (hS : x ∈ ss) (hz : Z.heap.size ≤ x) (hle : cs.length ≤ 40) :
    Con l Z consts_1 kn ws (⟨"java/lang/String", "<init>", "(Ljava/lang/AbstractStringBuilder;Ljava/lang/Void;)V"⟩ : MethodName) jdk_42_method_150_code 5 none ({ frames := 3, cells := 1, slots := 40, locals := 49 } : Room) #[(.ref x), (.ref a), .null] h0 ss (rU fun h => Keep h0 h [x] ∧ Lat Z h x cs) := by
  have hw := g.1
  have hEL := g.2.1
  refine Con.of (plainFor_of_name pn_1) hO ?_
  intro p e s m below meth c T0 me W0
  refine Fi.entry (L := #[.val (.ref x), .val (.ref a), .val .null, .unset, .unset]) (by first | (simp [entryFrame, mkF, argsToLocals, Value.category, maxLocals]; done) | (simp [entryFrame, mkF, argsToLocals, Value.category]; done) | rfl) ?_
  have hLV : Laid Z a0 "java/lang/String" "java/lang/String" "value" "[B" := Or.inr (hw _ (List.mem_of_getElem? (i := 20) rfl))
  have hLC : Laid Z a0 "java/lang/String" "java/lang/String" "coder" "B" := Or.inr (hw _ (List.mem_of_getElem? (i := 21) rfl))
  have hvc : Jvm.RoadKit.slotOf Z "java/lang/String" "value" "[B" ≠ Jvm.RoadKit.slotOf Z "java/lang/String" "coder" "B" := slot_ne hLV hLC (by decide) (t := .array .byte) (t' := .byte) (by decide) (by decide)
  have hxlt := own_lt EX.lt
  refine W0.aloadN me d_jdk_42_method_150_0 rfl rfl ?_
  show Fi p e below s Z _ _ _ _ T0 (mkF m 1 #[.val (.ref x), .val (.ref a), .val .null, .unset, .unset] [(.ref x)])
  refine W0.initO me (hw _ (List.mem_of_getElem? (i := 15) rfl)) (hw _ (List.mem_of_getElem? (i := 16) rfl)) (hw _ (List.mem_of_getElem? (i := 17) rfl)) d_jdk_42_method_150_1 rfl (own_le rfl) (own_le rfl) ?_
  intro T1 W1
  show Fi p e below s Z _ _ _ _ T1 (mkF m 4 #[.val (.ref x), .val (.ref a), .val .null, .unset, .unset] [])
  refine W1.aloadN me d_jdk_42_method_150_4 rfl rfl ?_
  show Fi p e below s Z _ _ _ _ T1 (mkF m 5 #[.val (.ref x), .val (.ref a), .val .null, .unset, .unset] [(.ref a)])
  refine W1.callV me hEL (hw _ (List.mem_of_getElem? (i := 139) rfl)) (hw _ (List.mem_of_getElem? (i := 140) rfl)) (fun hZ' => notFace_of_selects (args := #[]) (mvT (s := s.setVm _) hZ' (hw _ (List.mem_of_getElem? (i := 142) rfl)))) (hw _ (List.mem_of_getElem? (i := 142) rfl)) (hw _ (List.mem_of_getElem? (i := 141) rfl)) (hw _ (List.mem_of_getElem? (i := 55) rfl)) (hw _ (List.mem_of_getElem? (i := 143) rfl)) (a := a) (argsL := []) (rest := []) M.exa (c_getval (ss := []) g W1.old M) d_jdk_42_method_150_5 (by decide) (fun _ q => nomatch q) rfl (lenOf pd_20 rfl) (own_le rfl) (own_le rfl) (own_le rfl) (own_le rfl) rfl ?_
  intro T2 h2 v2 W2 z2 q2
  obtain ⟨sf2, X2, _, rfl, rfl, rfl⟩ := q2
  show Fi p e below s Z _ _ _ _ T2 (mkF m 8 #[.val (.ref x), .val (.ref a), .val .null, .unset, .unset] [(.ref b)])
  refine W2.astoreN me d_jdk_42_method_150_8 (l' := #[.val (.ref x), .val (.ref a), .val .null, .val (.ref b), .unset]) rfl rfl ?_
  refine W2.aloadN me d_jdk_42_method_150_9 rfl rfl ?_
  show Fi p e below s Z _ _ _ _ T2 (mkF m 10 #[.val (.ref x), .val (.ref a), .val .null, .val (.ref b), .unset] [(.ref a)])
  refine W2.callV me hEL (hw _ (List.mem_of_getElem? (i := 144) rfl)) (hw _ (List.mem_of_getElem? (i := 145) rfl)) (fun hZ' => nf_of_sel (y' := ⟨"java/lang/AbstractStringBuilder", "length", "()I"⟩) (hw _ (List.mem_of_getElem? (i := 103) rfl)) rfl hZ') (hw _ (List.mem_of_getElem? (i := 147) rfl)) (hw _ (List.mem_of_getElem? (i := 148) rfl)) (hw _ (List.mem_of_getElem? (i := 47) rfl)) (hw _ (List.mem_of_getElem? (i := 149) rfl)) (a := a) (argsL := []) (rest := []) M.exa (c_sblen (ss := []) g W2.old M) d_jdk_42_method_150_10 (by decide) (fun _ q => nomatch q) rfl (lenOf pd_17 rfl) (own_le rfl) (own_le rfl) (own_le rfl) (own_le rfl) rfl ?_
  intro T3 h3 v3 W3 z3 q3
  obtain ⟨sf3, X3, _, rfl, rfl, rfl⟩ := q3
  show Fi p e below s Z _ _ _ _ T3 (mkF m 13 #[.val (.ref x), .val (.ref a), .val .null, .val (.ref b), .unset] [(.int (Int32.ofNat cs.length))])
  refine W3.istore me d_jdk_42_method_150_13 (l' := #[.val (.ref x), .val (.ref a), .val .null, .val (.ref b), .val (.int (Int32.ofNat cs.length))]) rfl ?_
  refine W3.aloadN me d_jdk_42_method_150_15 rfl rfl ?_
  show Fi p e below s Z _ _ _ _ T3 (mkF m 16 #[.val (.ref x), .val (.ref a), .val .null, .val (.ref b), .val (.int (Int32.ofNat cs.length))] [(.ref a)])
  refine W3.callV me hEL (hw _ (List.mem_of_getElem? (i := 152) rfl)) (hw _ (List.mem_of_getElem? (i := 153) rfl)) (fun hZ' => notFace_of_selects (args := #[]) (mvT (s := s.setVm _) hZ' (hw _ (List.mem_of_getElem? (i := 155) rfl)))) (hw _ (List.mem_of_getElem? (i := 155) rfl)) (hw _ (List.mem_of_getElem? (i := 154) rfl)) (hw _ (List.mem_of_getElem? (i := 55) rfl)) (hw _ (List.mem_of_getElem? (i := 156) rfl)) (a := a) (argsL := []) (rest := []) M.exa (c_asblat (ss := []) g W3.old M) d_jdk_42_method_150_16 (by decide) (fun _ q => nomatch q) rfl (lenOf pd_7 rfl) (own_le rfl) (own_le rfl) (own_le rfl) (own_le rfl) rfl ?_
  intro T4 h4 v4 W4 z4 q4
  obtain ⟨sf4, X4, _, rfl, rfl, rfl⟩ := q4
  show Fi p e below s Z _ _ _ _ T4 (mkF m 19 #[.val (.ref x), .val (.ref a), .val .null, .val (.ref b), .val (.int (Int32.ofNat cs.length))] [(.int (1 : Int32))])
  show Fi p e below s Z _ _ _ _ T4 (mkF m 19 #[.val (.ref x), .val (.ref a), .val .null, .val (.ref b), .val (.int (Int32.ofNat cs.length))] [(.int (1 : Int32))])
  refine W4.ifN_eq me d_jdk_42_method_150_19 (by decide) ?_
  show Fi p e below s Z _ _ _ _ T4 (mkF m 22 #[.val (.ref x), .val (.ref a), .val .null, .val (.ref b), .val (.int (Int32.ofNat cs.length))] [])
  refine W4.aloadN me d_jdk_42_method_150_22 rfl rfl ?_
  refine W4.iconst me d_jdk_42_method_150_23 (v := 0) rfl ?_
  show Fi p e below s Z _ _ _ _ T4 (mkF m 24 #[.val (.ref x), .val (.ref a), .val .null, .val (.ref b), .val (.int (Int32.ofNat cs.length))] [(.int (0 : Int32)), (.ref x)])
  have M' := M
  obtain ⟨k, EA, FV, FC, FN, AB, EB, hcap, hc20, hC8⟩ := M
  refine W4.putF me (hw _ (List.mem_of_getElem? (i := 25) rfl)) XC Via.refl EX (Or.inr ⟨(hw _ (List.mem_of_getElem? (i := 21) rfl)), rfl, rfl⟩) (hw _ (List.mem_of_getElem? (i := 5) rfl)) (ty := .byte) (by decide) rfl rfl (Or.inl hS) hz d_jdk_42_method_150_24 ?_
  intro T5 h5 W5 R5
  show Fi p e below s Z _ _ _ _ T5 (mkF m 27 #[.val (.ref x), .val (.ref a), .val .null, .val (.ref b), .val (.int (Int32.ofNat cs.length))] [])
  refine W5.aloadN me d_jdk_42_method_150_27 rfl rfl ?_
  refine W5.aloadN me d_jdk_42_method_150_28 rfl rfl ?_
  refine W5.iconst me d_jdk_42_method_150_29 (v := 0) rfl ?_
  refine W5.iload me d_jdk_42_method_150_30 rfl ?_
  show Fi p e below s Z _ _ _ _ T5 (mkF m 32 #[.val (.ref x), .val (.ref a), .val .null, .val (.ref b), .val (.int (Int32.ofNat cs.length))] [(.int (Int32.ofNat cs.length)), (.int (0 : Int32)), (.ref b), (.ref x)])
  have hbx : b ≠ x := (EX.neArv AB (hw _ (List.mem_of_getElem? (i := 5) rfl))).symm
  have AB2 := AB.other R5 hbx
  have EB2 := EB.wr R5
  by_cases hfull : cs.length = cap
  ·
    show Fi p e below s Z _ _ _ _ T5 (mkF m 32 #[.val (.ref x), .val (.ref a), .val .null, .val (.ref b), .val (.int (Int32.ofNat cs.length))] [(.int (Int32.ofNat cs.length)), (.int (0 : Int32)), (.ref b), (.ref x)])
    refine W5.callS me hEL (hw _ (List.mem_of_getElem? (i := 157) rfl)) (hw _ (List.mem_of_getElem? (i := 158) rfl)) (hw _ (List.mem_of_getElem? (i := 159) rfl)) (hw _ (List.mem_of_getElem? (i := 160) rfl)) (argsL := [(.ref b), (.int (0 : Int32)), (.int (Int32.ofNat cs.length))]) (rest := [(.ref x)]) (c_crclone (ss := []) g W5.old (cs := cs) (hfull ▸ AB2) EB2 (by omega)) d_jdk_42_method_150_32 (by decide) (fun _ q => nomatch q) rfl (lenOf pd_10 rfl) (own_le rfl) (own_le rfl) (own_le rfl) (own_le rfl) rfl ?_
    intro T6 h6 v6 W6 z6 q6
    obtain ⟨sf6, X6, _, rfl, E6, d6, k6, rfl, y6, A6⟩ := q6
    show Fi p e below s Z _ _ _ _ T6 (mkF m 35 #[.val (.ref x), .val (.ref a), .val .null, .val (.ref b), .val (.int (Int32.ofNat cs.length))] [(.ref d6), (.ref x)])
    refine W6.putF me (hw _ (List.mem_of_getElem? (i := 24) rfl)) ((XV.other R5 (Or.inr hvc)).ext E6) Via.refl ((EX.wr R5).ext E6) (Or.inr ⟨(hw _ (List.mem_of_getElem? (i := 20) rfl)), rfl, rfl⟩) (hw _ (List.mem_of_getElem? (i := 5) rfl)) (ty := (.array .byte)) (by decide) rfl rfl (Or.inl hS) hz d_jdk_42_method_150_35 ?_
    intro T7 h7 W7 R7
    show Fi p e below s Z _ _ _ _ T7 (mkF m 38 #[.val (.ref x), .val (.ref a), .val .null, .val (.ref b), .val (.int (Int32.ofNat cs.length))] [])
    refine W7.goto me d_jdk_42_method_150_38 (pc' := 97) (by decide) (by decide) ?_
    show Fi p e below s Z _ _ _ _ T7 (mkF m 97 #[.val (.ref x), .val (.ref a), .val .null, .val (.ref b), .val (.int (Int32.ofNat cs.length))] [])
    have hs5 : h0.size = h5.size := R5.size.symm
    have hdx : d6 ≠ x := own_en (by omega)
    have K : Keep h0 h7 [x] := (((Keep.refl _ [x]).wr R5 (Or.inl (List.mem_singleton.mpr rfl))).ext E6).wr R7 (Or.inl (List.mem_singleton.mpr rfl))
    exact W7.retU hEL me d_jdk_42_method_150_97 ⟨K, d6, k6, ((EX.wr R5).ext E6).wr R7, ((XC.same R5).ext E6).other R7 (Or.inr hvc.symm), ((XV.other R5 (Or.inr hvc)).ext E6).same R7, A6.other R7 hdx, by omega, hC8⟩ (by decide) (by decide)
  ·
    show Fi p e below s Z _ _ _ _ T5 (mkF m 32 #[.val (.ref x), .val (.ref a), .val .null, .val (.ref b), .val (.int (Int32.ofNat cs.length))] [(.int (Int32.ofNat cs.length)), (.int (0 : Int32)), (.ref b), (.ref x)])
    have hsub : sub cs 0 cs.length = cs := sub_all cs
    refine W5.callS me hEL (hw _ (List.mem_of_getElem? (i := 157) rfl)) (hw _ (List.mem_of_getElem? (i := 158) rfl)) (hw _ (List.mem_of_getElem? (i := 159) rfl)) (hw _ (List.mem_of_getElem? (i := 160) rfl)) (argsL := [(.ref b), (.int (0 : Int32)), (.int (Int32.ofNat cs.length))]) (rest := [(.ref x)]) (c_cr (ss := []) g W5.old (f := 0) (n := cs.length) (t := cs.length) (Nat.zero_add _).symm AB2 hc20 hcap (by omega) (by omega) (Or.inr (by omega))) d_jdk_42_method_150_32 (by decide) (fun _ q => nomatch q) rfl (lenOf pd_10 rfl) (own_le rfl) (own_le rfl) (own_le rfl) (own_le rfl) rfl ?_
    intro T8 h8 v8 W8 z8 q8
    obtain ⟨sf8, X8, _, rfl, E8, d8, k8, rfl, y8, A8⟩ := q8
    show Fi p e below s Z _ _ _ _ T8 (mkF m 35 #[.val (.ref x), .val (.ref a), .val .null, .val (.ref b), .val (.int (Int32.ofNat cs.length))] [(.ref d8), (.ref x)])
    rw [hsub] at A8
    refine W8.putF me (hw _ (List.mem_of_getElem? (i := 24) rfl)) ((XV.other R5 (Or.inr hvc)).ext E8) Via.refl ((EX.wr R5).ext E8) (Or.inr ⟨(hw _ (List.mem_of_getElem? (i := 20) rfl)), rfl, rfl⟩) (hw _ (List.mem_of_getElem? (i := 5) rfl)) (ty := (.array .byte)) (by decide) rfl rfl (Or.inl hS) hz d_jdk_42_method_150_35 ?_
    intro T9 h9 W9 R9
    show Fi p e below s Z _ _ _ _ T9 (mkF m 38 #[.val (.ref x), .val (.ref a), .val .null, .val (.ref b), .val (.int (Int32.ofNat cs.length))] [])
    refine W9.goto me d_jdk_42_method_150_38 (pc' := 97) (by decide) (by decide) ?_
    show Fi p e below s Z _ _ _ _ T9 (mkF m 97 #[.val (.ref x), .val (.ref a), .val .null, .val (.ref b), .val (.int (Int32.ofNat cs.length))] [])
    have hs5 : h0.size = h5.size := R5.size.symm
    have hdx : d8 ≠ x := own_en (by omega)
    have K : Keep h0 h9 [x] := (((Keep.refl _ [x]).wr R5 (Or.inl (List.mem_singleton.mpr rfl))).ext E8).wr R9 (Or.inl (List.mem_singleton.mpr rfl))
    exact W9.retU hEL me d_jdk_42_method_150_97 ⟨K, d8, k8, ((EX.wr R5).ext E8).wr R9, ((XC.same R5).ext E8).other R9 (Or.inr hvc.symm), ((XV.other R5 (Or.inr hvc)).ext E8).same R9, A8.other R9 hdx, by omega, hC8⟩ (by decide) (by decide)

set_option maxRecDepth 65536 in
set_option maxHeartbeats 4000000 in
theorem c_init53 {l : Launch} {Z : State} {a0 : Array Value} {kn : Bool} (g : Gl Z a0) {ws : List Cond} {h0 : Heap} {ss : List Addr} (hO : Old Z Z.heap.size h0) {a b : Addr} {cs : List Int32} {cap : Nat} (M : Sbd Z h0 a b cs cap) {x : Addr} {vv vc : Value} (EX : Exa Z h0 x "java/lang/String") (XV : Fld Z h0 x "java/lang/String" "value" "[B" vv) (XC : Fld Z h0 x "java/lang/String" "coder" "B" vc) (hS : x ∈ ss) (hz : Z.heap.size ≤ x) (hle : cs.length ≤ 40) :
    Con l Z consts_1 kn ws (⟨"java/lang/String", "<init>", "(Ljava/lang/StringBuilder;)V"⟩ : MethodName) jdk_42_method_53_code 2 none ({ frames := 4, cells := 1, slots := 40, locals := 65 } : Room) #[(.ref x), (.ref a)] h0 ss (rU fun h => Keep h0 h [x] ∧ Lat Z h x cs) := by
  have hw := g.1
  have hEL := g.2.1
  refine Con.of (plainFor_of_name pn_1) hO ?_
  intro p e s m below meth c T0 me W0
  refine Fi.entry (L := #[.val (.ref x), .val (.ref a)]) (by first | (simp [entryFrame, mkF, argsToLocals, Value.category, maxLocals]; done) | (simp [entryFrame, mkF, argsToLocals, Value.category]; done) | rfl) ?_
  refine W0.aloadN me d_jdk_42_method_53_0 rfl rfl ?_
  refine W0.aloadN me d_jdk_42_method_53_1 rfl rfl ?_
  refine W0.aconstNull me d_jdk_42_method_53_2 ?_
  show Fi p e below s Z _ _ _ _ T0 (mkF m 3 #[.val (.ref x), .val (.ref a)] [.null, (.ref a), (.ref x)])
  refine W0.callI me hEL (hw _ (List.mem_of_getElem? (i := 136) rfl)) (hw _ (List.mem_of_getElem? (i := 137) rfl)) (hw _ (List.mem_of_getElem? (i := 6) rfl)) (hw _ (List.mem_of_getElem? (i := 138) rfl)) rfl (a := x) (argsL := [(.ref a), .null]) (rest := []) (c_init150 g W0.old M EX XV XC hS hz hle) d_jdk_42_method_53_3 (by decide) (fun _ q => q) rfl (lenOf pd_21 rfl) (own_le rfl) (own_le rfl) (own_le rfl) (own_le rfl) rfl ?_
  intro T1 h1 v1 W1 z1 q1
  obtain ⟨sf1, X1, rfl, K1, L1⟩ := q1
  show Fi p e below s Z _ _ _ _ T1 (mkF m 6 #[.val (.ref x), .val (.ref a)] [])
  exact W1.retU hEL me d_jdk_42_method_53_6 ⟨K1, L1⟩ (by decide) (by decide)

set_option maxRecDepth 65536 in
set_option maxHeartbeats 4000000 in
theorem c_tostr {l : Launch} {Z : State} {a0 : Array Value} {kn : Bool} (g : Gl Z a0) {ws : List Cond} {h0 : Heap} {ss : List Addr} (hO : Old Z Z.heap.size h0) {a b : Addr} {cs : List Int32} {cap : Nat} (M : Sbd Z h0 a b cs cap) (hle : cs.length ≤ 40) :
    Con l Z consts_1 kn ws (⟨"java/lang/StringBuilder", "toString", "()Ljava/lang/String;"⟩ : MethodName) jdk_67_method_42_code 1 (some (.object "java/lang/String")) ({ frames := 5, cells := 2, slots := 44, locals := 79 } : Room) #[(.ref a)] h0 ss (rV fun v h => Ext h0 h ∧ ∃ d, v = .ref d ∧ Lat Z h d cs) := by
  have hw := g.1
  have hEL := g.2.1
  refine Con.of (plainFor_of_name pn_7) hO ?_
  intro p e s m below meth c T0 me W0
  refine Fi.entry (L := #[.val (.ref a)]) (by first | (simp [entryFrame, mkF, argsToLocals, Value.category, maxLocals]; done) | (simp [entryFrame, mkF, argsToLocals, Value.category]; done) | rfl) ?_
  refine W0.newO me (hw _ (List.mem_of_getElem? (i := 132) rfl)) (hw _ (List.mem_of_getElem? (i := 5) rfl)) (hw _ (List.mem_of_getElem? (i := 6) rfl)) d_jdk_67_method_42_0 (own_le rfl) (own_le rfl) ?_
  intro T1 h1 a1 g1 W1 E1 A1 D1 U1
  show Fi p e below s Z _ _ _ _ T1 (mkF m 3 #[.val (.ref a)] [(.ref a1)])
  refine W1.dup me d_jdk_67_method_42_3 rfl ?_
  refine W1.aloadN me d_jdk_67_method_42_4 rfl rfl ?_
  show Fi p e below s Z _ _ _ _ T1 (mkF m 5 #[.val (.ref a)] [(.ref a), (.ref a1), (.ref a1)])
  refine W1.callI me hEL (hw _ (List.mem_of_getElem? (i := 133) rfl)) (hw _ (List.mem_of_getElem? (i := 134) rfl)) (hw _ (List.mem_of_getElem? (i := 6) rfl)) (hw _ (List.mem_of_getElem? (i := 135) rfl)) rfl (a := a1) (argsL := [(.ref a)]) (rest := [(.ref a1)]) (c_init53 g W1.old (M.ext E1) A1 (D1 (Or.inr (hw _ (List.mem_of_getElem? (i := 20) rfl))) (ty := .array .byte) (by decide)) (D1 (Or.inr (hw _ (List.mem_of_getElem? (i := 21) rfl))) (ty := .byte) (by decide)) (List.mem_cons_self ..) (by have := hO.2.1; omega) hle) d_jdk_67_method_42_5 (by decide) (fun _ q => q) rfl (lenOf pd_22 rfl) (own_le rfl) (own_le rfl) (own_le rfl) (own_le rfl) rfl ?_
  intro T2 h2 v2 W2 z2 q2
  obtain ⟨sf2, X2, rfl, K2, L2⟩ := q2
  show Fi p e below s Z _ _ _ _ T2 (mkF m 8 #[.val (.ref a)] [(.ref a1)])
  exact W2.retA hEL me d_jdk_67_method_42_8 ⟨own_xk E1 K2 (allS (by omega) all0), a1, rfl, L2⟩ (by decide) (by decide) rfl rfl rfl

set_option maxRecDepth 65536 in
set_option maxHeartbeats 4000000 in
theorem c_mk {l : Launch} {Z : State} {a0 : Array Value} {kn : Bool} (g : Gl Z a0) {ws : List Cond} {h0 : Heap} {ss : List Addr} (hO : Old Z Z.heap.size h0) {n : Nat} {c0 c1 : Int32} (hn : n ≤ 2) (q0 : ¬ c0 < 0 ∧ ¬ (255 : Int32) < c0) (q1 : ¬ c1 < 0 ∧ ¬ (255 : Int32) < c1) :
    Con l Z consts_1 kn ws (⟨"com/example/cadi/cadi/OriginSaysPinLaw", "mk", "(ICC)Ljava/lang/String;"⟩ : MethodName) method_2_code 3 (some (.object "java/lang/String")) ({ frames := 4, cells := 6, slots := 14, locals := 66 } : Room) #[(.int (Int32.ofNat n)), (.int c0), (.int c1)] h0 ss (rV fun v h => Ext h0 h ∧ ∃ a, v = .ref a ∧ Lat Z h a (sub [c0, c1] 0 n)) := by
  have hw := g.1
  have hEL := g.2.1
  refine Con.of (plainFor_of_name pn_9) hO ?_
  intro p e s m below meth c T0 me W0
  refine Fi.entry (L := #[.val (.int (Int32.ofNat n)), .val (.int c0), .val (.int c1)]) (by first | (simp [entryFrame, mkF, argsToLocals, Value.category, maxLocals]; done) | (simp [entryFrame, mkF, argsToLocals, Value.category]; done) | rfl) ?_
  rcases own_012 hn with rfl | rfl | rfl
  ·
    show Fi p e below s Z _ _ _ _ T0 (mkF m 0 #[.val (.int (0 : Int32)), .val (.int c0), .val (.int c1)] [])
    refine W0.iloadN me d_method_2_0 rfl ?_
    show Fi p e below s Z _ _ _ _ T0 (mkF m 1 #[.val (.int (0 : Int32)), .val (.int c0), .val (.int c1)] [(.int (0 : Int32))])
    refine W0.ifN_ne me d_method_2_1 (by decide) ?_
    show Fi p e below s Z _ _ _ _ T0 (mkF m 4 #[.val (.int (0 : Int32)), .val (.int c0), .val (.int c1)] [])
    show Fi p e below s Z _ _ _ _ T0 (mkF m 4 #[.val (.int (0 : Int32)), .val (.int c0), .val (.int c1)] [])
    refine W0.newO me (hw _ (List.mem_of_getElem? (i := 4) rfl)) (hw _ (List.mem_of_getElem? (i := 5) rfl)) (hw _ (List.mem_of_getElem? (i := 6) rfl)) d_method_2_4 (own_le rfl) (own_le rfl) ?_
    intro T1 h1 a1 g1 W1 E1 A1 D1 U1
    show Fi p e below s Z _ _ _ _ T1 (mkF m 7 #[.val (.int (0 : Int32)), .val (.int c0), .val (.int c1)] [(.ref a1)])
    refine W1.dup me d_method_2_7 rfl ?_
    refine W1.iconst me d_method_2_8 (v := 0) rfl ?_
    show Fi p e below s Z _ _ _ _ T1 (mkF m 9 #[.val (.int (0 : Int32)), .val (.int c0), .val (.int c1)] [(.int (0 : Int32)), (.ref a1), (.ref a1)])
    have hz1 : Z.heap.size ≤ a1 := by have := W0.old.2.1; omega
    refine W1.newA me (hw _ (List.mem_of_getElem? (i := 7) rfl)) d_method_2_9 (by decide) (cap := 0) (by decide) (own_le rfl) (own_le rfl) (own_le rfl) ?_
    intro T2 h2 a2 k2 g2 W2 E2 A2
    show Fi p e below s Z _ _ _ _ T2 (mkF m 11 #[.val (.int (0 : Int32)), .val (.int c0), .val (.int c1)] [(.ref a2), (.ref a1), (.ref a1)])
    have hz2 : Z.heap.size ≤ a2 := by have := W0.old.2.1; have := E1.1; omega
    show Fi p e below s Z _ _ _ _ T2 (mkF m 11 #[.val (.int (0 : Int32)), .val (.int c0), .val (.int c1)] [(.ref a2), (.ref a1), (.ref a1)])
    refine W2.callI me hEL (hw _ (List.mem_of_getElem? (i := 8) rfl)) (hw _ (List.mem_of_getElem? (i := 9) rfl)) (hw _ (List.mem_of_getElem? (i := 6) rfl)) (hw _ (List.mem_of_getElem? (i := 10) rfl)) rfl (a := a1) (argsL := [(.ref a2)]) (rest := [(.ref a1)]) (c_init3 g W2.old (cs := []) (A1.ext E2) ((D1 (Or.inr (hw _ (List.mem_of_getElem? (i := 20) rfl))) (ty := .array .byte) (by decide)).ext E2) ((D1 (Or.inr (hw _ (List.mem_of_getElem? (i := 21) rfl))) (ty := .byte) (by decide)).ext E2) A2 (List.mem_cons_of_mem _ (List.mem_cons_self ..)) hz1 C8.nil (own_le rfl)) d_method_2_11 (by decide) (fun _ q => q) rfl (lenOf pd_23 rfl) (own_le rfl) (own_le rfl) (own_le rfl) (own_le rfl) rfl ?_
    intro T3 h3 v3 W3 z3 q3
    obtain ⟨sf3, X3, rfl, K3, L3⟩ := q3
    show Fi p e below s Z _ _ _ _ T3 (mkF m 14 #[.val (.int (0 : Int32)), .val (.int c0), .val (.int c1)] [(.ref a1)])
    have F3 := own_xk (own_xt E1 E2) K3 (allS (by omega) all0)
    exact W3.retA hEL me d_method_2_14 ⟨F3, a1, rfl, L3⟩ (by decide) (by decide) rfl rfl rfl
  ·
    show Fi p e below s Z _ _ _ _ T0 (mkF m 0 #[.val (.int (1 : Int32)), .val (.int c0), .val (.int c1)] [])
    refine W0.iloadN me d_method_2_0 rfl ?_
    show Fi p e below s Z _ _ _ _ T0 (mkF m 1 #[.val (.int (1 : Int32)), .val (.int c0), .val (.int c1)] [(.int (1 : Int32))])
    refine W0.ifY_ne me d_method_2_1 (by decide) (pc' := 15) (by decide) (by decide) ?_
    show Fi p e below s Z _ _ _ _ T0 (mkF m 15 #[.val (.int (1 : Int32)), .val (.int c0), .val (.int c1)] [])
    refine W0.iloadN me d_method_2_15 rfl ?_
    refine W0.iconst me d_method_2_16 (v := 1) rfl ?_
    show Fi p e below s Z _ _ _ _ T0 (mkF m 17 #[.val (.int (1 : Int32)), .val (.int c0), .val (.int c1)] [(.int (1 : Int32)), (.int (1 : Int32))])
    refine W0.icN_ne me d_method_2_17 (by decide) ?_
    show Fi p e below s Z _ _ _ _ T0 (mkF m 20 #[.val (.int (1 : Int32)), .val (.int c0), .val (.int c1)] [])
    show Fi p e below s Z _ _ _ _ T0 (mkF m 20 #[.val (.int (1 : Int32)), .val (.int c0), .val (.int c1)] [])
    refine W0.newO me (hw _ (List.mem_of_getElem? (i := 4) rfl)) (hw _ (List.mem_of_getElem? (i := 5) rfl)) (hw _ (List.mem_of_getElem? (i := 6) rfl)) d_method_2_20 (own_le rfl) (own_le rfl) ?_
    intro T4 h4 a4 g4 W4 E4 A4 D4 U4
    show Fi p e below s Z _ _ _ _ T4 (mkF m 23 #[.val (.int (1 : Int32)), .val (.int c0), .val (.int c1)] [(.ref a4)])
    refine W4.dup me d_method_2_23 rfl ?_
    refine W4.iconst me d_method_2_24 (v := 1) rfl ?_
    show Fi p e below s Z _ _ _ _ T4 (mkF m 25 #[.val (.int (1 : Int32)), .val (.int c0), .val (.int c1)] [(.int (1 : Int32)), (.ref a4), (.ref a4)])
    have hz4 : Z.heap.size ≤ a4 := by have := W0.old.2.1; omega
    refine W4.newA me (hw _ (List.mem_of_getElem? (i := 7) rfl)) d_method_2_25 (by decide) (cap := 1) (by decide) (own_le rfl) (own_le rfl) (own_le rfl) ?_
    intro T5 h5 a5 k5 g5 W5 E5 A5
    show Fi p e below s Z _ _ _ _ T5 (mkF m 27 #[.val (.int (1 : Int32)), .val (.int c0), .val (.int c1)] [(.ref a5), (.ref a4), (.ref a4)])
    have hz5 : Z.heap.size ≤ a5 := by have := W0.old.2.1; have := E4.1; omega
    refine W5.dup me d_method_2_27 rfl ?_
    refine W5.iconst me d_method_2_28 (v := 0) rfl ?_
    refine W5.iloadN me d_method_2_29 rfl ?_
    show Fi p e below s Z _ _ _ _ T5 (mkF m 30 #[.val (.int (1 : Int32)), .val (.int c0), .val (.int c1)] [(.int c0), (.int (0 : Int32)), (.ref a5), (.ref a5), (.ref a4), (.ref a4)])
    refine W5.castoreP me A5 (up16 q0) d_method_2_30 (i := 0) rfl (by decide) (by decide) hz5 ?_
    intro T6 h6 W6 R6 A6
    show Fi p e below s Z _ _ _ _ T6 (mkF m 31 #[.val (.int (1 : Int32)), .val (.int c0), .val (.int c1)] [(.ref a5), (.ref a4), (.ref a4)])
    have E6 := own_xw E5 (by omega) R6
    show Fi p e below s Z _ _ _ _ T6 (mkF m 31 #[.val (.int (1 : Int32)), .val (.int c0), .val (.int c1)] [(.ref a5), (.ref a4), (.ref a4)])
    refine W6.callI me hEL (hw _ (List.mem_of_getElem? (i := 8) rfl)) (hw _ (List.mem_of_getElem? (i := 9) rfl)) (hw _ (List.mem_of_getElem? (i := 6) rfl)) (hw _ (List.mem_of_getElem? (i := 10) rfl)) rfl (a := a4) (argsL := [(.ref a5)]) (rest := [(.ref a4)]) (c_init3 g W6.old (cs := [c0]) (A4.ext E6) ((D4 (Or.inr (hw _ (List.mem_of_getElem? (i := 20) rfl))) (ty := .array .byte) (by decide)).ext E6) ((D4 (Or.inr (hw _ (List.mem_of_getElem? (i := 21) rfl))) (ty := .byte) (by decide)).ext E6) A6 (List.mem_cons_of_mem _ (List.mem_cons_self ..)) hz4 (C8.cons q0 C8.nil) (own_le rfl)) d_method_2_31 (by decide) (fun _ q => q) rfl (lenOf pd_23 rfl) (own_le rfl) (own_le rfl) (own_le rfl) (own_le rfl) rfl ?_
    intro T7 h7 v7 W7 z7 q7
    obtain ⟨sf7, X7, rfl, K7, L7⟩ := q7
    show Fi p e below s Z _ _ _ _ T7 (mkF m 34 #[.val (.int (1 : Int32)), .val (.int c0), .val (.int c1)] [(.ref a4)])
    have F7 := own_xk (own_xt E4 E6) K7 (allS (by omega) all0)
    exact W7.retA hEL me d_method_2_34 ⟨F7, a4, rfl, L7⟩ (by decide) (by decide) rfl rfl rfl
  ·
    show Fi p e below s Z _ _ _ _ T0 (mkF m 0 #[.val (.int (2 : Int32)), .val (.int c0), .val (.int c1)] [])
    refine W0.iloadN me d_method_2_0 rfl ?_
    show Fi p e below s Z _ _ _ _ T0 (mkF m 1 #[.val (.int (2 : Int32)), .val (.int c0), .val (.int c1)] [(.int (2 : Int32))])
    refine W0.ifY_ne me d_method_2_1 (by decide) (pc' := 15) (by decide) (by decide) ?_
    show Fi p e below s Z _ _ _ _ T0 (mkF m 15 #[.val (.int (2 : Int32)), .val (.int c0), .val (.int c1)] [])
    refine W0.iloadN me d_method_2_15 rfl ?_
    refine W0.iconst me d_method_2_16 (v := 1) rfl ?_
    show Fi p e below s Z _ _ _ _ T0 (mkF m 17 #[.val (.int (2 : Int32)), .val (.int c0), .val (.int c1)] [(.int (1 : Int32)), (.int (2 : Int32))])
    refine W0.icY_ne me d_method_2_17 (by decide) (pc' := 35) (by decide) (by decide) ?_
    show Fi p e below s Z _ _ _ _ T0 (mkF m 35 #[.val (.int (2 : Int32)), .val (.int c0), .val (.int c1)] [])
    show Fi p e below s Z _ _ _ _ T0 (mkF m 35 #[.val (.int (2 : Int32)), .val (.int c0), .val (.int c1)] [])
    refine W0.newO me (hw _ (List.mem_of_getElem? (i := 4) rfl)) (hw _ (List.mem_of_getElem? (i := 5) rfl)) (hw _ (List.mem_of_getElem? (i := 6) rfl)) d_method_2_35 (own_le rfl) (own_le rfl) ?_
    intro T8 h8 a8 g8 W8 E8 A8 D8 U8
    show Fi p e below s Z _ _ _ _ T8 (mkF m 38 #[.val (.int (2 : Int32)), .val (.int c0), .val (.int c1)] [(.ref a8)])
    refine W8.dup me d_method_2_38 rfl ?_
    refine W8.iconst me d_method_2_39 (v := 2) rfl ?_
    show Fi p e below s Z _ _ _ _ T8 (mkF m 40 #[.val (.int (2 : Int32)), .val (.int c0), .val (.int c1)] [(.int (2 : Int32)), (.ref a8), (.ref a8)])
    have hz8 : Z.heap.size ≤ a8 := by have := W0.old.2.1; omega
    refine W8.newA me (hw _ (List.mem_of_getElem? (i := 7) rfl)) d_method_2_40 (by decide) (cap := 2) (by decide) (own_le rfl) (own_le rfl) (own_le rfl) ?_
    intro T9 h9 a9 k9 g9 W9 E9 A9
    show Fi p e below s Z _ _ _ _ T9 (mkF m 42 #[.val (.int (2 : Int32)), .val (.int c0), .val (.int c1)] [(.ref a9), (.ref a8), (.ref a8)])
    have hz9 : Z.heap.size ≤ a9 := by have := W0.old.2.1; have := E8.1; omega
    refine W9.dup me d_method_2_42 rfl ?_
    refine W9.iconst me d_method_2_43 (v := 0) rfl ?_
    refine W9.iloadN me d_method_2_44 rfl ?_
    show Fi p e below s Z _ _ _ _ T9 (mkF m 45 #[.val (.int (2 : Int32)), .val (.int c0), .val (.int c1)] [(.int c0), (.int (0 : Int32)), (.ref a9), (.ref a9), (.ref a8), (.ref a8)])
    refine W9.castoreP me A9 (up16 q0) d_method_2_45 (i := 0) rfl (by decide) (by decide) hz9 ?_
    intro T10 h10 W10 R10 A10
    show Fi p e below s Z _ _ _ _ T10 (mkF m 46 #[.val (.int (2 : Int32)), .val (.int c0), .val (.int c1)] [(.ref a9), (.ref a8), (.ref a8)])
    have E10 := own_xw E9 (by omega) R10
    refine W10.dup me d_method_2_46 rfl ?_
    refine W10.iconst me d_method_2_47 (v := 1) rfl ?_
    refine W10.iloadN me d_method_2_48 rfl ?_
    show Fi p e below s Z _ _ _ _ T10 (mkF m 49 #[.val (.int (2 : Int32)), .val (.int c0), .val (.int c1)] [(.int c1), (.int (1 : Int32)), (.ref a9), (.ref a9), (.ref a8), (.ref a8)])
    refine W10.castoreP me A10 (up16 q1) d_method_2_49 (i := 1) rfl (by decide) (by decide) hz9 ?_
    intro T11 h11 W11 R11 A11
    show Fi p e below s Z _ _ _ _ T11 (mkF m 50 #[.val (.int (2 : Int32)), .val (.int c0), .val (.int c1)] [(.ref a9), (.ref a8), (.ref a8)])
    have E11 := own_xw E10 (by omega) R11
    show Fi p e below s Z _ _ _ _ T11 (mkF m 50 #[.val (.int (2 : Int32)), .val (.int c0), .val (.int c1)] [(.ref a9), (.ref a8), (.ref a8)])
    refine W11.callI me hEL (hw _ (List.mem_of_getElem? (i := 8) rfl)) (hw _ (List.mem_of_getElem? (i := 9) rfl)) (hw _ (List.mem_of_getElem? (i := 6) rfl)) (hw _ (List.mem_of_getElem? (i := 10) rfl)) rfl (a := a8) (argsL := [(.ref a9)]) (rest := [(.ref a8)]) (c_init3 g W11.old (cs := [c0, c1]) (A8.ext E11) ((D8 (Or.inr (hw _ (List.mem_of_getElem? (i := 20) rfl))) (ty := .array .byte) (by decide)).ext E11) ((D8 (Or.inr (hw _ (List.mem_of_getElem? (i := 21) rfl))) (ty := .byte) (by decide)).ext E11) A11 (List.mem_cons_of_mem _ (List.mem_cons_self ..)) hz8 (C8.cons q0 (C8.cons q1 C8.nil)) (own_le rfl)) d_method_2_50 (by decide) (fun _ q => q) rfl (lenOf pd_23 rfl) (own_le rfl) (own_le rfl) (own_le rfl) (own_le rfl) rfl ?_
    intro T12 h12 v12 W12 z12 q12
    obtain ⟨sf12, X12, rfl, K12, L12⟩ := q12
    show Fi p e below s Z _ _ _ _ T12 (mkF m 53 #[.val (.int (2 : Int32)), .val (.int c0), .val (.int c1)] [(.ref a8)])
    have F12 := own_xk (own_xt E8 E11) K12 (allS (by omega) all0)
    exact W12.retA hEL me d_method_2_53 ⟨F12, a8, rfl, L12⟩ (by decide) (by decide) rfl rfl rfl

set_option maxRecDepth 65536 in
set_option maxHeartbeats 4000000 in
theorem c_rec {l : Launch} {Z : State} {a0 : Array Value} {kn : Bool} (g : Gl Z a0) {ws : List Cond} {h0 : Heap} {ss : List Addr} (hO : Old Z Z.heap.size h0) {x : Addr} :
    Con l Z consts_1 kn ws (⟨"java/lang/Record", "<init>", "()V"⟩ : MethodName) jdk_30_method_1_code 1 none ({ frames := 1, cells := 0, slots := 0, locals := 12 } : Room) #[(.ref x)] h0 ss (rU fun h => h0 = h) := by
  have hw := g.1
  have hEL := g.2.1
  refine Con.of (plainFor_of_name pn_10) hO ?_
  intro p e s m below meth c T0 me W0
  refine Fi.entry (L := #[.val (.ref x)]) (by first | (simp [entryFrame, mkF, argsToLocals, Value.category, maxLocals]; done) | (simp [entryFrame, mkF, argsToLocals, Value.category]; done) | rfl) ?_
  refine W0.aloadN me d_jdk_30_method_1_0 rfl rfl ?_
  show Fi p e below s Z _ _ _ _ T0 (mkF m 1 #[.val (.ref x)] [(.ref x)])
  refine W0.initO me (hw _ (List.mem_of_getElem? (i := 37) rfl)) (hw _ (List.mem_of_getElem? (i := 16) rfl)) (hw _ (List.mem_of_getElem? (i := 17) rfl)) d_jdk_30_method_1_1 rfl (own_le rfl) (own_le rfl) ?_
  intro T1 W1
  show Fi p e below s Z _ _ _ _ T1 (mkF m 4 #[.val (.ref x)] [])
  exact W1.retU hEL me d_jdk_30_method_1_4 rfl (by decide) (by decide)

set_option maxRecDepth 65536 in
set_option maxHeartbeats 4000000 in
theorem c_orig {l : Launch} {Z : State} {a0 : Array Value} {kn : Bool} (g : Gl Z a0) {ws : List Cond} {h0 : Heap} {ss : List Addr} (hO : Old Z Z.heap.size h0) {x u : Addr} {vv : Value} (EX : Exa Z h0 x "com/example/cadi/cadi/Origin") (FP : Fld Z h0 x "com/example/cadi/cadi/Origin" "place" "Ljava/lang/String;" vv) (hz : Z.heap.size ≤ x) :
    Con l Z consts_1 kn ws (⟨"com/example/cadi/cadi/Origin", "<init>", "(Ljava/lang/String;)V"⟩ : MethodName) prog_34_method_1_code 2 none ({ frames := 2, cells := 0, slots := 0, locals := 24 } : Room) #[(.ref x), (.ref u)] h0 ss (rU fun h => Keep h0 h [x] ∧ Exa Z h x "com/example/cadi/cadi/Origin" ∧ Fld Z h x "com/example/cadi/cadi/Origin" "place" "Ljava/lang/String;" (.ref u)) := by
  have hw := g.1
  have hEL := g.2.1
  refine Con.of (plainFor_of_name pn_11) hO ?_
  intro p e s m below meth c T0 me W0
  refine Fi.entry (L := #[.val (.ref x), .val (.ref u)]) (by first | (simp [entryFrame, mkF, argsToLocals, Value.category, maxLocals]; done) | (simp [entryFrame, mkF, argsToLocals, Value.category]; done) | rfl) ?_
  refine W0.aloadN me d_prog_34_method_1_0 rfl rfl ?_
  show Fi p e below s Z _ _ _ _ T0 (mkF m 1 #[.val (.ref x), .val (.ref u)] [(.ref x)])
  refine W0.callI me hEL (hw _ (List.mem_of_getElem? (i := 32) rfl)) (hw _ (List.mem_of_getElem? (i := 33) rfl)) (hw _ (List.mem_of_getElem? (i := 35) rfl)) (hw _ (List.mem_of_getElem? (i := 36) rfl)) rfl (a := x) (argsL := []) (rest := []) (c_rec (ss := []) g W0.old) d_prog_34_method_1_1 (by decide) (fun _ q => nomatch q) rfl (lenOf pd_24 rfl) (own_le rfl) (own_le rfl) (own_le rfl) (own_le rfl) rfl ?_
  intro T1 h1 v1 W1 z1 q1
  obtain ⟨sf1, X1, rfl, rfl⟩ := q1
  show Fi p e below s Z _ _ _ _ T1 (mkF m 4 #[.val (.ref x), .val (.ref u)] [])
  refine W1.aloadN me d_prog_34_method_1_4 rfl rfl ?_
  refine W1.aloadN me d_prog_34_method_1_5 rfl rfl ?_
  show Fi p e below s Z _ _ _ _ T1 (mkF m 6 #[.val (.ref x), .val (.ref u)] [(.ref u), (.ref x)])
  refine W1.putF me (hw _ (List.mem_of_getElem? (i := 38) rfl)) FP Via.refl EX (Or.inr ⟨(hw _ (List.mem_of_getElem? (i := 39) rfl)), rfl, rfl⟩) (hw _ (List.mem_of_getElem? (i := 27) rfl)) (ty := (.object "java/lang/String")) (by decide) rfl rfl (Or.inr (Or.inl ⟨"com/example/cadi/cadi/Origin", EX, by decide, by decide⟩)) hz d_prog_34_method_1_6 ?_
  intro T2 h2 W2 R2
  show Fi p e below s Z _ _ _ _ T2 (mkF m 9 #[.val (.ref x), .val (.ref u)] [])
  exact W2.retU hEL me d_prog_34_method_1_9 ⟨Keep.of_wr R2, EX.wr R2, FP.same R2⟩ (by decide) (by decide)

set_option maxRecDepth 65536 in
set_option maxHeartbeats 4000000 in
theorem c_otos {l : Launch} {Z : State} {a0 : Array Value} {kn : Bool} (g : Gl Z a0) {ws : List Cond} {h0 : Heap} {ss : List Addr} (hO : Old Z Z.heap.size h0) {x u : Addr} (FP : Fld Z h0 x "com/example/cadi/cadi/Origin" "place" "Ljava/lang/String;" (.ref u)) :
    Con l Z consts_1 kn ws (⟨"com/example/cadi/cadi/Origin", "toString", "()Ljava/lang/String;"⟩ : MethodName) prog_34_method_8_code 1 (some (.object "java/lang/String")) ({ frames := 0, cells := 0, slots := 0, locals := 0 } : Room) #[(.ref x)] h0 ss (rV fun v h => h0 = h ∧ v = .ref u) := by
  have hw := g.1
  have hEL := g.2.1
  refine Con.of (plainFor_of_name pn_11) hO ?_
  intro p e s m below meth c T0 me W0
  refine Fi.entry (L := #[.val (.ref x)]) (by first | (simp [entryFrame, mkF, argsToLocals, Value.category, maxLocals]; done) | (simp [entryFrame, mkF, argsToLocals, Value.category]; done) | rfl) ?_
  refine W0.aloadN me d_prog_34_method_8_0 rfl rfl ?_
  show Fi p e below s Z _ _ _ _ T0 (mkF m 1 #[.val (.ref x)] [(.ref x)])
  refine W0.getF me (hw _ (List.mem_of_getElem? (i := 38) rfl)) FP Via.refl d_prog_34_method_8_1 ?_
  intro T1 W1
  show Fi p e below s Z _ _ _ _ T1 (mkF m 4 #[.val (.ref x)] [(.ref u)])
  exact W1.retA hEL me d_prog_34_method_8_4 ⟨rfl, rfl⟩ (by decide) (by decide) rfl rfl rfl

set_option maxRecDepth 65536 in
set_option maxHeartbeats 4000000 in
theorem c_vobj {l : Launch} {Z : State} {a0 : Array Value} {kn : Bool} (g : Gl Z a0) {ws : List Cond} {h0 : Heap} {ss : List Addr} (hO : Old Z Z.heap.size h0) {x u : Addr} (EX : Exa Z h0 x "com/example/cadi/cadi/Origin") (FP : Fld Z h0 x "com/example/cadi/cadi/Origin" "place" "Ljava/lang/String;" (.ref u)) :
    Con l Z consts_1 kn ws (⟨"java/lang/String", "valueOf", "(Ljava/lang/Object;)Ljava/lang/String;"⟩ : MethodName) jdk_42_method_133_code 1 (some (.object "java/lang/String")) ({ frames := 1, cells := 0, slots := 0, locals := 12 } : Room) #[(.ref x)] h0 ss (rV fun v h => h0 = h ∧ v = .ref u) := by
  have hw := g.1
  have hEL := g.2.1
  refine Con.of (plainFor_of_name pn_1) hO ?_
  intro p e s m below meth c T0 me W0
  refine Fi.entry (L := #[.val (.ref x)]) (by first | (simp [entryFrame, mkF, argsToLocals, Value.category, maxLocals]; done) | (simp [entryFrame, mkF, argsToLocals, Value.category]; done) | rfl) ?_
  refine W0.aloadN me d_jdk_42_method_133_0 rfl rfl ?_
  show Fi p e below s Z _ _ _ _ T0 (mkF m 1 #[.val (.ref x)] [(.ref x)])
  refine W0.nonnullY me d_jdk_42_method_133_1 (pc' := 10) (by decide) (by decide) ?_
  show Fi p e below s Z _ _ _ _ T0 (mkF m 10 #[.val (.ref x)] [])
  refine W0.aloadN me d_jdk_42_method_133_10 rfl rfl ?_
  show Fi p e below s Z _ _ _ _ T0 (mkF m 11 #[.val (.ref x)] [(.ref x)])
  refine W0.callV me hEL (hw _ (List.mem_of_getElem? (i := 71) rfl)) (hw _ (List.mem_of_getElem? (i := 72) rfl)) (fun hZ' => nf_of_sel (y' := ⟨"java/lang/Object", "toString", "()Ljava/lang/String;"⟩) (hw _ (List.mem_of_getElem? (i := 214) rfl)) rfl hZ') (hw _ (List.mem_of_getElem? (i := 74) rfl)) (hw _ (List.mem_of_getElem? (i := 75) rfl)) (hw _ (List.mem_of_getElem? (i := 28) rfl)) (hw _ (List.mem_of_getElem? (i := 76) rfl)) (a := x) (argsL := []) (rest := []) EX (c_otos (ss := []) g W0.old FP) d_jdk_42_method_133_11 (by decide) (fun _ q => nomatch q) rfl (lenOf pd_25 rfl) (own_le rfl) (own_le rfl) (own_le rfl) (own_le rfl) rfl ?_
  intro T1 h1 v1 W1 z1 q1
  obtain ⟨sf1, X1, _, rfl, rfl, rfl⟩ := q1
  show Fi p e below s Z _ _ _ _ T1 (mkF m 14 #[.val (.ref x)] [(.ref u)])
  exact W1.retA hEL me d_jdk_42_method_133_14 ⟨rfl, rfl⟩ (by decide) (by decide) rfl rfl rfl

set_option maxRecDepth 65536 in
set_option maxHeartbeats 4000000 in
theorem c_appo {l : Launch} {Z : State} {a0 : Array Value} {kn : Bool} (g : Gl Z a0) {ws : List Cond} {h0 : Heap} {ss : List Addr} (hO : Old Z Z.heap.size h0) {a b : Addr} {cs : List Int32} {cap : Nat} (M : Sbd Z h0 a b cs cap) {x u vb : Addr} {ds : List Int32} (EX : Exa Z h0 x "com/example/cadi/cadi/Origin") (FP : Fld Z h0 x "com/example/cadi/cadi/Origin" "place" "Ljava/lang/String;" (.ref u)) (L : LatB Z h0 u vb ds) (hfit : cs.length + ds.length ≤ cap) (hS : b ∈ ss) (hza : Z.heap.size ≤ a) (hzb : Z.heap.size ≤ b) :
    Con l Z consts_1 kn ws (⟨"java/lang/StringBuilder", "append", "(Ljava/lang/Object;)Ljava/lang/StringBuilder;"⟩ : MethodName) jdk_67_method_6_code 2 (some (.object "java/lang/StringBuilder")) ({ frames := 5, cells := 0, slots := 0, locals := 74 } : Room) #[(.ref a), (.ref x)] h0 ss (rV fun v h => Keep h0 h [a, b] ∧ v = .ref a ∧ Sbd Z h a b (cs ++ ds) cap) := by
  have hw := g.1
  have hEL := g.2.1
  refine Con.of (plainFor_of_name pn_7) hO ?_
  intro p e s m below meth c T0 me W0
  refine Fi.entry (L := #[.val (.ref a), .val (.ref x)]) (by first | (simp [entryFrame, mkF, argsToLocals, Value.category, maxLocals]; done) | (simp [entryFrame, mkF, argsToLocals, Value.category]; done) | rfl) ?_
  refine W0.aloadN me d_jdk_67_method_6_0 rfl rfl ?_
  refine W0.aloadN me d_jdk_67_method_6_1 rfl rfl ?_
  show Fi p e below s Z _ _ _ _ T0 (mkF m 2 #[.val (.ref a), .val (.ref x)] [(.ref x), (.ref a)])
  refine W0.callS me hEL (hw _ (List.mem_of_getElem? (i := 68) rfl)) (hw _ (List.mem_of_getElem? (i := 69) rfl)) (hw _ (List.mem_of_getElem? (i := 6) rfl)) (hw _ (List.mem_of_getElem? (i := 70) rfl)) (argsL := [(.ref x)]) (rest := [(.ref a)]) (c_vobj (ss := []) g W0.old EX FP) d_jdk_67_method_6_2 (by decide) (fun _ q => nomatch q) rfl (lenOf pd_26 rfl) (own_le rfl) (own_le rfl) (own_le rfl) (own_le rfl) rfl ?_
  intro T1 h1 v1 W1 z1 q1
  obtain ⟨sf1, X1, _, rfl, rfl, rfl⟩ := q1
  show Fi p e below s Z _ _ _ _ T1 (mkF m 5 #[.val (.ref a), .val (.ref x)] [(.ref u), (.ref a)])
  refine W1.callV me hEL (hw _ (List.mem_of_getElem? (i := 77) rfl)) (hw _ (List.mem_of_getElem? (i := 78) rfl)) (fun hZ' => notFace_of_selects (args := #[]) (mvT (s := s.setVm _) hZ' (hw _ (List.mem_of_getElem? (i := 80) rfl)))) (hw _ (List.mem_of_getElem? (i := 80) rfl)) (hw _ (List.mem_of_getElem? (i := 79) rfl)) (hw _ (List.mem_of_getElem? (i := 47) rfl)) (hw _ (List.mem_of_getElem? (i := 81) rfl)) (a := a) (argsL := [(.ref u)]) (rest := []) M.exa (c_app0 g W1.old M L hfit hS hza hzb) d_jdk_67_method_6_5 (by decide) (fun _ q => q) rfl (lenOf pd_27 rfl) (own_le rfl) (own_le rfl) (own_le rfl) (own_le rfl) rfl ?_
  intro T2 h2 v2 W2 z2 q2
  obtain ⟨sf2, X2, _, rfl, K2, rfl, M2⟩ := q2
  show Fi p e below s Z _ _ _ _ T2 (mkF m 8 #[.val (.ref a), .val (.ref x)] [(.ref a)])
  exact W2.retA hEL me d_jdk_67_method_6_8 ⟨K2, rfl, M2⟩ (by decide) (by decide) rfl rfl rfl

set_option maxRecDepth 65536 in
set_option maxHeartbeats 4000000 in
theorem c_says0 {l : Launch} {Z : State} {a0 : Array Value} {kn : Bool} (g : Gl Z a0) {ws : List Cond} {h0 : Heap} {ss : List Addr} (hO : Old Z Z.heap.size h0) {x u ub v vb : Addr} {ps bs ms : List Int32} (EX : Exa Z h0 x "com/example/cadi/cadi/Origin") (FP : Fld Z h0 x "com/example/cadi/cadi/Origin" "place" "Ljava/lang/String;" (.ref u)) (LP : LatB Z h0 u ub ps) (hp : ps.length ≤ 2) (hm : ms.length ≤ 2) (LM : LatB Z h0 v vb ms) :
    Con l Z consts_1 kn ws (⟨"com/example/cadi/cadi/Origin", "says", "(Ljava/lang/String;Ljava/lang/String;)Ljava/lang/String;"⟩ : MethodName) prog_34_method_7_code 3 (some (.object "java/lang/String")) ({ frames := 6, cells := 6, slots := 76, locals := 91 } : Room) #[(.ref x), .null, (.ref v)] h0 ss (rV fun v h => Ext h0 h ∧ ∃ d, v = .ref d ∧ Lat Z h d (ps ++ [(58 : Int32), 32] ++ ms)) := by
  have hw := g.1
  have hEL := g.2.1
  refine Con.of (plainFor_of_name pn_11) hO ?_
  intro p e s m below meth c T0 me W0
  refine Fi.entry (L := #[.val (.ref x), .val .null, .val (.ref v)]) (by first | (simp [entryFrame, mkF, argsToLocals, Value.category, maxLocals]; done) | (simp [entryFrame, mkF, argsToLocals, Value.category]; done) | rfl) ?_
  refine W0.aloadN me d_prog_34_method_7_0 rfl rfl ?_
  show Fi p e below s Z _ _ _ _ T0 (mkF m 1 #[.val (.ref x), .val .null, .val (.ref v)] [.null])
  refine W0.nonnullN me d_prog_34_method_7_1 ?_
  show Fi p e below s Z _ _ _ _ T0 (mkF m 4 #[.val (.ref x), .val .null, .val (.ref v)] [])
  show Fi p e below s Z _ _ _ _ T0 (mkF m 4 #[.val (.ref x), .val .null, .val (.ref v)] [])
  refine W0.newO me (hw _ (List.mem_of_getElem? (i := 45) rfl)) (hw _ (List.mem_of_getElem? (i := 46) rfl)) (hw _ (List.mem_of_getElem? (i := 47) rfl)) d_prog_34_method_7_4 (own_le rfl) (own_le rfl) ?_
  intro T1 h1 a1 g1 W1 E1 A1 D1 U1
  show Fi p e below s Z _ _ _ _ T1 (mkF m 7 #[.val (.ref x), .val .null, .val (.ref v)] [(.ref a1)])
  refine W1.dup me d_prog_34_method_7_7 rfl ?_
  show Fi p e below s Z _ _ _ _ T1 (mkF m 8 #[.val (.ref x), .val .null, .val (.ref v)] [(.ref a1), (.ref a1)])
  have hza : Z.heap.size ≤ a1 := by have := hO.2.1; omega
  refine W1.callI me hEL (hw _ (List.mem_of_getElem? (i := 48) rfl)) (hw _ (List.mem_of_getElem? (i := 49) rfl)) (hw _ (List.mem_of_getElem? (i := 47) rfl)) (hw _ (List.mem_of_getElem? (i := 50) rfl)) rfl (a := a1) (argsL := []) (rest := [(.ref a1)]) (c_sbinit (ss := []) g W1.old A1 (D1 (Or.inl (hw _ (List.mem_of_getElem? (i := 60) rfl))) (ty := .array .byte) (by decide)) (D1 (Or.inl (hw _ (List.mem_of_getElem? (i := 62) rfl))) (ty := .byte) (by decide)) (D1 (Or.inl (hw _ (List.mem_of_getElem? (i := 99) rfl))) (ty := .int) (by decide)) hza) d_prog_34_method_7_8 (by decide) (fun _ q => nomatch q) rfl (lenOf pd_24 rfl) (own_le rfl) (own_le rfl) (own_le rfl) (own_le rfl) rfl ?_
  intro T2 h2 v2 W2 z2 q2
  obtain ⟨sf2, X2, rfl, K2, d2, y2, s2, M2⟩ := q2
  show Fi p e below s Z _ _ _ _ T2 (mkF m 11 #[.val (.ref x), .val .null, .val (.ref v)] [(.ref a1)])
  replace W2 := X2 [d2] (allS s2 all0)
  have hsz2 := E1.1
  have hzb : Z.heap.size ≤ d2 := by have := hO.2.1; omega
  have ga : h0.size ≤ a1 := by omega
  have gd : h0.size ≤ d2 := by omega
  have EE2 := own_xk E1 K2 (allS ga all0)
  refine W2.aloadN me d_prog_34_method_7_11 rfl rfl ?_
  show Fi p e below s Z _ _ _ _ T2 (mkF m 12 #[.val (.ref x), .val .null, .val (.ref v)] [(.ref x), (.ref a1)])
  refine W2.callV me hEL (hw _ (List.mem_of_getElem? (i := 63) rfl)) (hw _ (List.mem_of_getElem? (i := 64) rfl)) (fun hZ' => notFace_of_selects (args := #[]) (mvT (s := s.setVm _) hZ' (hw _ (List.mem_of_getElem? (i := 66) rfl)))) (hw _ (List.mem_of_getElem? (i := 66) rfl)) (hw _ (List.mem_of_getElem? (i := 65) rfl)) (hw _ (List.mem_of_getElem? (i := 47) rfl)) (hw _ (List.mem_of_getElem? (i := 67) rfl)) (a := a1) (argsL := [(.ref x)]) (rest := []) M2.exa (c_appo g W2.old M2 (EX.ext EE2) (FP.ext EE2) (LP.ext EE2) (by show 0 + _ ≤ 16; omega) (List.mem_cons_self ..) hza hzb) d_prog_34_method_7_12 (by decide) (fun _ q => q) rfl (lenOf pd_28 rfl) (own_le rfl) (own_le rfl) (own_le rfl) (own_le rfl) rfl ?_
  intro T3 h3 v3 W3 z3 q3
  obtain ⟨sf3, X3, _, rfl, K3, rfl, M3⟩ := q3
  show Fi p e below s Z _ _ _ _ T3 (mkF m 15 #[.val (.ref x), .val .null, .val (.ref v)] [(.ref a1)])
  have EE3 := own_xk EE2 K3 (allS ga (allS gd all0))
  refine W3.ldcS me hEL (List.mem_of_getElem? (i := 0) rfl) (hw _ (List.mem_of_getElem? (i := 125) rfl)) (stratoms g) (vs := [.int (58 : Int32), .int (32 : Int32)]) (z := 2) ⟨by decide, by decide⟩ (by decide) (by decide) d_prog_34_method_7_15 (n := 8) (by decide) (by decide) (by decide) (by decide) ?_
  intro T4 h4 a4 b4 k4 W4 E4 A4 C4 V4 B4 N4
  show Fi p e below s Z _ _ _ _ T4 (mkF m 17 #[.val (.ref x), .val .null, .val (.ref v)] [(.ref a4), (.ref a1)])
  have LL4 : LatB Z h4 a4 b4 [(58 : Int32), (32 : Int32)] := ⟨k4, A4, C4, V4, B4, own_le rfl, (by decide : ∀ c ∈ ([(58 : Int32), (32 : Int32)] : List Int32), ¬ c < 0 ∧ ¬ (255 : Int32) < c)⟩
  have MM4 := M3.ext E4
  have EE4 := own_xt EE3 E4
  refine W4.callV me hEL (hw _ (List.mem_of_getElem? (i := 126) rfl)) (hw _ (List.mem_of_getElem? (i := 78) rfl)) (fun hZ' => notFace_of_selects (args := #[]) (mvT (s := s.setVm _) hZ' (hw _ (List.mem_of_getElem? (i := 80) rfl)))) (hw _ (List.mem_of_getElem? (i := 80) rfl)) (hw _ (List.mem_of_getElem? (i := 79) rfl)) (hw _ (List.mem_of_getElem? (i := 47) rfl)) (hw _ (List.mem_of_getElem? (i := 81) rfl)) (a := a1) (argsL := [(.ref a4)]) (rest := []) MM4.exa (c_app0 g W4.old MM4 LL4 (by simp only [List.length_append, List.length_nil, List.length_cons, List.nil_append]; omega) (List.mem_cons_self ..) hza hzb) d_prog_34_method_7_17 (by decide) (fun _ q => q) rfl (lenOf pd_27 rfl) (own_le rfl) (own_le rfl) (own_le rfl) (own_le rfl) rfl ?_
  intro T5 h5 v5 W5 z5 q5
  obtain ⟨sf5, X5, _, rfl, K5, rfl, M5⟩ := q5
  show Fi p e below s Z _ _ _ _ T5 (mkF m 20 #[.val (.ref x), .val .null, .val (.ref v)] [(.ref a1)])
  have EE5 := own_xk EE4 K5 (allS ga (allS gd all0))
  refine W5.aloadN me d_prog_34_method_7_20 rfl rfl ?_
  show Fi p e below s Z _ _ _ _ T5 (mkF m 21 #[.val (.ref x), .val .null, .val (.ref v)] [(.ref v), (.ref a1)])
  refine W5.callV me hEL (hw _ (List.mem_of_getElem? (i := 126) rfl)) (hw _ (List.mem_of_getElem? (i := 78) rfl)) (fun hZ' => notFace_of_selects (args := #[]) (mvT (s := s.setVm _) hZ' (hw _ (List.mem_of_getElem? (i := 80) rfl)))) (hw _ (List.mem_of_getElem? (i := 80) rfl)) (hw _ (List.mem_of_getElem? (i := 79) rfl)) (hw _ (List.mem_of_getElem? (i := 47) rfl)) (hw _ (List.mem_of_getElem? (i := 81) rfl)) (a := a1) (argsL := [(.ref v)]) (rest := []) M5.exa (c_app0 g W5.old M5 (LM.ext EE5) (by simp only [List.length_append, List.length_nil, List.length_cons, List.nil_append]; omega) (List.mem_cons_self ..) hza hzb) d_prog_34_method_7_21 (by decide) (fun _ q => q) rfl (lenOf pd_27 rfl) (own_le rfl) (own_le rfl) (own_le rfl) (own_le rfl) rfl ?_
  intro T6 h6 v6 W6 z6 q6
  obtain ⟨sf6, X6, _, rfl, K6, rfl, M6⟩ := q6
  show Fi p e below s Z _ _ _ _ T6 (mkF m 24 #[.val (.ref x), .val .null, .val (.ref v)] [(.ref a1)])
  have EE6 := own_xk EE5 K6 (allS ga (allS gd all0))
  show Fi p e below s Z _ _ _ _ T6 (mkF m 24 #[.val (.ref x), .val .null, .val (.ref v)] [(.ref a1)])
  refine W6.callV me hEL (hw _ (List.mem_of_getElem? (i := 127) rfl)) (hw _ (List.mem_of_getElem? (i := 128) rfl)) (fun hZ' => notFace_of_selects (args := #[]) (mvT (s := s.setVm _) hZ' (hw _ (List.mem_of_getElem? (i := 130) rfl)))) (hw _ (List.mem_of_getElem? (i := 130) rfl)) (hw _ (List.mem_of_getElem? (i := 129) rfl)) (hw _ (List.mem_of_getElem? (i := 47) rfl)) (hw _ (List.mem_of_getElem? (i := 131) rfl)) (a := a1) (argsL := []) (rest := []) M6.exa (c_tostr (ss := []) g W6.old M6 (by simp only [List.length_append, List.length_nil, List.length_cons, List.nil_append]; omega)) d_prog_34_method_7_24 (by decide) (fun _ q => nomatch q) rfl (lenOf pd_25 rfl) (own_le rfl) (own_le rfl) (own_le rfl) (own_le rfl) rfl ?_
  intro T7 h7 v7 W7 z7 q7
  obtain ⟨sf7, X7, _, rfl, E7, d7, rfl, L7⟩ := q7
  show Fi p e below s Z _ _ _ _ T7 (mkF m 27 #[.val (.ref x), .val .null, .val (.ref v)] [(.ref d7)])
  refine W7.goto me d_prog_34_method_7_27 (pc' := 62) (by decide) (by decide) ?_
  show Fi p e below s Z _ _ _ _ T7 (mkF m 62 #[.val (.ref x), .val .null, .val (.ref v)] [(.ref d7)])
  exact W7.retA hEL me d_prog_34_method_7_62 ⟨own_xt EE6 E7, d7, rfl, L7⟩ (by decide) (by decide) rfl rfl rfl

set_option maxRecDepth 65536 in
set_option maxHeartbeats 4000000 in
theorem c_says1 {l : Launch} {Z : State} {a0 : Array Value} {kn : Bool} (g : Gl Z a0) {ws : List Cond} {h0 : Heap} {ss : List Addr} (hO : Old Z Z.heap.size h0) {x u ub v vb y yb : Addr} {ps bs ms : List Int32} (EX : Exa Z h0 x "com/example/cadi/cadi/Origin") (FP : Fld Z h0 x "com/example/cadi/cadi/Origin" "place" "Ljava/lang/String;" (.ref u)) (LP : LatB Z h0 u ub ps) (hp : ps.length ≤ 2) (hm : ms.length ≤ 2) (LB : LatB Z h0 y yb bs) (hb : bs.length ≤ 2) (LM : LatB Z h0 v vb ms) :
    Con l Z consts_1 kn ws (⟨"com/example/cadi/cadi/Origin", "says", "(Ljava/lang/String;Ljava/lang/String;)Ljava/lang/String;"⟩ : MethodName) prog_34_method_7_code 3 (some (.object "java/lang/String")) ({ frames := 6, cells := 9, slots := 156, locals := 91 } : Room) #[(.ref x), (.ref y), (.ref v)] h0 ss (rV fun v h => Ext h0 h ∧ ∃ d, v = .ref d ∧ Lat Z h d (ps ++ [(58 : Int32), (32 : Int32), (98 : Int32), (101 : Int32), (97 : Int32), (110 : Int32), (32 : Int32), (39 : Int32)] ++ bs ++ [(39 : Int32), (58 : Int32), (32 : Int32)] ++ ms)) := by
  have hw := g.1
  have hEL := g.2.1
  refine Con.of (plainFor_of_name pn_11) hO ?_
  intro p e s m below meth c T0 me W0
  refine Fi.entry (L := #[.val (.ref x), .val (.ref y), .val (.ref v)]) (by first | (simp [entryFrame, mkF, argsToLocals, Value.category, maxLocals]; done) | (simp [entryFrame, mkF, argsToLocals, Value.category]; done) | rfl) ?_
  refine W0.aloadN me d_prog_34_method_7_0 rfl rfl ?_
  show Fi p e below s Z _ _ _ _ T0 (mkF m 1 #[.val (.ref x), .val (.ref y), .val (.ref v)] [(.ref y)])
  refine W0.nonnullY me d_prog_34_method_7_1 (pc' := 30) (by decide) (by decide) ?_
  show Fi p e below s Z _ _ _ _ T0 (mkF m 30 #[.val (.ref x), .val (.ref y), .val (.ref v)] [])
  show Fi p e below s Z _ _ _ _ T0 (mkF m 30 #[.val (.ref x), .val (.ref y), .val (.ref v)] [])
  refine W0.newO me (hw _ (List.mem_of_getElem? (i := 45) rfl)) (hw _ (List.mem_of_getElem? (i := 46) rfl)) (hw _ (List.mem_of_getElem? (i := 47) rfl)) d_prog_34_method_7_30 (own_le rfl) (own_le rfl) ?_
  intro T1 h1 a1 g1 W1 E1 A1 D1 U1
  show Fi p e below s Z _ _ _ _ T1 (mkF m 33 #[.val (.ref x), .val (.ref y), .val (.ref v)] [(.ref a1)])
  refine W1.dup me d_prog_34_method_7_33 rfl ?_
  show Fi p e below s Z _ _ _ _ T1 (mkF m 34 #[.val (.ref x), .val (.ref y), .val (.ref v)] [(.ref a1), (.ref a1)])
  have hza : Z.heap.size ≤ a1 := by have := hO.2.1; omega
  refine W1.callI me hEL (hw _ (List.mem_of_getElem? (i := 48) rfl)) (hw _ (List.mem_of_getElem? (i := 49) rfl)) (hw _ (List.mem_of_getElem? (i := 47) rfl)) (hw _ (List.mem_of_getElem? (i := 50) rfl)) rfl (a := a1) (argsL := []) (rest := [(.ref a1)]) (c_sbinit (ss := []) g W1.old A1 (D1 (Or.inl (hw _ (List.mem_of_getElem? (i := 60) rfl))) (ty := .array .byte) (by decide)) (D1 (Or.inl (hw _ (List.mem_of_getElem? (i := 62) rfl))) (ty := .byte) (by decide)) (D1 (Or.inl (hw _ (List.mem_of_getElem? (i := 99) rfl))) (ty := .int) (by decide)) hza) d_prog_34_method_7_34 (by decide) (fun _ q => nomatch q) rfl (lenOf pd_24 rfl) (own_le rfl) (own_le rfl) (own_le rfl) (own_le rfl) rfl ?_
  intro T2 h2 v2 W2 z2 q2
  obtain ⟨sf2, X2, rfl, K2, d2, y2, s2, M2⟩ := q2
  show Fi p e below s Z _ _ _ _ T2 (mkF m 37 #[.val (.ref x), .val (.ref y), .val (.ref v)] [(.ref a1)])
  replace W2 := X2 [d2] (allS s2 all0)
  have hsz2 := E1.1
  have hzb : Z.heap.size ≤ d2 := by have := hO.2.1; omega
  have ga : h0.size ≤ a1 := by omega
  have gd : h0.size ≤ d2 := by omega
  have EE2 := own_xk E1 K2 (allS ga all0)
  refine W2.aloadN me d_prog_34_method_7_37 rfl rfl ?_
  show Fi p e below s Z _ _ _ _ T2 (mkF m 38 #[.val (.ref x), .val (.ref y), .val (.ref v)] [(.ref x), (.ref a1)])
  refine W2.callV me hEL (hw _ (List.mem_of_getElem? (i := 63) rfl)) (hw _ (List.mem_of_getElem? (i := 64) rfl)) (fun hZ' => notFace_of_selects (args := #[]) (mvT (s := s.setVm _) hZ' (hw _ (List.mem_of_getElem? (i := 66) rfl)))) (hw _ (List.mem_of_getElem? (i := 66) rfl)) (hw _ (List.mem_of_getElem? (i := 65) rfl)) (hw _ (List.mem_of_getElem? (i := 47) rfl)) (hw _ (List.mem_of_getElem? (i := 67) rfl)) (a := a1) (argsL := [(.ref x)]) (rest := []) M2.exa (c_appo g W2.old M2 (EX.ext EE2) (FP.ext EE2) (LP.ext EE2) (by show 0 + _ ≤ 16; omega) (List.mem_cons_self ..) hza hzb) d_prog_34_method_7_38 (by decide) (fun _ q => q) rfl (lenOf pd_28 rfl) (own_le rfl) (own_le rfl) (own_le rfl) (own_le rfl) rfl ?_
  intro T3 h3 v3 W3 z3 q3
  obtain ⟨sf3, X3, _, rfl, K3, rfl, M3⟩ := q3
  show Fi p e below s Z _ _ _ _ T3 (mkF m 41 #[.val (.ref x), .val (.ref y), .val (.ref v)] [(.ref a1)])
  have EE3 := own_xk EE2 K3 (allS ga (allS gd all0))
  refine W3.ldcS me hEL (List.mem_of_getElem? (i := 1) rfl) (hw _ (List.mem_of_getElem? (i := 208) rfl)) (stratoms g) (vs := [.int (58 : Int32), .int (32 : Int32), .int (98 : Int32), .int (101 : Int32), .int (97 : Int32), .int (110 : Int32), .int (32 : Int32), .int (39 : Int32)]) (z := 8) ⟨by decide, by decide⟩ (by decide) (by decide) d_prog_34_method_7_41 (n := 32) (by decide) (by decide) (by decide) (by decide) ?_
  intro T4 h4 a4 b4 k4 W4 E4 A4 C4 V4 B4 N4
  show Fi p e below s Z _ _ _ _ T4 (mkF m 43 #[.val (.ref x), .val (.ref y), .val (.ref v)] [(.ref a4), (.ref a1)])
  have LL4 : LatB Z h4 a4 b4 [(58 : Int32), (32 : Int32), (98 : Int32), (101 : Int32), (97 : Int32), (110 : Int32), (32 : Int32), (39 : Int32)] := ⟨k4, A4, C4, V4, B4, own_le rfl, (by decide : ∀ c ∈ ([(58 : Int32), (32 : Int32), (98 : Int32), (101 : Int32), (97 : Int32), (110 : Int32), (32 : Int32), (39 : Int32)] : List Int32), ¬ c < 0 ∧ ¬ (255 : Int32) < c)⟩
  have MM4 := M3.ext E4
  have EE4 := own_xt EE3 E4
  refine W4.callV me hEL (hw _ (List.mem_of_getElem? (i := 126) rfl)) (hw _ (List.mem_of_getElem? (i := 78) rfl)) (fun hZ' => notFace_of_selects (args := #[]) (mvT (s := s.setVm _) hZ' (hw _ (List.mem_of_getElem? (i := 80) rfl)))) (hw _ (List.mem_of_getElem? (i := 80) rfl)) (hw _ (List.mem_of_getElem? (i := 79) rfl)) (hw _ (List.mem_of_getElem? (i := 47) rfl)) (hw _ (List.mem_of_getElem? (i := 81) rfl)) (a := a1) (argsL := [(.ref a4)]) (rest := []) MM4.exa (c_app0 g W4.old MM4 LL4 (by simp only [List.length_append, List.length_nil, List.length_cons, List.nil_append]; omega) (List.mem_cons_self ..) hza hzb) d_prog_34_method_7_43 (by decide) (fun _ q => q) rfl (lenOf pd_27 rfl) (own_le rfl) (own_le rfl) (own_le rfl) (own_le rfl) rfl ?_
  intro T5 h5 v5 W5 z5 q5
  obtain ⟨sf5, X5, _, rfl, K5, rfl, M5⟩ := q5
  show Fi p e below s Z _ _ _ _ T5 (mkF m 46 #[.val (.ref x), .val (.ref y), .val (.ref v)] [(.ref a1)])
  have EE5 := own_xk EE4 K5 (allS ga (allS gd all0))
  refine W5.aloadN me d_prog_34_method_7_46 rfl rfl ?_
  show Fi p e below s Z _ _ _ _ T5 (mkF m 47 #[.val (.ref x), .val (.ref y), .val (.ref v)] [(.ref y), (.ref a1)])
  refine W5.callV me hEL (hw _ (List.mem_of_getElem? (i := 126) rfl)) (hw _ (List.mem_of_getElem? (i := 78) rfl)) (fun hZ' => notFace_of_selects (args := #[]) (mvT (s := s.setVm _) hZ' (hw _ (List.mem_of_getElem? (i := 80) rfl)))) (hw _ (List.mem_of_getElem? (i := 80) rfl)) (hw _ (List.mem_of_getElem? (i := 79) rfl)) (hw _ (List.mem_of_getElem? (i := 47) rfl)) (hw _ (List.mem_of_getElem? (i := 81) rfl)) (a := a1) (argsL := [(.ref y)]) (rest := []) M5.exa (c_app0 g W5.old M5 (LB.ext EE5) (by simp only [List.length_append, List.length_nil, List.length_cons, List.nil_append]; omega) (List.mem_cons_self ..) hza hzb) d_prog_34_method_7_47 (by decide) (fun _ q => q) rfl (lenOf pd_27 rfl) (own_le rfl) (own_le rfl) (own_le rfl) (own_le rfl) rfl ?_
  intro T6 h6 v6 W6 z6 q6
  obtain ⟨sf6, X6, _, rfl, K6, rfl, M6⟩ := q6
  show Fi p e below s Z _ _ _ _ T6 (mkF m 50 #[.val (.ref x), .val (.ref y), .val (.ref v)] [(.ref a1)])
  have EE6 := own_xk EE5 K6 (allS ga (allS gd all0))
  show Fi p e below s Z _ _ _ _ T6 (mkF m 50 #[.val (.ref x), .val (.ref y), .val (.ref v)] [(.ref a1)])
  refine W6.ldcS me hEL (List.mem_of_getElem? (i := 2) rfl) (hw _ (List.mem_of_getElem? (i := 209) rfl)) (stratoms g) (vs := [.int (39 : Int32), .int (58 : Int32), .int (32 : Int32)]) (z := 3) ⟨by decide, by decide⟩ (by decide) (by decide) d_prog_34_method_7_50 (n := 12) (by decide) (by decide) (by decide) (by decide) ?_
  intro T7 h7 a7 b7 k7 W7 E7 A7 C7 V7 B7 N7
  show Fi p e below s Z _ _ _ _ T7 (mkF m 52 #[.val (.ref x), .val (.ref y), .val (.ref v)] [(.ref a7), (.ref a1)])
  have LL7 : LatB Z h7 a7 b7 [(39 : Int32), (58 : Int32), (32 : Int32)] := ⟨k7, A7, C7, V7, B7, own_le rfl, (by decide : ∀ c ∈ ([(39 : Int32), (58 : Int32), (32 : Int32)] : List Int32), ¬ c < 0 ∧ ¬ (255 : Int32) < c)⟩
  have MM7 := M6.ext E7
  have EE7 := own_xt EE6 E7
  refine W7.callV me hEL (hw _ (List.mem_of_getElem? (i := 126) rfl)) (hw _ (List.mem_of_getElem? (i := 78) rfl)) (fun hZ' => notFace_of_selects (args := #[]) (mvT (s := s.setVm _) hZ' (hw _ (List.mem_of_getElem? (i := 80) rfl)))) (hw _ (List.mem_of_getElem? (i := 80) rfl)) (hw _ (List.mem_of_getElem? (i := 79) rfl)) (hw _ (List.mem_of_getElem? (i := 47) rfl)) (hw _ (List.mem_of_getElem? (i := 81) rfl)) (a := a1) (argsL := [(.ref a7)]) (rest := []) MM7.exa (c_app0 g W7.old MM7 LL7 (by simp only [List.length_append, List.length_nil, List.length_cons, List.nil_append]; omega) (List.mem_cons_self ..) hza hzb) d_prog_34_method_7_52 (by decide) (fun _ q => q) rfl (lenOf pd_27 rfl) (own_le rfl) (own_le rfl) (own_le rfl) (own_le rfl) rfl ?_
  intro T8 h8 v8 W8 z8 q8
  obtain ⟨sf8, X8, _, rfl, K8, rfl, M8⟩ := q8
  show Fi p e below s Z _ _ _ _ T8 (mkF m 55 #[.val (.ref x), .val (.ref y), .val (.ref v)] [(.ref a1)])
  have EE8 := own_xk EE7 K8 (allS ga (allS gd all0))
  refine W8.aloadN me d_prog_34_method_7_55 rfl rfl ?_
  show Fi p e below s Z _ _ _ _ T8 (mkF m 56 #[.val (.ref x), .val (.ref y), .val (.ref v)] [(.ref v), (.ref a1)])
  by_cases hbig : (ps ++ [(58 : Int32), (32 : Int32), (98 : Int32), (101 : Int32), (97 : Int32), (110 : Int32), (32 : Int32), (39 : Int32)] ++ bs ++ [(39 : Int32), (58 : Int32), (32 : Int32)] ++ ms).length ≤ 16
  ·
    show Fi p e below s Z _ _ _ _ T8 (mkF m 56 #[.val (.ref x), .val (.ref y), .val (.ref v)] [(.ref v), (.ref a1)])
    refine W8.callV me hEL (hw _ (List.mem_of_getElem? (i := 126) rfl)) (hw _ (List.mem_of_getElem? (i := 78) rfl)) (fun hZ' => notFace_of_selects (args := #[]) (mvT (s := s.setVm _) hZ' (hw _ (List.mem_of_getElem? (i := 80) rfl)))) (hw _ (List.mem_of_getElem? (i := 80) rfl)) (hw _ (List.mem_of_getElem? (i := 79) rfl)) (hw _ (List.mem_of_getElem? (i := 47) rfl)) (hw _ (List.mem_of_getElem? (i := 81) rfl)) (a := a1) (argsL := [(.ref v)]) (rest := []) M8.exa (c_app0 g W8.old M8 (LM.ext EE8) (by simp only [List.length_append, List.length_nil, List.length_cons, List.nil_append] at hbig ⊢; omega) (List.mem_cons_self ..) hza hzb) d_prog_34_method_7_56 (by decide) (fun _ q => q) rfl (lenOf pd_27 rfl) (own_le rfl) (own_le rfl) (own_le rfl) (own_le rfl) rfl ?_
    intro T9 h9 v9 W9 z9 q9
    obtain ⟨sf9, X9, _, rfl, K9, rfl, M9⟩ := q9
    show Fi p e below s Z _ _ _ _ T9 (mkF m 59 #[.val (.ref x), .val (.ref y), .val (.ref v)] [(.ref a1)])
    have EE9 := own_xk EE8 K9 (allS ga (allS gd all0))
    show Fi p e below s Z _ _ _ _ T9 (mkF m 59 #[.val (.ref x), .val (.ref y), .val (.ref v)] [(.ref a1)])
    refine W9.callV me hEL (hw _ (List.mem_of_getElem? (i := 127) rfl)) (hw _ (List.mem_of_getElem? (i := 128) rfl)) (fun hZ' => notFace_of_selects (args := #[]) (mvT (s := s.setVm _) hZ' (hw _ (List.mem_of_getElem? (i := 130) rfl)))) (hw _ (List.mem_of_getElem? (i := 130) rfl)) (hw _ (List.mem_of_getElem? (i := 129) rfl)) (hw _ (List.mem_of_getElem? (i := 47) rfl)) (hw _ (List.mem_of_getElem? (i := 131) rfl)) (a := a1) (argsL := []) (rest := []) M9.exa (c_tostr (ss := []) g W9.old M9 (by simp only [List.length_append, List.length_nil, List.length_cons, List.nil_append]; omega)) d_prog_34_method_7_59 (by decide) (fun _ q => nomatch q) rfl (lenOf pd_25 rfl) (own_le rfl) (own_le rfl) (own_le rfl) (own_le rfl) rfl ?_
    intro T10 h10 v10 W10 z10 q10
    obtain ⟨sf10, X10, _, rfl, E10, d10, rfl, L10⟩ := q10
    show Fi p e below s Z _ _ _ _ T10 (mkF m 62 #[.val (.ref x), .val (.ref y), .val (.ref v)] [(.ref d10)])
    show Fi p e below s Z _ _ _ _ T10 (mkF m 62 #[.val (.ref x), .val (.ref y), .val (.ref v)] [(.ref d10)])
    exact W10.retA hEL me d_prog_34_method_7_62 ⟨own_xt EE9 E10, d10, rfl, L10⟩ (by decide) (by decide) rfl rfl rfl
  ·
    show Fi p e below s Z _ _ _ _ T8 (mkF m 56 #[.val (.ref x), .val (.ref y), .val (.ref v)] [(.ref v), (.ref a1)])
    refine W8.callV me hEL (hw _ (List.mem_of_getElem? (i := 126) rfl)) (hw _ (List.mem_of_getElem? (i := 78) rfl)) (fun hZ' => notFace_of_selects (args := #[]) (mvT (s := s.setVm _) hZ' (hw _ (List.mem_of_getElem? (i := 80) rfl)))) (hw _ (List.mem_of_getElem? (i := 80) rfl)) (hw _ (List.mem_of_getElem? (i := 79) rfl)) (hw _ (List.mem_of_getElem? (i := 47) rfl)) (hw _ (List.mem_of_getElem? (i := 81) rfl)) (a := a1) (argsL := [(.ref v)]) (rest := []) M8.exa (c_app1 (ss := []) g W8.old M8 (LM.ext EE8) (by simp only [List.length_append, List.length_nil, List.length_cons, List.nil_append] at hbig ⊢; omega) (by simp only [List.length_append, List.length_nil, List.length_cons, List.nil_append]; omega) (by decide) hza) d_prog_34_method_7_56 (by decide) (fun _ q => nomatch q) rfl (lenOf pd_27 rfl) (own_le rfl) (own_le rfl) (own_le rfl) (own_le rfl) rfl ?_
    intro T11 h11 v11 W11 z11 q11
    obtain ⟨sf11, X11, _, rfl, K11, rfl, d11, y11, s11, M11⟩ := q11
    show Fi p e below s Z _ _ _ _ T11 (mkF m 59 #[.val (.ref x), .val (.ref y), .val (.ref v)] [(.ref a1)])
    have EE11 := own_xk EE8 K11 (allS ga (allS gd all0))
    show Fi p e below s Z _ _ _ _ T11 (mkF m 59 #[.val (.ref x), .val (.ref y), .val (.ref v)] [(.ref a1)])
    refine W11.callV me hEL (hw _ (List.mem_of_getElem? (i := 127) rfl)) (hw _ (List.mem_of_getElem? (i := 128) rfl)) (fun hZ' => notFace_of_selects (args := #[]) (mvT (s := s.setVm _) hZ' (hw _ (List.mem_of_getElem? (i := 130) rfl)))) (hw _ (List.mem_of_getElem? (i := 130) rfl)) (hw _ (List.mem_of_getElem? (i := 129) rfl)) (hw _ (List.mem_of_getElem? (i := 47) rfl)) (hw _ (List.mem_of_getElem? (i := 131) rfl)) (a := a1) (argsL := []) (rest := []) M11.exa (c_tostr (ss := []) g W11.old M11 (by simp only [List.length_append, List.length_nil, List.length_cons, List.nil_append]; omega)) d_prog_34_method_7_59 (by decide) (fun _ q => nomatch q) rfl (lenOf pd_25 rfl) (own_le rfl) (own_le rfl) (own_le rfl) (own_le rfl) rfl ?_
    intro T12 h12 v12 W12 z12 q12
    obtain ⟨sf12, X12, _, rfl, E12, d12, rfl, L12⟩ := q12
    show Fi p e below s Z _ _ _ _ T12 (mkF m 62 #[.val (.ref x), .val (.ref y), .val (.ref v)] [(.ref d12)])
    show Fi p e below s Z _ _ _ _ T12 (mkF m 62 #[.val (.ref x), .val (.ref y), .val (.ref v)] [(.ref d12)])
    exact W12.retA hEL me d_prog_34_method_7_62 ⟨own_xt EE11 E12, d12, rfl, L12⟩ (by decide) (by decide) rfl rfl rfl

set_option maxRecDepth 65536 in
set_option maxHeartbeats 4000000 in
theorem c_at {l : Launch} {Z : State} {a0 : Array Value} {kn : Bool} (g : Gl Z a0) {ws : List Cond} {h0 : Heap} {ss : List Addr} (hO : Old Z Z.heap.size h0) {a : Addr} {cs : List Int32} {i : Nat} {ch : Int32} (L : Lat Z h0 a cs) (hi : i < cs.length) (he : cs.getD i 0 = ch) :
    Con l Z consts_1 kn ws (⟨"com/example/cadi/cadi/OriginSaysPinLaw", "at", "(Ljava/lang/String;IC)Z"⟩ : MethodName) method_3_code 3 (some .boolean) ({ frames := 4, cells := 0, slots := 0, locals := 53 } : Room) #[(.ref a), (.int (Int32.ofNat i)), (.int ch)] h0 ss (rV fun v h => h0 = h ∧ v = .int 1) := by
  have hw := g.1
  have hEL := g.2.1
  refine Con.of (plainFor_of_name pn_9) hO ?_
  intro p e s m below meth c T0 me W0
  refine Fi.entry (L := #[.val (.ref a), .val (.int (Int32.ofNat i)), .val (.int ch)]) (by first | (simp [entryFrame, mkF, argsToLocals, Value.category, maxLocals]; done) | (simp [entryFrame, mkF, argsToLocals, Value.category]; done) | rfl) ?_
  have hl20 : cs.length < 2 ^ 20 := by obtain ⟨_, _, _, _, _, _, q, _⟩ := L; exact q
  refine W0.iloadN me d_method_3_0 rfl ?_
  show Fi p e below s Z _ _ _ _ T0 (mkF m 1 #[.val (.ref a), .val (.int (Int32.ofNat i)), .val (.int ch)] [(.int (Int32.ofNat i))])
  refine W0.ifN_lt me d_method_3_1 (on_nneg (by omega)) ?_
  refine W0.iloadN me d_method_3_4 rfl ?_
  refine W0.aloadN me d_method_3_5 rfl rfl ?_
  show Fi p e below s Z _ _ _ _ T0 (mkF m 6 #[.val (.ref a), .val (.int (Int32.ofNat i)), .val (.int ch)] [(.ref a), (.int (Int32.ofNat i))])
  refine W0.callV me hEL (hw _ (List.mem_of_getElem? (i := 172) rfl)) (hw _ (List.mem_of_getElem? (i := 88) rfl)) (fun hZ' => notFace_of_selects (args := #[]) (mvT (s := s.setVm _) hZ' (hw _ (List.mem_of_getElem? (i := 90) rfl)))) (hw _ (List.mem_of_getElem? (i := 90) rfl)) (hw _ (List.mem_of_getElem? (i := 89) rfl)) (hw _ (List.mem_of_getElem? (i := 6) rfl)) (hw _ (List.mem_of_getElem? (i := 91) rfl)) (a := a) (argsL := []) (rest := [(.int (Int32.ofNat i))]) L.exa (c_length (ss := []) g W0.old L) d_method_3_6 (by decide) (fun _ q => nomatch q) rfl (lenOf pd_17 rfl) (own_le rfl) (own_le rfl) (own_le rfl) (own_le rfl) rfl ?_
  intro T1 h1 v1 W1 z1 q1
  obtain ⟨sf1, X1, _, rfl, rfl, rfl⟩ := q1
  show Fi p e below s Z _ _ _ _ T1 (mkF m 9 #[.val (.ref a), .val (.int (Int32.ofNat i)), .val (.int ch)] [(.int (Int32.ofNat cs.length)), (.int (Int32.ofNat i))])
  refine W1.icN_ge me d_method_3_9 (on_lt hi (by omega)) ?_
  refine W1.aloadN me d_method_3_12 rfl rfl ?_
  refine W1.iloadN me d_method_3_13 rfl ?_
  show Fi p e below s Z _ _ _ _ T1 (mkF m 14 #[.val (.ref a), .val (.int (Int32.ofNat i)), .val (.int ch)] [(.int (Int32.ofNat i)), (.ref a)])
  refine W1.callV me hEL (hw _ (List.mem_of_getElem? (i := 176) rfl)) (hw _ (List.mem_of_getElem? (i := 177) rfl)) (fun hZ' => notFace_of_selects (args := #[]) (mvT (s := s.setVm _) hZ' (hw _ (List.mem_of_getElem? (i := 179) rfl)))) (hw _ (List.mem_of_getElem? (i := 179) rfl)) (hw _ (List.mem_of_getElem? (i := 178) rfl)) (hw _ (List.mem_of_getElem? (i := 6) rfl)) (hw _ (List.mem_of_getElem? (i := 180) rfl)) (a := a) (argsL := [(.int (Int32.ofNat i))]) (rest := []) L.exa (c_charat (ss := []) g W1.old L hi) d_method_3_14 (by decide) (fun _ q => nomatch q) rfl (lenOf pd_29 rfl) (own_le rfl) (own_le rfl) (own_le rfl) (own_le rfl) rfl ?_
  intro T2 h2 v2 W2 z2 q2
  obtain ⟨sf2, X2, _, rfl, rfl, rfl⟩ := q2
  show Fi p e below s Z _ _ _ _ T2 (mkF m 17 #[.val (.ref a), .val (.int (Int32.ofNat i)), .val (.int ch)] [(.int (cs.getD i 0))])
  refine W2.iloadN me d_method_3_17 rfl ?_
  show Fi p e below s Z _ _ _ _ T2 (mkF m 18 #[.val (.ref a), .val (.int (Int32.ofNat i)), .val (.int ch)] [(.int ch), (.int (cs.getD i 0))])
  refine W2.icN_ne me d_method_3_18 he ?_
  refine W2.iconst me d_method_3_21 (v := 1) rfl ?_
  refine W2.goto me d_method_3_22 (pc' := 26) (by decide) (by decide) ?_
  show Fi p e below s Z _ _ _ _ T2 (mkF m 26 #[.val (.ref a), .val (.int (Int32.ofNat i)), .val (.int ch)] [(.int (1 : Int32))])
  exact W2.retN hEL me (Or.inl rfl) d_method_3_26 ⟨rfl, rfl⟩ (by decide) (by decide)
set_option maxRecDepth 65536 in
set_option maxHeartbeats 4000000 in
theorem c_law {l : Launch} {Z : State} {a0 : Array Value} {kn : Bool} (g : Gl Z a0) {ws : List Cond} {h0 : Heap} {ss : List Addr} (hO : Old Z Z.heap.size h0) (p0 p1 p2 : Int32) :
    Con l Z consts_1 kn ws x code maxLocals ret room_1 #[(.int p0), (.int p1), (.int p2)] h0 ss (rV fun v h => v = .int 1) := by
  have hw := g.1
  have hEL := g.2.1
  refine Con.of (plainFor_of_name pn_9) hO ?_
  intro p e s m below meth c T0 me W0
  refine Fi.entry (L := #[.val (.int p0), .val (.int p1), .val (.int p2), .unset, .unset, .unset, .unset, .unset, .unset, .unset, .unset, .unset, .unset, .unset, .unset, .unset, .unset, .unset, .unset, .unset, .unset]) (by first | (simp [entryFrame, mkF, argsToLocals, Value.category, maxLocals]; done) | (simp [entryFrame, mkF, argsToLocals, Value.category]; done) | rfl) ?_
  refine W0.iloadN me at_0 rfl ?_
  refine W0.bipush me at_1 (v := 16) rfl ?_
  refine W0.iushr me at_3 ?_
  refine W0.iconst me at_4 (v := 3) rfl ?_
  refine W0.iand me at_5 ?_
  refine W0.iconst me at_6 (v := 3) rfl ?_
  refine W0.irem me at_7 (by decide) ?_
  show Fi p e below s Z _ _ _ _ T0 (mkF m 8 #[.val (.int p0), .val (.int p1), .val (.int p2), .unset, .unset, .unset, .unset, .unset, .unset, .unset, .unset, .unset, .unset, .unset, .unset, .unset, .unset, .unset, .unset, .unset, .unset] [(.int (((XT.ushr p0 (16 : Int32)) &&& (3 : Int32)) % (3 : Int32)))])
  obtain ⟨np, hnp, enp⟩ : ∃ k : Nat, k ≤ 2 ∧ (((XT.ushr p0 (16 : Int32)) &&& (3 : Int32)) % (3 : Int32)) = Int32.ofNat k := own_mod3 (XT.ushr p0 (16 : Int32))
  rw [enp]
  show Fi p e below s Z _ _ _ _ T0 (mkF m 8 #[.val (.int p0), .val (.int p1), .val (.int p2), .unset, .unset, .unset, .unset, .unset, .unset, .unset, .unset, .unset, .unset, .unset, .unset, .unset, .unset, .unset, .unset, .unset, .unset] [(.int (Int32.ofNat np))])
  refine W0.istoreN me at_8 (l' := #[.val (.int p0), .val (.int p1), .val (.int p2), .val (.int (Int32.ofNat np)), .unset, .unset, .unset, .unset, .unset, .unset, .unset, .unset, .unset, .unset, .unset, .unset, .unset, .unset, .unset, .unset, .unset]) rfl ?_
  refine W0.iloadN me at_9 rfl ?_
  refine W0.sipush me at_10 (v := 255) rfl ?_
  refine W0.iand me at_13 ?_
  refine W0.i2c me at_14 ?_
  show Fi p e below s Z _ _ _ _ T0 (mkF m 15 #[.val (.int p0), .val (.int p1), .val (.int p2), .val (.int (Int32.ofNat np)), .unset, .unset, .unset, .unset, .unset, .unset, .unset, .unset, .unset, .unset, .unset, .unset, .unset, .unset, .unset, .unset, .unset] [(.int ((p0 &&& (255 : Int32)).toUInt32.toUInt16.toUInt32.toInt32))])
  obtain ⟨a0c, ha0c⟩ : ∃ z, z = ((p0 &&& (255 : Int32)).toUInt32.toUInt16.toUInt32.toInt32) := ⟨_, rfl⟩
  rw [← ha0c]
  have qa0c : ¬ a0c < 0 ∧ ¬ (255 : Int32) < a0c := ha0c ▸ c255 p0
  show Fi p e below s Z _ _ _ _ T0 (mkF m 15 #[.val (.int p0), .val (.int p1), .val (.int p2), .val (.int (Int32.ofNat np)), .unset, .unset, .unset, .unset, .unset, .unset, .unset, .unset, .unset, .unset, .unset, .unset, .unset, .unset, .unset, .unset, .unset] [(.int a0c)])
  refine W0.istore me at_15 (l' := #[.val (.int p0), .val (.int p1), .val (.int p2), .val (.int (Int32.ofNat np)), .val (.int a0c), .unset, .unset, .unset, .unset, .unset, .unset, .unset, .unset, .unset, .unset, .unset, .unset, .unset, .unset, .unset, .unset]) rfl ?_
  refine W0.iloadN me at_17 rfl ?_
  refine W0.bipush me at_18 (v := 8) rfl ?_
  refine W0.iushr me at_20 ?_
  refine W0.sipush me at_21 (v := 255) rfl ?_
  refine W0.iand me at_24 ?_
  refine W0.i2c me at_25 ?_
  show Fi p e below s Z _ _ _ _ T0 (mkF m 26 #[.val (.int p0), .val (.int p1), .val (.int p2), .val (.int (Int32.ofNat np)), .val (.int a0c), .unset, .unset, .unset, .unset, .unset, .unset, .unset, .unset, .unset, .unset, .unset, .unset, .unset, .unset, .unset, .unset] [(.int (((XT.ushr p0 (8 : Int32)) &&& (255 : Int32)).toUInt32.toUInt16.toUInt32.toInt32))])
  obtain ⟨a1c, ha1c⟩ : ∃ z, z = (((XT.ushr p0 (8 : Int32)) &&& (255 : Int32)).toUInt32.toUInt16.toUInt32.toInt32) := ⟨_, rfl⟩
  rw [← ha1c]
  have qa1c : ¬ a1c < 0 ∧ ¬ (255 : Int32) < a1c := ha1c ▸ c255 (XT.ushr p0 (8 : Int32))
  show Fi p e below s Z _ _ _ _ T0 (mkF m 26 #[.val (.int p0), .val (.int p1), .val (.int p2), .val (.int (Int32.ofNat np)), .val (.int a0c), .unset, .unset, .unset, .unset, .unset, .unset, .unset, .unset, .unset, .unset, .unset, .unset, .unset, .unset, .unset, .unset] [(.int a1c)])
  refine W0.istore me at_26 (l' := #[.val (.int p0), .val (.int p1), .val (.int p2), .val (.int (Int32.ofNat np)), .val (.int a0c), .val (.int a1c), .unset, .unset, .unset, .unset, .unset, .unset, .unset, .unset, .unset, .unset, .unset, .unset, .unset, .unset, .unset]) rfl ?_
  refine W0.iloadN me at_28 rfl ?_
  refine W0.bipush me at_29 (v := 16) rfl ?_
  refine W0.iushr me at_31 ?_
  refine W0.iconst me at_32 (v := 3) rfl ?_
  refine W0.iand me at_33 ?_
  refine W0.iconst me at_34 (v := 3) rfl ?_
  refine W0.irem me at_35 (by decide) ?_
  show Fi p e below s Z _ _ _ _ T0 (mkF m 36 #[.val (.int p0), .val (.int p1), .val (.int p2), .val (.int (Int32.ofNat np)), .val (.int a0c), .val (.int a1c), .unset, .unset, .unset, .unset, .unset, .unset, .unset, .unset, .unset, .unset, .unset, .unset, .unset, .unset, .unset] [(.int (((XT.ushr p1 (16 : Int32)) &&& (3 : Int32)) % (3 : Int32)))])
  obtain ⟨nb, hnb, enb⟩ : ∃ k : Nat, k ≤ 2 ∧ (((XT.ushr p1 (16 : Int32)) &&& (3 : Int32)) % (3 : Int32)) = Int32.ofNat k := own_mod3 (XT.ushr p1 (16 : Int32))
  rw [enb]
  show Fi p e below s Z _ _ _ _ T0 (mkF m 36 #[.val (.int p0), .val (.int p1), .val (.int p2), .val (.int (Int32.ofNat np)), .val (.int a0c), .val (.int a1c), .unset, .unset, .unset, .unset, .unset, .unset, .unset, .unset, .unset, .unset, .unset, .unset, .unset, .unset, .unset] [(.int (Int32.ofNat nb))])
  refine W0.istore me at_36 (l' := #[.val (.int p0), .val (.int p1), .val (.int p2), .val (.int (Int32.ofNat np)), .val (.int a0c), .val (.int a1c), .val (.int (Int32.ofNat nb)), .unset, .unset, .unset, .unset, .unset, .unset, .unset, .unset, .unset, .unset, .unset, .unset, .unset, .unset]) rfl ?_
  refine W0.iloadN me at_38 rfl ?_
  refine W0.sipush me at_39 (v := 255) rfl ?_
  refine W0.iand me at_42 ?_
  refine W0.i2c me at_43 ?_
  show Fi p e below s Z _ _ _ _ T0 (mkF m 44 #[.val (.int p0), .val (.int p1), .val (.int p2), .val (.int (Int32.ofNat np)), .val (.int a0c), .val (.int a1c), .val (.int (Int32.ofNat nb)), .unset, .unset, .unset, .unset, .unset, .unset, .unset, .unset, .unset, .unset, .unset, .unset, .unset, .unset] [(.int ((p1 &&& (255 : Int32)).toUInt32.toUInt16.toUInt32.toInt32))])
  obtain ⟨b0c, hb0c⟩ : ∃ z, z = ((p1 &&& (255 : Int32)).toUInt32.toUInt16.toUInt32.toInt32) := ⟨_, rfl⟩
  rw [← hb0c]
  have qb0c : ¬ b0c < 0 ∧ ¬ (255 : Int32) < b0c := hb0c ▸ c255 p1
  show Fi p e below s Z _ _ _ _ T0 (mkF m 44 #[.val (.int p0), .val (.int p1), .val (.int p2), .val (.int (Int32.ofNat np)), .val (.int a0c), .val (.int a1c), .val (.int (Int32.ofNat nb)), .unset, .unset, .unset, .unset, .unset, .unset, .unset, .unset, .unset, .unset, .unset, .unset, .unset, .unset] [(.int b0c)])
  refine W0.istore me at_44 (l' := #[.val (.int p0), .val (.int p1), .val (.int p2), .val (.int (Int32.ofNat np)), .val (.int a0c), .val (.int a1c), .val (.int (Int32.ofNat nb)), .val (.int b0c), .unset, .unset, .unset, .unset, .unset, .unset, .unset, .unset, .unset, .unset, .unset, .unset, .unset]) rfl ?_
  refine W0.iloadN me at_46 rfl ?_
  refine W0.bipush me at_47 (v := 8) rfl ?_
  refine W0.iushr me at_49 ?_
  refine W0.sipush me at_50 (v := 255) rfl ?_
  refine W0.iand me at_53 ?_
  refine W0.i2c me at_54 ?_
  show Fi p e below s Z _ _ _ _ T0 (mkF m 55 #[.val (.int p0), .val (.int p1), .val (.int p2), .val (.int (Int32.ofNat np)), .val (.int a0c), .val (.int a1c), .val (.int (Int32.ofNat nb)), .val (.int b0c), .unset, .unset, .unset, .unset, .unset, .unset, .unset, .unset, .unset, .unset, .unset, .unset, .unset] [(.int (((XT.ushr p1 (8 : Int32)) &&& (255 : Int32)).toUInt32.toUInt16.toUInt32.toInt32))])
  obtain ⟨b1c, hb1c⟩ : ∃ z, z = (((XT.ushr p1 (8 : Int32)) &&& (255 : Int32)).toUInt32.toUInt16.toUInt32.toInt32) := ⟨_, rfl⟩
  rw [← hb1c]
  have qb1c : ¬ b1c < 0 ∧ ¬ (255 : Int32) < b1c := hb1c ▸ c255 (XT.ushr p1 (8 : Int32))
  show Fi p e below s Z _ _ _ _ T0 (mkF m 55 #[.val (.int p0), .val (.int p1), .val (.int p2), .val (.int (Int32.ofNat np)), .val (.int a0c), .val (.int a1c), .val (.int (Int32.ofNat nb)), .val (.int b0c), .unset, .unset, .unset, .unset, .unset, .unset, .unset, .unset, .unset, .unset, .unset, .unset, .unset] [(.int b1c)])
  refine W0.istore me at_55 (l' := #[.val (.int p0), .val (.int p1), .val (.int p2), .val (.int (Int32.ofNat np)), .val (.int a0c), .val (.int a1c), .val (.int (Int32.ofNat nb)), .val (.int b0c), .val (.int b1c), .unset, .unset, .unset, .unset, .unset, .unset, .unset, .unset, .unset, .unset, .unset, .unset]) rfl ?_
  refine W0.iloadN me at_57 rfl ?_
  refine W0.bipush me at_58 (v := 20) rfl ?_
  refine W0.iushr me at_60 ?_
  refine W0.iconst me at_61 (v := 1) rfl ?_
  refine W0.iand me at_62 ?_
  show Fi p e below s Z _ _ _ _ T0 (mkF m 63 #[.val (.int p0), .val (.int p1), .val (.int p2), .val (.int (Int32.ofNat np)), .val (.int a0c), .val (.int a1c), .val (.int (Int32.ofNat nb)), .val (.int b0c), .val (.int b1c), .unset, .unset, .unset, .unset, .unset, .unset, .unset, .unset, .unset, .unset, .unset, .unset] [(.int ((XT.ushr p1 (20 : Int32)) &&& (1 : Int32)))])
  refine W0.if_eq me at_63 (pc' := 70) (by decide) (by decide) (fun hnm0 => ?_) (fun hnm0 => ?_)
  ·
    show Fi p e below s Z _ _ _ _ T0 (mkF m 70 #[.val (.int p0), .val (.int p1), .val (.int p2), .val (.int (Int32.ofNat np)), .val (.int a0c), .val (.int a1c), .val (.int (Int32.ofNat nb)), .val (.int b0c), .val (.int b1c), .unset, .unset, .unset, .unset, .unset, .unset, .unset, .unset, .unset, .unset, .unset, .unset] [])
    refine W0.iconst me at_70 (v := 0) rfl ?_
    show Fi p e below s Z _ _ _ _ T0 (mkF m 71 #[.val (.int p0), .val (.int p1), .val (.int p2), .val (.int (Int32.ofNat np)), .val (.int a0c), .val (.int a1c), .val (.int (Int32.ofNat nb)), .val (.int b0c), .val (.int b1c), .unset, .unset, .unset, .unset, .unset, .unset, .unset, .unset, .unset, .unset, .unset, .unset] [(.int (0 : Int32))])
    refine W0.istore me at_71 (l' := #[.val (.int p0), .val (.int p1), .val (.int p2), .val (.int (Int32.ofNat np)), .val (.int a0c), .val (.int a1c), .val (.int (Int32.ofNat nb)), .val (.int b0c), .val (.int b1c), .val (.int (0 : Int32)), .unset, .unset, .unset, .unset, .unset, .unset, .unset, .unset, .unset, .unset, .unset]) rfl ?_
    refine W0.iloadN me at_73 rfl ?_
    refine W0.bipush me at_74 (v := 16) rfl ?_
    refine W0.iushr me at_76 ?_
    refine W0.iconst me at_77 (v := 3) rfl ?_
    refine W0.iand me at_78 ?_
    refine W0.iconst me at_79 (v := 3) rfl ?_
    refine W0.irem me at_80 (by decide) ?_
    show Fi p e below s Z _ _ _ _ T0 (mkF m 81 #[.val (.int p0), .val (.int p1), .val (.int p2), .val (.int (Int32.ofNat np)), .val (.int a0c), .val (.int a1c), .val (.int (Int32.ofNat nb)), .val (.int b0c), .val (.int b1c), .val (.int (0 : Int32)), .unset, .unset, .unset, .unset, .unset, .unset, .unset, .unset, .unset, .unset, .unset] [(.int (((XT.ushr p2 (16 : Int32)) &&& (3 : Int32)) % (3 : Int32)))])
    obtain ⟨nm, hnm, enm⟩ : ∃ k : Nat, k ≤ 2 ∧ (((XT.ushr p2 (16 : Int32)) &&& (3 : Int32)) % (3 : Int32)) = Int32.ofNat k := own_mod3 (XT.ushr p2 (16 : Int32))
    rw [enm]
    show Fi p e below s Z _ _ _ _ T0 (mkF m 81 #[.val (.int p0), .val (.int p1), .val (.int p2), .val (.int (Int32.ofNat np)), .val (.int a0c), .val (.int a1c), .val (.int (Int32.ofNat nb)), .val (.int b0c), .val (.int b1c), .val (.int (0 : Int32)), .unset, .unset, .unset, .unset, .unset, .unset, .unset, .unset, .unset, .unset, .unset] [(.int (Int32.ofNat nm))])
    refine W0.istore me at_81 (l' := #[.val (.int p0), .val (.int p1), .val (.int p2), .val (.int (Int32.ofNat np)), .val (.int a0c), .val (.int a1c), .val (.int (Int32.ofNat nb)), .val (.int b0c), .val (.int b1c), .val (.int (0 : Int32)), .val (.int (Int32.ofNat nm)), .unset, .unset, .unset, .unset, .unset, .unset, .unset, .unset, .unset, .unset]) rfl ?_
    refine W0.iloadN me at_83 rfl ?_
    refine W0.sipush me at_84 (v := 255) rfl ?_
    refine W0.iand me at_87 ?_
    refine W0.i2c me at_88 ?_
    show Fi p e below s Z _ _ _ _ T0 (mkF m 89 #[.val (.int p0), .val (.int p1), .val (.int p2), .val (.int (Int32.ofNat np)), .val (.int a0c), .val (.int a1c), .val (.int (Int32.ofNat nb)), .val (.int b0c), .val (.int b1c), .val (.int (0 : Int32)), .val (.int (Int32.ofNat nm)), .unset, .unset, .unset, .unset, .unset, .unset, .unset, .unset, .unset, .unset] [(.int ((p2 &&& (255 : Int32)).toUInt32.toUInt16.toUInt32.toInt32))])
    obtain ⟨m0c, hm0c⟩ : ∃ z, z = ((p2 &&& (255 : Int32)).toUInt32.toUInt16.toUInt32.toInt32) := ⟨_, rfl⟩
    rw [← hm0c]
    have qm0c : ¬ m0c < 0 ∧ ¬ (255 : Int32) < m0c := hm0c ▸ c255 p2
    show Fi p e below s Z _ _ _ _ T0 (mkF m 89 #[.val (.int p0), .val (.int p1), .val (.int p2), .val (.int (Int32.ofNat np)), .val (.int a0c), .val (.int a1c), .val (.int (Int32.ofNat nb)), .val (.int b0c), .val (.int b1c), .val (.int (0 : Int32)), .val (.int (Int32.ofNat nm)), .unset, .unset, .unset, .unset, .unset, .unset, .unset, .unset, .unset, .unset] [(.int m0c)])
    refine W0.istore me at_89 (l' := #[.val (.int p0), .val (.int p1), .val (.int p2), .val (.int (Int32.ofNat np)), .val (.int a0c), .val (.int a1c), .val (.int (Int32.ofNat nb)), .val (.int b0c), .val (.int b1c), .val (.int (0 : Int32)), .val (.int (Int32.ofNat nm)), .val (.int m0c), .unset, .unset, .unset, .unset, .unset, .unset, .unset, .unset, .unset]) rfl ?_
    refine W0.iloadN me at_91 rfl ?_
    refine W0.bipush me at_92 (v := 8) rfl ?_
    refine W0.iushr me at_94 ?_
    refine W0.sipush me at_95 (v := 255) rfl ?_
    refine W0.iand me at_98 ?_
    refine W0.i2c me at_99 ?_
    show Fi p e below s Z _ _ _ _ T0 (mkF m 100 #[.val (.int p0), .val (.int p1), .val (.int p2), .val (.int (Int32.ofNat np)), .val (.int a0c), .val (.int a1c), .val (.int (Int32.ofNat nb)), .val (.int b0c), .val (.int b1c), .val (.int (0 : Int32)), .val (.int (Int32.ofNat nm)), .val (.int m0c), .unset, .unset, .unset, .unset, .unset, .unset, .unset, .unset, .unset] [(.int (((XT.ushr p2 (8 : Int32)) &&& (255 : Int32)).toUInt32.toUInt16.toUInt32.toInt32))])
    obtain ⟨m1c, hm1c⟩ : ∃ z, z = (((XT.ushr p2 (8 : Int32)) &&& (255 : Int32)).toUInt32.toUInt16.toUInt32.toInt32) := ⟨_, rfl⟩
    rw [← hm1c]
    have qm1c : ¬ m1c < 0 ∧ ¬ (255 : Int32) < m1c := hm1c ▸ c255 (XT.ushr p2 (8 : Int32))
    show Fi p e below s Z _ _ _ _ T0 (mkF m 100 #[.val (.int p0), .val (.int p1), .val (.int p2), .val (.int (Int32.ofNat np)), .val (.int a0c), .val (.int a1c), .val (.int (Int32.ofNat nb)), .val (.int b0c), .val (.int b1c), .val (.int (0 : Int32)), .val (.int (Int32.ofNat nm)), .val (.int m0c), .unset, .unset, .unset, .unset, .unset, .unset, .unset, .unset, .unset] [(.int m1c)])
    refine W0.istore me at_100 (l' := #[.val (.int p0), .val (.int p1), .val (.int p2), .val (.int (Int32.ofNat np)), .val (.int a0c), .val (.int a1c), .val (.int (Int32.ofNat nb)), .val (.int b0c), .val (.int b1c), .val (.int (0 : Int32)), .val (.int (Int32.ofNat nm)), .val (.int m0c), .val (.int m1c), .unset, .unset, .unset, .unset, .unset, .unset, .unset, .unset]) rfl ?_
    refine W0.iloadN me at_102 rfl ?_
    refine W0.iload me at_103 rfl ?_
    refine W0.iload me at_105 rfl ?_
    show Fi p e below s Z _ _ _ _ T0 (mkF m 107 #[.val (.int p0), .val (.int p1), .val (.int p2), .val (.int (Int32.ofNat np)), .val (.int a0c), .val (.int a1c), .val (.int (Int32.ofNat nb)), .val (.int b0c), .val (.int b1c), .val (.int (0 : Int32)), .val (.int (Int32.ofNat nm)), .val (.int m0c), .val (.int m1c), .unset, .unset, .unset, .unset, .unset, .unset, .unset, .unset] [(.int a1c), (.int a0c), (.int (Int32.ofNat np))])
    refine W0.callS me hEL (hw _ (List.mem_of_getElem? (i := 0) rfl)) (hw _ (List.mem_of_getElem? (i := 1) rfl)) (hw _ (List.mem_of_getElem? (i := 2) rfl)) (hw _ (List.mem_of_getElem? (i := 3) rfl)) (argsL := [(.int (Int32.ofNat np)), (.int a0c), (.int a1c)]) (rest := []) (c_mk (ss := []) g W0.old hnp qa0c qa1c) at_107 (by decide) (fun _ q => nomatch q) rfl (lenOf pd_30 rfl) (own_le rfl) (own_le rfl) (own_le rfl) (own_le rfl) rfl ?_
    intro T1 h1 v1 W1 z1 q1
    obtain ⟨sf1, X1, _, rfl, E1, a1, rfl, L1⟩ := q1
    show Fi p e below s Z _ _ _ _ T1 (mkF m 110 #[.val (.int p0), .val (.int p1), .val (.int p2), .val (.int (Int32.ofNat np)), .val (.int a0c), .val (.int a1c), .val (.int (Int32.ofNat nb)), .val (.int b0c), .val (.int b1c), .val (.int (0 : Int32)), .val (.int (Int32.ofNat nm)), .val (.int m0c), .val (.int m1c), .unset, .unset, .unset, .unset, .unset, .unset, .unset, .unset] [(.ref a1)])
    refine W1.astore me at_110 (l' := #[.val (.int p0), .val (.int p1), .val (.int p2), .val (.int (Int32.ofNat np)), .val (.int a0c), .val (.int a1c), .val (.int (Int32.ofNat nb)), .val (.int b0c), .val (.int b1c), .val (.int (0 : Int32)), .val (.int (Int32.ofNat nm)), .val (.int m0c), .val (.int m1c), .val (.ref a1), .unset, .unset, .unset, .unset, .unset, .unset, .unset]) rfl rfl ?_
    refine W1.iload me at_112 rfl ?_
    show Fi p e below s Z _ _ _ _ T1 (mkF m 114 #[.val (.int p0), .val (.int p1), .val (.int p2), .val (.int (Int32.ofNat np)), .val (.int a0c), .val (.int a1c), .val (.int (Int32.ofNat nb)), .val (.int b0c), .val (.int b1c), .val (.int (0 : Int32)), .val (.int (Int32.ofNat nm)), .val (.int m0c), .val (.int m1c), .val (.ref a1), .unset, .unset, .unset, .unset, .unset, .unset, .unset] [(.int (0 : Int32))])
    refine W1.ifY_eq me at_114 (by decide) (pc' := 129) (by decide) (by decide) ?_
    show Fi p e below s Z _ _ _ _ T1 (mkF m 129 #[.val (.int p0), .val (.int p1), .val (.int p2), .val (.int (Int32.ofNat np)), .val (.int a0c), .val (.int a1c), .val (.int (Int32.ofNat nb)), .val (.int b0c), .val (.int b1c), .val (.int (0 : Int32)), .val (.int (Int32.ofNat nm)), .val (.int m0c), .val (.int m1c), .val (.ref a1), .unset, .unset, .unset, .unset, .unset, .unset, .unset] [])
    refine W1.aconstNull me at_129 ?_
    refine W1.astore me at_130 (l' := #[.val (.int p0), .val (.int p1), .val (.int p2), .val (.int (Int32.ofNat np)), .val (.int a0c), .val (.int a1c), .val (.int (Int32.ofNat nb)), .val (.int b0c), .val (.int b1c), .val (.int (0 : Int32)), .val (.int (Int32.ofNat nm)), .val (.int m0c), .val (.int m1c), .val (.ref a1), .val .null, .unset, .unset, .unset, .unset, .unset, .unset]) rfl rfl ?_
    refine W1.iload me at_132 rfl ?_
    refine W1.iload me at_134 rfl ?_
    refine W1.iload me at_136 rfl ?_
    show Fi p e below s Z _ _ _ _ T1 (mkF m 138 #[.val (.int p0), .val (.int p1), .val (.int p2), .val (.int (Int32.ofNat np)), .val (.int a0c), .val (.int a1c), .val (.int (Int32.ofNat nb)), .val (.int b0c), .val (.int b1c), .val (.int (0 : Int32)), .val (.int (Int32.ofNat nm)), .val (.int m0c), .val (.int m1c), .val (.ref a1), .val .null, .unset, .unset, .unset, .unset, .unset, .unset] [(.int m1c), (.int m0c), (.int (Int32.ofNat nm))])
    refine W1.callS me hEL (hw _ (List.mem_of_getElem? (i := 0) rfl)) (hw _ (List.mem_of_getElem? (i := 1) rfl)) (hw _ (List.mem_of_getElem? (i := 2) rfl)) (hw _ (List.mem_of_getElem? (i := 3) rfl)) (argsL := [(.int (Int32.ofNat nm)), (.int m0c), (.int m1c)]) (rest := []) (c_mk (ss := []) g W1.old hnm qm0c qm1c) at_138 (by decide) (fun _ q => nomatch q) rfl (lenOf pd_30 rfl) (own_le rfl) (own_le rfl) (own_le rfl) (own_le rfl) rfl ?_
    intro T2 h2 v2 W2 z2 q2
    obtain ⟨sf2, X2, _, rfl, E2, a2, rfl, L2⟩ := q2
    show Fi p e below s Z _ _ _ _ T2 (mkF m 141 #[.val (.int p0), .val (.int p1), .val (.int p2), .val (.int (Int32.ofNat np)), .val (.int a0c), .val (.int a1c), .val (.int (Int32.ofNat nb)), .val (.int b0c), .val (.int b1c), .val (.int (0 : Int32)), .val (.int (Int32.ofNat nm)), .val (.int m0c), .val (.int m1c), .val (.ref a1), .val .null, .unset, .unset, .unset, .unset, .unset, .unset] [(.ref a2)])
    replace L1 := L1.ext E2
    refine W2.astore me at_141 (l' := #[.val (.int p0), .val (.int p1), .val (.int p2), .val (.int (Int32.ofNat np)), .val (.int a0c), .val (.int a1c), .val (.int (Int32.ofNat nb)), .val (.int b0c), .val (.int b1c), .val (.int (0 : Int32)), .val (.int (Int32.ofNat nm)), .val (.int m0c), .val (.int m1c), .val (.ref a1), .val .null, .val (.ref a2), .unset, .unset, .unset, .unset, .unset]) rfl rfl ?_
    show Fi p e below s Z _ _ _ _ T2 (mkF m 143 #[.val (.int p0), .val (.int p1), .val (.int p2), .val (.int (Int32.ofNat np)), .val (.int a0c), .val (.int a1c), .val (.int (Int32.ofNat nb)), .val (.int b0c), .val (.int b1c), .val (.int (0 : Int32)), .val (.int (Int32.ofNat nm)), .val (.int m0c), .val (.int m1c), .val (.ref a1), .val .null, .val (.ref a2), .unset, .unset, .unset, .unset, .unset] [])
    refine W2.newO me (hw _ (List.mem_of_getElem? (i := 26) rfl)) (hw _ (List.mem_of_getElem? (i := 27) rfl)) (hw _ (List.mem_of_getElem? (i := 28) rfl)) at_143 (own_le rfl) (own_le rfl) ?_
    intro T3 h3 a3 g3 W3 E3 A3 D3 U3
    show Fi p e below s Z _ _ _ _ T3 (mkF m 146 #[.val (.int p0), .val (.int p1), .val (.int p2), .val (.int (Int32.ofNat np)), .val (.int a0c), .val (.int a1c), .val (.int (Int32.ofNat nb)), .val (.int b0c), .val (.int b1c), .val (.int (0 : Int32)), .val (.int (Int32.ofNat nm)), .val (.int m0c), .val (.int m1c), .val (.ref a1), .val .null, .val (.ref a2), .unset, .unset, .unset, .unset, .unset] [(.ref a3)])
    refine W3.dup me at_146 rfl ?_
    refine W3.aload me at_147 rfl rfl ?_
    show Fi p e below s Z _ _ _ _ T3 (mkF m 149 #[.val (.int p0), .val (.int p1), .val (.int p2), .val (.int (Int32.ofNat np)), .val (.int a0c), .val (.int a1c), .val (.int (Int32.ofNat nb)), .val (.int b0c), .val (.int b1c), .val (.int (0 : Int32)), .val (.int (Int32.ofNat nm)), .val (.int m0c), .val (.int m1c), .val (.ref a1), .val .null, .val (.ref a2), .unset, .unset, .unset, .unset, .unset] [(.ref a1), (.ref a3), (.ref a3)])
    replace L1 := L1.ext E3
    replace L2 := L2.ext E3
    have hzx : Z.heap.size ≤ a3 := by have := W2.old.2.1; omega
    refine W3.callI me hEL (hw _ (List.mem_of_getElem? (i := 29) rfl)) (hw _ (List.mem_of_getElem? (i := 30) rfl)) (hw _ (List.mem_of_getElem? (i := 28) rfl)) (hw _ (List.mem_of_getElem? (i := 31) rfl)) rfl (a := a3) (argsL := [(.ref a1)]) (rest := [(.ref a3)]) (c_orig (ss := []) g W3.old A3 (D3 (Or.inr (hw _ (List.mem_of_getElem? (i := 39) rfl))) (ty := .object "java/lang/String") (by decide)) hzx) at_149 (by decide) (fun _ q => nomatch q) rfl (lenOf pd_15 rfl) (own_le rfl) (own_le rfl) (own_le rfl) (own_le rfl) rfl ?_
    intro T4 h4 v4 W4 z4 q4
    obtain ⟨sf4, X4, rfl, K4, EX4, FP4⟩ := q4
    show Fi p e below s Z _ _ _ _ T4 (mkF m 152 #[.val (.int p0), .val (.int p1), .val (.int p2), .val (.int (Int32.ofNat np)), .val (.int a0c), .val (.int a1c), .val (.int (Int32.ofNat nb)), .val (.int b0c), .val (.int b1c), .val (.int (0 : Int32)), .val (.int (Int32.ofNat nm)), .val (.int m0c), .val (.int m1c), .val (.ref a1), .val .null, .val (.ref a2), .unset, .unset, .unset, .unset, .unset] [(.ref a3)])
    replace L1 := own_latk L1 K4 A3 (by decide) (hw _ (List.mem_of_getElem? (i := 27) rfl))
    replace L2 := own_latk L2 K4 A3 (by decide) (hw _ (List.mem_of_getElem? (i := 27) rfl))
    refine W4.aload me at_152 rfl rfl ?_
    refine W4.aload me at_154 rfl rfl ?_
    show Fi p e below s Z _ _ _ _ T4 (mkF m 156 #[.val (.int p0), .val (.int p1), .val (.int p2), .val (.int (Int32.ofNat np)), .val (.int a0c), .val (.int a1c), .val (.int (Int32.ofNat nb)), .val (.int b0c), .val (.int b1c), .val (.int (0 : Int32)), .val (.int (Int32.ofNat nm)), .val (.int m0c), .val (.int m1c), .val (.ref a1), .val .null, .val (.ref a2), .unset, .unset, .unset, .unset, .unset] [(.ref a2), .null, (.ref a3)])
    obtain ⟨vp, LP⟩ := L1.opn
    obtain ⟨vm, LM⟩ := L2.opn
    have lps : (sub [a0c, a1c] 0 np).length = np := sub_len (by show 0 + np ≤ 2; omega)
    have lms : (sub [m0c, m1c] 0 nm).length = nm := sub_len (by show 0 + nm ≤ 2; omega)
    refine W4.callV me hEL (hw _ (List.mem_of_getElem? (i := 40) rfl)) (hw _ (List.mem_of_getElem? (i := 41) rfl)) (fun hZ' => notFace_of_selects (args := #[]) (mvT (s := s.setVm _) hZ' (hw _ (List.mem_of_getElem? (i := 43) rfl)))) (hw _ (List.mem_of_getElem? (i := 43) rfl)) (hw _ (List.mem_of_getElem? (i := 42) rfl)) (hw _ (List.mem_of_getElem? (i := 28) rfl)) (hw _ (List.mem_of_getElem? (i := 44) rfl)) (a := a3) (argsL := [.null, (.ref a2)]) (rest := []) EX4 (c_says0 (ss := []) g W4.old (bs := []) EX4 FP4 LP (by omega) (by omega) LM) at_156 (by decide) (fun _ q => nomatch q) rfl (lenOf pd_31 rfl) (own_le rfl) (own_le rfl) (own_le rfl) (own_le rfl) rfl ?_
    intro T5 h5 v5 W5 z5 q5
    obtain ⟨sf5, X5, _, rfl, E5, d5, rfl, L5⟩ := q5
    show Fi p e below s Z _ _ _ _ T5 (mkF m 159 #[.val (.int p0), .val (.int p1), .val (.int p2), .val (.int (Int32.ofNat np)), .val (.int a0c), .val (.int a1c), .val (.int (Int32.ofNat nb)), .val (.int b0c), .val (.int b1c), .val (.int (0 : Int32)), .val (.int (Int32.ofNat nm)), .val (.int m0c), .val (.int m1c), .val (.ref a1), .val .null, .val (.ref a2), .unset, .unset, .unset, .unset, .unset] [(.ref d5)])
    obtain ⟨rs, hrs⟩ : ∃ z : List Int32, z = ((sub [a0c, a1c] 0 np) ++ [(58 : Int32), 32] ++ (sub [m0c, m1c] 0 nm)) := ⟨_, rfl⟩
    rw [← hrs] at L5
    have lrs : rs.length = np + 2 + nm := by rw [hrs]; simp only [List.length_append, List.length_cons, List.length_nil, lps, lms]
    have f0 : ∀ i, i < np → rs.getD i 0 = (sub [a0c, a1c] 0 np).getD i 0 := fun i hi => by rw [hrs, own_gl (by simp only [List.length_append, List.length_cons, List.length_nil, lps]; omega), own_gl (by omega)]
    have f1 : ∀ i, i < 2 → rs.getD (np + i) 0 = ([(58 : Int32), 32] : List Int32).getD i 0 := fun i hi => by rw [hrs, own_gl (by simp only [List.length_append, List.length_cons, List.length_nil, lps]; omega), own_gr lps]
    have f4 : ∀ i, i < nm → rs.getD (np + 2 + i) 0 = (sub [m0c, m1c] 0 nm).getD i 0 := fun i hi => by rw [hrs, own_gr (n := np + 2) (by simp only [List.length_append, List.length_cons, List.length_nil, lps])]
    refine W5.astore me at_159 (l' := #[.val (.int p0), .val (.int p1), .val (.int p2), .val (.int (Int32.ofNat np)), .val (.int a0c), .val (.int a1c), .val (.int (Int32.ofNat nb)), .val (.int b0c), .val (.int b1c), .val (.int (0 : Int32)), .val (.int (Int32.ofNat nm)), .val (.int m0c), .val (.int m1c), .val (.ref a1), .val .null, .val (.ref a2), .val (.ref d5), .unset, .unset, .unset, .unset]) rfl rfl ?_
    refine W5.aload me at_161 rfl rfl ?_
    show Fi p e below s Z _ _ _ _ T5 (mkF m 163 #[.val (.int p0), .val (.int p1), .val (.int p2), .val (.int (Int32.ofNat np)), .val (.int a0c), .val (.int a1c), .val (.int (Int32.ofNat nb)), .val (.int b0c), .val (.int b1c), .val (.int (0 : Int32)), .val (.int (Int32.ofNat nm)), .val (.int m0c), .val (.int m1c), .val (.ref a1), .val .null, .val (.ref a2), .val (.ref d5), .unset, .unset, .unset, .unset] [(.ref d5)])
    refine W5.nonnullY me at_163 (pc' := 168) (by decide) (by decide) ?_
    show Fi p e below s Z _ _ _ _ T5 (mkF m 168 #[.val (.int p0), .val (.int p1), .val (.int p2), .val (.int (Int32.ofNat np)), .val (.int a0c), .val (.int a1c), .val (.int (Int32.ofNat nb)), .val (.int b0c), .val (.int b1c), .val (.int (0 : Int32)), .val (.int (Int32.ofNat nm)), .val (.int m0c), .val (.int m1c), .val (.ref a1), .val .null, .val (.ref a2), .val (.ref d5), .unset, .unset, .unset, .unset] [])
    refine W5.iloadN me at_168 rfl ?_
    refine W5.iconst me at_169 (v := 1) rfl ?_
    show Fi p e below s Z _ _ _ _ T5 (mkF m 170 #[.val (.int p0), .val (.int p1), .val (.int p2), .val (.int (Int32.ofNat np)), .val (.int a0c), .val (.int a1c), .val (.int (Int32.ofNat nb)), .val (.int b0c), .val (.int b1c), .val (.int (0 : Int32)), .val (.int (Int32.ofNat nm)), .val (.int m0c), .val (.int m1c), .val (.ref a1), .val .null, .val (.ref a2), .val (.ref d5), .unset, .unset, .unset, .unset] [(.int (1 : Int32)), (.int (Int32.ofNat np))])
    show Fi p e below s Z _ _ _ _ T5 (mkF m 170 #[.val (.int p0), .val (.int p1), .val (.int p2), .val (.int (Int32.ofNat np)), .val (.int a0c), .val (.int a1c), .val (.int (Int32.ofNat nb)), .val (.int b0c), .val (.int b1c), .val (.int (0 : Int32)), .val (.int (Int32.ofNat nm)), .val (.int m0c), .val (.int m1c), .val (.ref a1), .val .null, .val (.ref a2), .val (.ref d5), .unset, .unset, .unset, .unset] [(.int (1 : Int32)), (.int (Int32.ofNat np))])
    have J6 : ∀ (T1 : State), Wk p l e room_1 s m #[(.int p0), (.int p1), (.int p2)] below meth c Z consts_1 kn "com/example/cadi/cadi/OriginSaysPinLaw" T1 h5 [] 19 105 → Fi p e below s Z consts_1 room_1.cells room_1.slots (rV fun v h => v = .int 1) T1 (mkF m 184 #[.val (.int p0), .val (.int p1), .val (.int p2), .val (.int (Int32.ofNat np)), .val (.int a0c), .val (.int a1c), .val (.int (Int32.ofNat nb)), .val (.int b0c), .val (.int b1c), .val (.int (0 : Int32)), .val (.int (Int32.ofNat nm)), .val (.int m0c), .val (.int m1c), .val (.ref a1), .val .null, .val (.ref a2), .val (.ref d5), .unset, .unset, .unset, .unset] []) := by
      intro TJ6 WJ6
      refine WJ6.iloadN me at_184 rfl ?_
      refine WJ6.iconst me at_185 (v := 2) rfl ?_
      show Fi p e below s Z _ _ _ _ TJ6 (mkF m 186 #[.val (.int p0), .val (.int p1), .val (.int p2), .val (.int (Int32.ofNat np)), .val (.int a0c), .val (.int a1c), .val (.int (Int32.ofNat nb)), .val (.int b0c), .val (.int b1c), .val (.int (0 : Int32)), .val (.int (Int32.ofNat nm)), .val (.int m0c), .val (.int m1c), .val (.ref a1), .val .null, .val (.ref a2), .val (.ref d5), .unset, .unset, .unset, .unset] [(.int (2 : Int32)), (.int (Int32.ofNat np))])
      have J7 : ∀ (T1 : State), Wk p l e room_1 s m #[(.int p0), (.int p1), (.int p2)] below meth c Z consts_1 kn "com/example/cadi/cadi/OriginSaysPinLaw" T1 h5 [] 19 105 → Fi p e below s Z consts_1 room_1.cells room_1.slots (rV fun v h => v = .int 1) T1 (mkF m 200 #[.val (.int p0), .val (.int p1), .val (.int p2), .val (.int (Int32.ofNat np)), .val (.int a0c), .val (.int a1c), .val (.int (Int32.ofNat nb)), .val (.int b0c), .val (.int b1c), .val (.int (0 : Int32)), .val (.int (Int32.ofNat nm)), .val (.int m0c), .val (.int m1c), .val (.ref a1), .val .null, .val (.ref a2), .val (.ref d5), .unset, .unset, .unset, .unset] []) := by
        intro TJ7 WJ7
        refine WJ7.iconst me at_200 (v := 1) rfl ?_
        refine WJ7.goto me at_201 (pc' := 205) (by decide) (by decide) ?_
        refine WJ7.istore me at_205 (l' := #[.val (.int p0), .val (.int p1), .val (.int p2), .val (.int (Int32.ofNat np)), .val (.int a0c), .val (.int a1c), .val (.int (Int32.ofNat nb)), .val (.int b0c), .val (.int b1c), .val (.int (0 : Int32)), .val (.int (Int32.ofNat nm)), .val (.int m0c), .val (.int m1c), .val (.ref a1), .val .null, .val (.ref a2), .val (.ref d5), .val (.int (1 : Int32)), .unset, .unset, .unset]) rfl ?_
        show Fi p e below s Z _ _ _ _ TJ7 (mkF m 207 #[.val (.int p0), .val (.int p1), .val (.int p2), .val (.int (Int32.ofNat np)), .val (.int a0c), .val (.int a1c), .val (.int (Int32.ofNat nb)), .val (.int b0c), .val (.int b1c), .val (.int (0 : Int32)), .val (.int (Int32.ofNat nm)), .val (.int m0c), .val (.int m1c), .val (.ref a1), .val .null, .val (.ref a2), .val (.ref d5), .val (.int (1 : Int32)), .unset, .unset, .unset] [])
        show Fi p e below s Z _ _ _ _ TJ7 (mkF m 207 #[.val (.int p0), .val (.int p1), .val (.int p2), .val (.int (Int32.ofNat np)), .val (.int a0c), .val (.int a1c), .val (.int (Int32.ofNat nb)), .val (.int b0c), .val (.int b1c), .val (.int (0 : Int32)), .val (.int (Int32.ofNat nm)), .val (.int m0c), .val (.int m1c), .val (.ref a1), .val .null, .val (.ref a2), .val (.ref d5), .val (.int (1 : Int32)), .unset, .unset, .unset] [])
        refine WJ7.iload me at_207 rfl ?_
        show Fi p e below s Z _ _ _ _ TJ7 (mkF m 209 #[.val (.int p0), .val (.int p1), .val (.int p2), .val (.int (Int32.ofNat np)), .val (.int a0c), .val (.int a1c), .val (.int (Int32.ofNat nb)), .val (.int b0c), .val (.int b1c), .val (.int (0 : Int32)), .val (.int (Int32.ofNat nm)), .val (.int m0c), .val (.int m1c), .val (.ref a1), .val .null, .val (.ref a2), .val (.ref d5), .val (.int (1 : Int32)), .unset, .unset, .unset] [(.int (0 : Int32))])
        refine WJ7.ifN_ne me at_209 (by decide) ?_
        show Fi p e below s Z _ _ _ _ TJ7 (mkF m 212 #[.val (.int p0), .val (.int p1), .val (.int p2), .val (.int (Int32.ofNat np)), .val (.int a0c), .val (.int a1c), .val (.int (Int32.ofNat nb)), .val (.int b0c), .val (.int b1c), .val (.int (0 : Int32)), .val (.int (Int32.ofNat nm)), .val (.int m0c), .val (.int m1c), .val (.ref a1), .val .null, .val (.ref a2), .val (.ref d5), .val (.int (1 : Int32)), .unset, .unset, .unset] [])
        refine WJ7.aload me at_212 rfl rfl ?_
        show Fi p e below s Z _ _ _ _ TJ7 (mkF m 214 #[.val (.int p0), .val (.int p1), .val (.int p2), .val (.int (Int32.ofNat np)), .val (.int a0c), .val (.int a1c), .val (.int (Int32.ofNat nb)), .val (.int b0c), .val (.int b1c), .val (.int (0 : Int32)), .val (.int (Int32.ofNat nm)), .val (.int m0c), .val (.int m1c), .val (.ref a1), .val .null, .val (.ref a2), .val (.ref d5), .val (.int (1 : Int32)), .unset, .unset, .unset] [(.ref d5)])
        refine WJ7.callV me hEL (hw _ (List.mem_of_getElem? (i := 172) rfl)) (hw _ (List.mem_of_getElem? (i := 88) rfl)) (fun hZ' => notFace_of_selects (args := #[]) (mvT (s := s.setVm _) hZ' (hw _ (List.mem_of_getElem? (i := 90) rfl)))) (hw _ (List.mem_of_getElem? (i := 90) rfl)) (hw _ (List.mem_of_getElem? (i := 89) rfl)) (hw _ (List.mem_of_getElem? (i := 6) rfl)) (hw _ (List.mem_of_getElem? (i := 91) rfl)) (a := d5) (argsL := []) (rest := []) L5.exa (c_length (ss := []) g WJ7.old L5) at_214 (by decide) (fun _ q => nomatch q) rfl (lenOf pd_17 rfl) (own_le rfl) (own_le rfl) (own_le rfl) (own_le rfl) rfl ?_
        intro T8 h8 v8 W8 z8 q8
        obtain ⟨sf8, X8, _, rfl, rfl, rfl⟩ := q8
        show Fi p e below s Z _ _ _ _ T8 (mkF m 217 #[.val (.int p0), .val (.int p1), .val (.int p2), .val (.int (Int32.ofNat np)), .val (.int a0c), .val (.int a1c), .val (.int (Int32.ofNat nb)), .val (.int b0c), .val (.int b1c), .val (.int (0 : Int32)), .val (.int (Int32.ofNat nm)), .val (.int m0c), .val (.int m1c), .val (.ref a1), .val .null, .val (.ref a2), .val (.ref d5), .val (.int (1 : Int32)), .unset, .unset, .unset] [(.int (Int32.ofNat rs.length))])
        refine W8.iloadN me at_217 rfl ?_
        refine W8.iconst me at_218 (v := 2) rfl ?_
        show Fi p e below s Z _ _ _ _ T8 (mkF m 219 #[.val (.int p0), .val (.int p1), .val (.int p2), .val (.int (Int32.ofNat np)), .val (.int a0c), .val (.int a1c), .val (.int (Int32.ofNat nb)), .val (.int b0c), .val (.int b1c), .val (.int (0 : Int32)), .val (.int (Int32.ofNat nm)), .val (.int m0c), .val (.int m1c), .val (.ref a1), .val .null, .val (.ref a2), .val (.ref d5), .val (.int (1 : Int32)), .unset, .unset, .unset] [(.int (2 : Int32)), (.int (Int32.ofNat np)), (.int (Int32.ofNat rs.length))])
        refine W8.iadd me at_219 ?_
        rw [show Int32.ofNat (np) + (2 : Int32) = Int32.ofNat (np + 2) from on_add _ _]
        show Fi p e below s Z _ _ _ _ T8 (mkF m 220 #[.val (.int p0), .val (.int p1), .val (.int p2), .val (.int (Int32.ofNat np)), .val (.int a0c), .val (.int a1c), .val (.int (Int32.ofNat nb)), .val (.int b0c), .val (.int b1c), .val (.int (0 : Int32)), .val (.int (Int32.ofNat nm)), .val (.int m0c), .val (.int m1c), .val (.ref a1), .val .null, .val (.ref a2), .val (.ref d5), .val (.int (1 : Int32)), .unset, .unset, .unset] [(.int (Int32.ofNat (np + 2))), (.int (Int32.ofNat rs.length))])
        refine W8.iload me at_220 rfl ?_
        show Fi p e below s Z _ _ _ _ T8 (mkF m 222 #[.val (.int p0), .val (.int p1), .val (.int p2), .val (.int (Int32.ofNat np)), .val (.int a0c), .val (.int a1c), .val (.int (Int32.ofNat nb)), .val (.int b0c), .val (.int b1c), .val (.int (0 : Int32)), .val (.int (Int32.ofNat nm)), .val (.int m0c), .val (.int m1c), .val (.ref a1), .val .null, .val (.ref a2), .val (.ref d5), .val (.int (1 : Int32)), .unset, .unset, .unset] [(.int (Int32.ofNat nm)), (.int (Int32.ofNat (np + 2))), (.int (Int32.ofNat rs.length))])
        refine W8.iadd me at_222 ?_
        rw [show Int32.ofNat (np + 2) + Int32.ofNat (nm) = Int32.ofNat (np + 2 + nm) from on_add _ _]
        show Fi p e below s Z _ _ _ _ T8 (mkF m 223 #[.val (.int p0), .val (.int p1), .val (.int p2), .val (.int (Int32.ofNat np)), .val (.int a0c), .val (.int a1c), .val (.int (Int32.ofNat nb)), .val (.int b0c), .val (.int b1c), .val (.int (0 : Int32)), .val (.int (Int32.ofNat nm)), .val (.int m0c), .val (.int m1c), .val (.ref a1), .val .null, .val (.ref a2), .val (.ref d5), .val (.int (1 : Int32)), .unset, .unset, .unset] [(.int (Int32.ofNat (np + 2 + nm))), (.int (Int32.ofNat rs.length))])
        refine W8.icN_ne me at_223 (by rw [lrs]) ?_
        show Fi p e below s Z _ _ _ _ T8 (mkF m 226 #[.val (.int p0), .val (.int p1), .val (.int p2), .val (.int (Int32.ofNat np)), .val (.int a0c), .val (.int a1c), .val (.int (Int32.ofNat nb)), .val (.int b0c), .val (.int b1c), .val (.int (0 : Int32)), .val (.int (Int32.ofNat nm)), .val (.int m0c), .val (.int m1c), .val (.ref a1), .val .null, .val (.ref a2), .val (.ref d5), .val (.int (1 : Int32)), .unset, .unset, .unset] [])
        refine W8.iload me at_226 rfl ?_
        show Fi p e below s Z _ _ _ _ T8 (mkF m 228 #[.val (.int p0), .val (.int p1), .val (.int p2), .val (.int (Int32.ofNat np)), .val (.int a0c), .val (.int a1c), .val (.int (Int32.ofNat nb)), .val (.int b0c), .val (.int b1c), .val (.int (0 : Int32)), .val (.int (Int32.ofNat nm)), .val (.int m0c), .val (.int m1c), .val (.ref a1), .val .null, .val (.ref a2), .val (.ref d5), .val (.int (1 : Int32)), .unset, .unset, .unset] [(.int (1 : Int32))])
        refine W8.ifN_eq me at_228 (by decide) ?_
        show Fi p e below s Z _ _ _ _ T8 (mkF m 231 #[.val (.int p0), .val (.int p1), .val (.int p2), .val (.int (Int32.ofNat np)), .val (.int a0c), .val (.int a1c), .val (.int (Int32.ofNat nb)), .val (.int b0c), .val (.int b1c), .val (.int (0 : Int32)), .val (.int (Int32.ofNat nm)), .val (.int m0c), .val (.int m1c), .val (.ref a1), .val .null, .val (.ref a2), .val (.ref d5), .val (.int (1 : Int32)), .unset, .unset, .unset] [])
        refine W8.aload me at_231 rfl rfl ?_
        refine W8.iloadN me at_233 rfl ?_
        refine W8.bipush me at_234 (v := 58) rfl ?_
        show Fi p e below s Z _ _ _ _ T8 (mkF m 236 #[.val (.int p0), .val (.int p1), .val (.int p2), .val (.int (Int32.ofNat np)), .val (.int a0c), .val (.int a1c), .val (.int (Int32.ofNat nb)), .val (.int b0c), .val (.int b1c), .val (.int (0 : Int32)), .val (.int (Int32.ofNat nm)), .val (.int m0c), .val (.int m1c), .val (.ref a1), .val .null, .val (.ref a2), .val (.ref d5), .val (.int (1 : Int32)), .unset, .unset, .unset] [(.int (58 : Int32)), (.int (Int32.ofNat np)), (.ref d5)])
        refine W8.callS me hEL (hw _ (List.mem_of_getElem? (i := 173) rfl)) (hw _ (List.mem_of_getElem? (i := 174) rfl)) (hw _ (List.mem_of_getElem? (i := 2) rfl)) (hw _ (List.mem_of_getElem? (i := 175) rfl)) (argsL := [(.ref d5), (.int (Int32.ofNat np)), (.int (58 : Int32))]) (rest := []) (c_at (ss := []) g W8.old (cs := rs) (i := np) L5 (by omega) (f1 0 (by omega))) at_236 (by decide) (fun _ q => nomatch q) rfl (lenOf pd_32 rfl) (own_le rfl) (own_le rfl) (own_le rfl) (own_le rfl) rfl ?_
        intro T9 h9 v9 W9 z9 q9
        obtain ⟨sf9, X9, _, rfl, rfl, rfl⟩ := q9
        show Fi p e below s Z _ _ _ _ T9 (mkF m 239 #[.val (.int p0), .val (.int p1), .val (.int p2), .val (.int (Int32.ofNat np)), .val (.int a0c), .val (.int a1c), .val (.int (Int32.ofNat nb)), .val (.int b0c), .val (.int b1c), .val (.int (0 : Int32)), .val (.int (Int32.ofNat nm)), .val (.int m0c), .val (.int m1c), .val (.ref a1), .val .null, .val (.ref a2), .val (.ref d5), .val (.int (1 : Int32)), .unset, .unset, .unset] [(.int (1 : Int32))])
        refine W9.ifN_eq me at_239 (by decide) ?_
        show Fi p e below s Z _ _ _ _ T9 (mkF m 242 #[.val (.int p0), .val (.int p1), .val (.int p2), .val (.int (Int32.ofNat np)), .val (.int a0c), .val (.int a1c), .val (.int (Int32.ofNat nb)), .val (.int b0c), .val (.int b1c), .val (.int (0 : Int32)), .val (.int (Int32.ofNat nm)), .val (.int m0c), .val (.int m1c), .val (.ref a1), .val .null, .val (.ref a2), .val (.ref d5), .val (.int (1 : Int32)), .unset, .unset, .unset] [])
        refine W9.aload me at_242 rfl rfl ?_
        refine W9.iloadN me at_244 rfl ?_
        refine W9.iconst me at_245 (v := 1) rfl ?_
        show Fi p e below s Z _ _ _ _ T9 (mkF m 246 #[.val (.int p0), .val (.int p1), .val (.int p2), .val (.int (Int32.ofNat np)), .val (.int a0c), .val (.int a1c), .val (.int (Int32.ofNat nb)), .val (.int b0c), .val (.int b1c), .val (.int (0 : Int32)), .val (.int (Int32.ofNat nm)), .val (.int m0c), .val (.int m1c), .val (.ref a1), .val .null, .val (.ref a2), .val (.ref d5), .val (.int (1 : Int32)), .unset, .unset, .unset] [(.int (1 : Int32)), (.int (Int32.ofNat np)), (.ref d5)])
        refine W9.iadd me at_246 ?_
        rw [show Int32.ofNat (np) + (1 : Int32) = Int32.ofNat (np + 1) from on_add _ _]
        show Fi p e below s Z _ _ _ _ T9 (mkF m 247 #[.val (.int p0), .val (.int p1), .val (.int p2), .val (.int (Int32.ofNat np)), .val (.int a0c), .val (.int a1c), .val (.int (Int32.ofNat nb)), .val (.int b0c), .val (.int b1c), .val (.int (0 : Int32)), .val (.int (Int32.ofNat nm)), .val (.int m0c), .val (.int m1c), .val (.ref a1), .val .null, .val (.ref a2), .val (.ref d5), .val (.int (1 : Int32)), .unset, .unset, .unset] [(.int (Int32.ofNat (np + 1))), (.ref d5)])
        refine W9.bipush me at_247 (v := 32) rfl ?_
        show Fi p e below s Z _ _ _ _ T9 (mkF m 249 #[.val (.int p0), .val (.int p1), .val (.int p2), .val (.int (Int32.ofNat np)), .val (.int a0c), .val (.int a1c), .val (.int (Int32.ofNat nb)), .val (.int b0c), .val (.int b1c), .val (.int (0 : Int32)), .val (.int (Int32.ofNat nm)), .val (.int m0c), .val (.int m1c), .val (.ref a1), .val .null, .val (.ref a2), .val (.ref d5), .val (.int (1 : Int32)), .unset, .unset, .unset] [(.int (32 : Int32)), (.int (Int32.ofNat (np + 1))), (.ref d5)])
        refine W9.callS me hEL (hw _ (List.mem_of_getElem? (i := 173) rfl)) (hw _ (List.mem_of_getElem? (i := 174) rfl)) (hw _ (List.mem_of_getElem? (i := 2) rfl)) (hw _ (List.mem_of_getElem? (i := 175) rfl)) (argsL := [(.ref d5), (.int (Int32.ofNat (np + 1))), (.int (32 : Int32))]) (rest := []) (c_at (ss := []) g W9.old (cs := rs) (i := (np + 1)) L5 (by omega) (f1 1 (by omega))) at_249 (by decide) (fun _ q => nomatch q) rfl (lenOf pd_32 rfl) (own_le rfl) (own_le rfl) (own_le rfl) (own_le rfl) rfl ?_
        intro T10 h10 v10 W10 z10 q10
        obtain ⟨sf10, X10, _, rfl, rfl, rfl⟩ := q10
        show Fi p e below s Z _ _ _ _ T10 (mkF m 252 #[.val (.int p0), .val (.int p1), .val (.int p2), .val (.int (Int32.ofNat np)), .val (.int a0c), .val (.int a1c), .val (.int (Int32.ofNat nb)), .val (.int b0c), .val (.int b1c), .val (.int (0 : Int32)), .val (.int (Int32.ofNat nm)), .val (.int m0c), .val (.int m1c), .val (.ref a1), .val .null, .val (.ref a2), .val (.ref d5), .val (.int (1 : Int32)), .unset, .unset, .unset] [(.int (1 : Int32))])
        refine W10.ifN_eq me at_252 (by decide) ?_
        show Fi p e below s Z _ _ _ _ T10 (mkF m 255 #[.val (.int p0), .val (.int p1), .val (.int p2), .val (.int (Int32.ofNat np)), .val (.int a0c), .val (.int a1c), .val (.int (Int32.ofNat nb)), .val (.int b0c), .val (.int b1c), .val (.int (0 : Int32)), .val (.int (Int32.ofNat nm)), .val (.int m0c), .val (.int m1c), .val (.ref a1), .val .null, .val (.ref a2), .val (.ref d5), .val (.int (1 : Int32)), .unset, .unset, .unset] [])
        refine W10.iload me at_255 rfl ?_
        refine W10.iconst me at_257 (v := 1) rfl ?_
        show Fi p e below s Z _ _ _ _ T10 (mkF m 258 #[.val (.int p0), .val (.int p1), .val (.int p2), .val (.int (Int32.ofNat np)), .val (.int a0c), .val (.int a1c), .val (.int (Int32.ofNat nb)), .val (.int b0c), .val (.int b1c), .val (.int (0 : Int32)), .val (.int (Int32.ofNat nm)), .val (.int m0c), .val (.int m1c), .val (.ref a1), .val .null, .val (.ref a2), .val (.ref d5), .val (.int (1 : Int32)), .unset, .unset, .unset] [(.int (1 : Int32)), (.int (Int32.ofNat nm))])
        have J11 : ∀ (T1 : State), Wk p l e room_1 s m #[(.int p0), (.int p1), (.int p2)] below meth c Z consts_1 kn "com/example/cadi/cadi/OriginSaysPinLaw" T1 h5 [] 19 105 → Fi p e below s Z consts_1 room_1.cells room_1.slots (rV fun v h => v = .int 1) T1 (mkF m 274 #[.val (.int p0), .val (.int p1), .val (.int p2), .val (.int (Int32.ofNat np)), .val (.int a0c), .val (.int a1c), .val (.int (Int32.ofNat nb)), .val (.int b0c), .val (.int b1c), .val (.int (0 : Int32)), .val (.int (Int32.ofNat nm)), .val (.int m0c), .val (.int m1c), .val (.ref a1), .val .null, .val (.ref a2), .val (.ref d5), .val (.int (1 : Int32)), .unset, .unset, .unset] []) := by
          intro TJ11 WJ11
          refine WJ11.iload me at_274 rfl ?_
          refine WJ11.iconst me at_276 (v := 2) rfl ?_
          show Fi p e below s Z _ _ _ _ TJ11 (mkF m 277 #[.val (.int p0), .val (.int p1), .val (.int p2), .val (.int (Int32.ofNat np)), .val (.int a0c), .val (.int a1c), .val (.int (Int32.ofNat nb)), .val (.int b0c), .val (.int b1c), .val (.int (0 : Int32)), .val (.int (Int32.ofNat nm)), .val (.int m0c), .val (.int m1c), .val (.ref a1), .val .null, .val (.ref a2), .val (.ref d5), .val (.int (1 : Int32)), .unset, .unset, .unset] [(.int (2 : Int32)), (.int (Int32.ofNat nm))])
          have J12 : ∀ (T1 : State), Wk p l e room_1 s m #[(.int p0), (.int p1), (.int p2)] below meth c Z consts_1 kn "com/example/cadi/cadi/OriginSaysPinLaw" T1 h5 [] 19 105 → Fi p e below s Z consts_1 room_1.cells room_1.slots (rV fun v h => v = .int 1) T1 (mkF m 293 #[.val (.int p0), .val (.int p1), .val (.int p2), .val (.int (Int32.ofNat np)), .val (.int a0c), .val (.int a1c), .val (.int (Int32.ofNat nb)), .val (.int b0c), .val (.int b1c), .val (.int (0 : Int32)), .val (.int (Int32.ofNat nm)), .val (.int m0c), .val (.int m1c), .val (.ref a1), .val .null, .val (.ref a2), .val (.ref d5), .val (.int (1 : Int32)), .unset, .unset, .unset] []) := by
            intro TJ12 WJ12
            refine WJ12.iconst me at_293 (v := 1) rfl ?_
            refine WJ12.goto me at_294 (pc' := 298) (by decide) (by decide) ?_
            show Fi p e below s Z _ _ _ _ TJ12 (mkF m 298 #[.val (.int p0), .val (.int p1), .val (.int p2), .val (.int (Int32.ofNat np)), .val (.int a0c), .val (.int a1c), .val (.int (Int32.ofNat nb)), .val (.int b0c), .val (.int b1c), .val (.int (0 : Int32)), .val (.int (Int32.ofNat nm)), .val (.int m0c), .val (.int m1c), .val (.ref a1), .val .null, .val (.ref a2), .val (.ref d5), .val (.int (1 : Int32)), .unset, .unset, .unset] [(.int (1 : Int32))])
            exact WJ12.retN hEL me (Or.inl rfl) at_298 rfl (by decide) (by decide)
          refine WJ11.ic_lt me at_277 (pc' := 293) (by decide) (by decide) (fun hf => ?_) (fun hf => ?_)
          ·
            show Fi p e below s Z _ _ _ _ TJ11 (mkF m 293 #[.val (.int p0), .val (.int p1), .val (.int p2), .val (.int (Int32.ofNat np)), .val (.int a0c), .val (.int a1c), .val (.int (Int32.ofNat nb)), .val (.int b0c), .val (.int b1c), .val (.int (0 : Int32)), .val (.int (Int32.ofNat nm)), .val (.int m0c), .val (.int m1c), .val (.ref a1), .val .null, .val (.ref a2), .val (.ref d5), .val (.int (1 : Int32)), .unset, .unset, .unset] [])
            exact J12 _ ((WJ11.less (ss' := []) (fun _ q => nomatch q)).more (own_le rfl) (own_le rfl))
          ·
            show Fi p e below s Z _ _ _ _ TJ11 (mkF m 280 #[.val (.int p0), .val (.int p1), .val (.int p2), .val (.int (Int32.ofNat np)), .val (.int a0c), .val (.int a1c), .val (.int (Int32.ofNat nb)), .val (.int b0c), .val (.int b1c), .val (.int (0 : Int32)), .val (.int (Int32.ofNat nm)), .val (.int m0c), .val (.int m1c), .val (.ref a1), .val .null, .val (.ref a2), .val (.ref d5), .val (.int (1 : Int32)), .unset, .unset, .unset] [])
            have hge := own_ge2 (by omega) hf
            refine WJ11.aload me at_280 rfl rfl ?_
            refine WJ11.iloadN me at_282 rfl ?_
            refine WJ11.iconst me at_283 (v := 3) rfl ?_
            show Fi p e below s Z _ _ _ _ TJ11 (mkF m 284 #[.val (.int p0), .val (.int p1), .val (.int p2), .val (.int (Int32.ofNat np)), .val (.int a0c), .val (.int a1c), .val (.int (Int32.ofNat nb)), .val (.int b0c), .val (.int b1c), .val (.int (0 : Int32)), .val (.int (Int32.ofNat nm)), .val (.int m0c), .val (.int m1c), .val (.ref a1), .val .null, .val (.ref a2), .val (.ref d5), .val (.int (1 : Int32)), .unset, .unset, .unset] [(.int (3 : Int32)), (.int (Int32.ofNat np)), (.ref d5)])
            refine WJ11.iadd me at_284 ?_
            rw [show Int32.ofNat (np) + (3 : Int32) = Int32.ofNat (np + 3) from on_add _ _]
            show Fi p e below s Z _ _ _ _ TJ11 (mkF m 285 #[.val (.int p0), .val (.int p1), .val (.int p2), .val (.int (Int32.ofNat np)), .val (.int a0c), .val (.int a1c), .val (.int (Int32.ofNat nb)), .val (.int b0c), .val (.int b1c), .val (.int (0 : Int32)), .val (.int (Int32.ofNat nm)), .val (.int m0c), .val (.int m1c), .val (.ref a1), .val .null, .val (.ref a2), .val (.ref d5), .val (.int (1 : Int32)), .unset, .unset, .unset] [(.int (Int32.ofNat (np + 3))), (.ref d5)])
            refine WJ11.iload me at_285 rfl ?_
            show Fi p e below s Z _ _ _ _ TJ11 (mkF m 287 #[.val (.int p0), .val (.int p1), .val (.int p2), .val (.int (Int32.ofNat np)), .val (.int a0c), .val (.int a1c), .val (.int (Int32.ofNat nb)), .val (.int b0c), .val (.int b1c), .val (.int (0 : Int32)), .val (.int (Int32.ofNat nm)), .val (.int m0c), .val (.int m1c), .val (.ref a1), .val .null, .val (.ref a2), .val (.ref d5), .val (.int (1 : Int32)), .unset, .unset, .unset] [(.int m1c), (.int (Int32.ofNat (np + 3))), (.ref d5)])
            refine WJ11.callS me hEL (hw _ (List.mem_of_getElem? (i := 173) rfl)) (hw _ (List.mem_of_getElem? (i := 174) rfl)) (hw _ (List.mem_of_getElem? (i := 2) rfl)) (hw _ (List.mem_of_getElem? (i := 175) rfl)) (argsL := [(.ref d5), (.int (Int32.ofNat (np + 3))), (.int m1c)]) (rest := []) (c_at (ss := []) g WJ11.old (cs := rs) (i := (np + 3)) L5 (by omega) ((f4 1 (by omega)).trans (own_sub1 hge))) at_287 (by decide) (fun _ q => nomatch q) rfl (lenOf pd_32 rfl) (own_le rfl) (own_le rfl) (own_le rfl) (own_le rfl) rfl ?_
            intro T13 h13 v13 W13 z13 q13
            obtain ⟨sf13, X13, _, rfl, rfl, rfl⟩ := q13
            show Fi p e below s Z _ _ _ _ T13 (mkF m 290 #[.val (.int p0), .val (.int p1), .val (.int p2), .val (.int (Int32.ofNat np)), .val (.int a0c), .val (.int a1c), .val (.int (Int32.ofNat nb)), .val (.int b0c), .val (.int b1c), .val (.int (0 : Int32)), .val (.int (Int32.ofNat nm)), .val (.int m0c), .val (.int m1c), .val (.ref a1), .val .null, .val (.ref a2), .val (.ref d5), .val (.int (1 : Int32)), .unset, .unset, .unset] [(.int (1 : Int32))])
            refine W13.ifN_eq me at_290 (by decide) ?_
            show Fi p e below s Z _ _ _ _ T13 (mkF m 293 #[.val (.int p0), .val (.int p1), .val (.int p2), .val (.int (Int32.ofNat np)), .val (.int a0c), .val (.int a1c), .val (.int (Int32.ofNat nb)), .val (.int b0c), .val (.int b1c), .val (.int (0 : Int32)), .val (.int (Int32.ofNat nm)), .val (.int m0c), .val (.int m1c), .val (.ref a1), .val .null, .val (.ref a2), .val (.ref d5), .val (.int (1 : Int32)), .unset, .unset, .unset] [])
            exact J12 _ ((W13.less (ss' := []) (fun _ q => nomatch q)).more (own_le rfl) (own_le rfl))
        refine W10.ic_lt me at_258 (pc' := 274) (by decide) (by decide) (fun hf => ?_) (fun hf => ?_)
        ·
          show Fi p e below s Z _ _ _ _ T10 (mkF m 274 #[.val (.int p0), .val (.int p1), .val (.int p2), .val (.int (Int32.ofNat np)), .val (.int a0c), .val (.int a1c), .val (.int (Int32.ofNat nb)), .val (.int b0c), .val (.int b1c), .val (.int (0 : Int32)), .val (.int (Int32.ofNat nm)), .val (.int m0c), .val (.int m1c), .val (.ref a1), .val .null, .val (.ref a2), .val (.ref d5), .val (.int (1 : Int32)), .unset, .unset, .unset] [])
          exact J11 _ ((W10.less (ss' := []) (fun _ q => nomatch q)).more (own_le rfl) (own_le rfl))
        ·
          show Fi p e below s Z _ _ _ _ T10 (mkF m 261 #[.val (.int p0), .val (.int p1), .val (.int p2), .val (.int (Int32.ofNat np)), .val (.int a0c), .val (.int a1c), .val (.int (Int32.ofNat nb)), .val (.int b0c), .val (.int b1c), .val (.int (0 : Int32)), .val (.int (Int32.ofNat nm)), .val (.int m0c), .val (.int m1c), .val (.ref a1), .val .null, .val (.ref a2), .val (.ref d5), .val (.int (1 : Int32)), .unset, .unset, .unset] [])
          have hge := own_ge1 (by omega) hf
          refine W10.aload me at_261 rfl rfl ?_
          refine W10.iloadN me at_263 rfl ?_
          refine W10.iconst me at_264 (v := 2) rfl ?_
          show Fi p e below s Z _ _ _ _ T10 (mkF m 265 #[.val (.int p0), .val (.int p1), .val (.int p2), .val (.int (Int32.ofNat np)), .val (.int a0c), .val (.int a1c), .val (.int (Int32.ofNat nb)), .val (.int b0c), .val (.int b1c), .val (.int (0 : Int32)), .val (.int (Int32.ofNat nm)), .val (.int m0c), .val (.int m1c), .val (.ref a1), .val .null, .val (.ref a2), .val (.ref d5), .val (.int (1 : Int32)), .unset, .unset, .unset] [(.int (2 : Int32)), (.int (Int32.ofNat np)), (.ref d5)])
          refine W10.iadd me at_265 ?_
          rw [show Int32.ofNat (np) + (2 : Int32) = Int32.ofNat (np + 2) from on_add _ _]
          show Fi p e below s Z _ _ _ _ T10 (mkF m 266 #[.val (.int p0), .val (.int p1), .val (.int p2), .val (.int (Int32.ofNat np)), .val (.int a0c), .val (.int a1c), .val (.int (Int32.ofNat nb)), .val (.int b0c), .val (.int b1c), .val (.int (0 : Int32)), .val (.int (Int32.ofNat nm)), .val (.int m0c), .val (.int m1c), .val (.ref a1), .val .null, .val (.ref a2), .val (.ref d5), .val (.int (1 : Int32)), .unset, .unset, .unset] [(.int (Int32.ofNat (np + 2))), (.ref d5)])
          refine W10.iload me at_266 rfl ?_
          show Fi p e below s Z _ _ _ _ T10 (mkF m 268 #[.val (.int p0), .val (.int p1), .val (.int p2), .val (.int (Int32.ofNat np)), .val (.int a0c), .val (.int a1c), .val (.int (Int32.ofNat nb)), .val (.int b0c), .val (.int b1c), .val (.int (0 : Int32)), .val (.int (Int32.ofNat nm)), .val (.int m0c), .val (.int m1c), .val (.ref a1), .val .null, .val (.ref a2), .val (.ref d5), .val (.int (1 : Int32)), .unset, .unset, .unset] [(.int m0c), (.int (Int32.ofNat (np + 2))), (.ref d5)])
          refine W10.callS me hEL (hw _ (List.mem_of_getElem? (i := 173) rfl)) (hw _ (List.mem_of_getElem? (i := 174) rfl)) (hw _ (List.mem_of_getElem? (i := 2) rfl)) (hw _ (List.mem_of_getElem? (i := 175) rfl)) (argsL := [(.ref d5), (.int (Int32.ofNat (np + 2))), (.int m0c)]) (rest := []) (c_at (ss := []) g W10.old (cs := rs) (i := (np + 2)) L5 (by omega) ((f4 0 (by omega)).trans (own_sub0 hge))) at_268 (by decide) (fun _ q => nomatch q) rfl (lenOf pd_32 rfl) (own_le rfl) (own_le rfl) (own_le rfl) (own_le rfl) rfl ?_
          intro T14 h14 v14 W14 z14 q14
          obtain ⟨sf14, X14, _, rfl, rfl, rfl⟩ := q14
          show Fi p e below s Z _ _ _ _ T14 (mkF m 271 #[.val (.int p0), .val (.int p1), .val (.int p2), .val (.int (Int32.ofNat np)), .val (.int a0c), .val (.int a1c), .val (.int (Int32.ofNat nb)), .val (.int b0c), .val (.int b1c), .val (.int (0 : Int32)), .val (.int (Int32.ofNat nm)), .val (.int m0c), .val (.int m1c), .val (.ref a1), .val .null, .val (.ref a2), .val (.ref d5), .val (.int (1 : Int32)), .unset, .unset, .unset] [(.int (1 : Int32))])
          refine W14.ifN_eq me at_271 (by decide) ?_
          show Fi p e below s Z _ _ _ _ T14 (mkF m 274 #[.val (.int p0), .val (.int p1), .val (.int p2), .val (.int (Int32.ofNat np)), .val (.int a0c), .val (.int a1c), .val (.int (Int32.ofNat nb)), .val (.int b0c), .val (.int b1c), .val (.int (0 : Int32)), .val (.int (Int32.ofNat nm)), .val (.int m0c), .val (.int m1c), .val (.ref a1), .val .null, .val (.ref a2), .val (.ref d5), .val (.int (1 : Int32)), .unset, .unset, .unset] [])
          exact J11 _ ((W14.less (ss' := []) (fun _ q => nomatch q)).more (own_le rfl) (own_le rfl))
      refine WJ6.ic_lt me at_186 (pc' := 200) (by decide) (by decide) (fun hf => ?_) (fun hf => ?_)
      ·
        show Fi p e below s Z _ _ _ _ TJ6 (mkF m 200 #[.val (.int p0), .val (.int p1), .val (.int p2), .val (.int (Int32.ofNat np)), .val (.int a0c), .val (.int a1c), .val (.int (Int32.ofNat nb)), .val (.int b0c), .val (.int b1c), .val (.int (0 : Int32)), .val (.int (Int32.ofNat nm)), .val (.int m0c), .val (.int m1c), .val (.ref a1), .val .null, .val (.ref a2), .val (.ref d5), .unset, .unset, .unset, .unset] [])
        exact J7 _ ((WJ6.less (ss' := []) (fun _ q => nomatch q)).more (own_le rfl) (own_le rfl))
      ·
        show Fi p e below s Z _ _ _ _ TJ6 (mkF m 189 #[.val (.int p0), .val (.int p1), .val (.int p2), .val (.int (Int32.ofNat np)), .val (.int a0c), .val (.int a1c), .val (.int (Int32.ofNat nb)), .val (.int b0c), .val (.int b1c), .val (.int (0 : Int32)), .val (.int (Int32.ofNat nm)), .val (.int m0c), .val (.int m1c), .val (.ref a1), .val .null, .val (.ref a2), .val (.ref d5), .unset, .unset, .unset, .unset] [])
        have hge := own_ge2 (by omega) hf
        refine WJ6.aload me at_189 rfl rfl ?_
        refine WJ6.iconst me at_191 (v := 1) rfl ?_
        refine WJ6.iload me at_192 rfl ?_
        show Fi p e below s Z _ _ _ _ TJ6 (mkF m 194 #[.val (.int p0), .val (.int p1), .val (.int p2), .val (.int (Int32.ofNat np)), .val (.int a0c), .val (.int a1c), .val (.int (Int32.ofNat nb)), .val (.int b0c), .val (.int b1c), .val (.int (0 : Int32)), .val (.int (Int32.ofNat nm)), .val (.int m0c), .val (.int m1c), .val (.ref a1), .val .null, .val (.ref a2), .val (.ref d5), .unset, .unset, .unset, .unset] [(.int a1c), (.int (1 : Int32)), (.ref d5)])
        refine WJ6.callS me hEL (hw _ (List.mem_of_getElem? (i := 173) rfl)) (hw _ (List.mem_of_getElem? (i := 174) rfl)) (hw _ (List.mem_of_getElem? (i := 2) rfl)) (hw _ (List.mem_of_getElem? (i := 175) rfl)) (argsL := [(.ref d5), (.int (1 : Int32)), (.int a1c)]) (rest := []) (c_at (ss := []) g WJ6.old (cs := rs) (i := 1) L5 (by omega) ((f0 1 (by omega)).trans (own_sub1 hge))) at_194 (by decide) (fun _ q => nomatch q) rfl (lenOf pd_32 rfl) (own_le rfl) (own_le rfl) (own_le rfl) (own_le rfl) rfl ?_
        intro T15 h15 v15 W15 z15 q15
        obtain ⟨sf15, X15, _, rfl, rfl, rfl⟩ := q15
        show Fi p e below s Z _ _ _ _ T15 (mkF m 197 #[.val (.int p0), .val (.int p1), .val (.int p2), .val (.int (Int32.ofNat np)), .val (.int a0c), .val (.int a1c), .val (.int (Int32.ofNat nb)), .val (.int b0c), .val (.int b1c), .val (.int (0 : Int32)), .val (.int (Int32.ofNat nm)), .val (.int m0c), .val (.int m1c), .val (.ref a1), .val .null, .val (.ref a2), .val (.ref d5), .unset, .unset, .unset, .unset] [(.int (1 : Int32))])
        refine W15.ifN_eq me at_197 (by decide) ?_
        show Fi p e below s Z _ _ _ _ T15 (mkF m 200 #[.val (.int p0), .val (.int p1), .val (.int p2), .val (.int (Int32.ofNat np)), .val (.int a0c), .val (.int a1c), .val (.int (Int32.ofNat nb)), .val (.int b0c), .val (.int b1c), .val (.int (0 : Int32)), .val (.int (Int32.ofNat nm)), .val (.int m0c), .val (.int m1c), .val (.ref a1), .val .null, .val (.ref a2), .val (.ref d5), .unset, .unset, .unset, .unset] [])
        exact J7 _ ((W15.less (ss' := []) (fun _ q => nomatch q)).more (own_le rfl) (own_le rfl))
    refine W5.ic_lt me at_170 (pc' := 184) (by decide) (by decide) (fun hf => ?_) (fun hf => ?_)
    ·
      show Fi p e below s Z _ _ _ _ T5 (mkF m 184 #[.val (.int p0), .val (.int p1), .val (.int p2), .val (.int (Int32.ofNat np)), .val (.int a0c), .val (.int a1c), .val (.int (Int32.ofNat nb)), .val (.int b0c), .val (.int b1c), .val (.int (0 : Int32)), .val (.int (Int32.ofNat nm)), .val (.int m0c), .val (.int m1c), .val (.ref a1), .val .null, .val (.ref a2), .val (.ref d5), .unset, .unset, .unset, .unset] [])
      exact J6 _ ((W5.less (ss' := []) (fun _ q => nomatch q)).more (own_le rfl) (own_le rfl))
    ·
      show Fi p e below s Z _ _ _ _ T5 (mkF m 173 #[.val (.int p0), .val (.int p1), .val (.int p2), .val (.int (Int32.ofNat np)), .val (.int a0c), .val (.int a1c), .val (.int (Int32.ofNat nb)), .val (.int b0c), .val (.int b1c), .val (.int (0 : Int32)), .val (.int (Int32.ofNat nm)), .val (.int m0c), .val (.int m1c), .val (.ref a1), .val .null, .val (.ref a2), .val (.ref d5), .unset, .unset, .unset, .unset] [])
      have hge := own_ge1 (by omega) hf
      refine W5.aload me at_173 rfl rfl ?_
      refine W5.iconst me at_175 (v := 0) rfl ?_
      refine W5.iload me at_176 rfl ?_
      show Fi p e below s Z _ _ _ _ T5 (mkF m 178 #[.val (.int p0), .val (.int p1), .val (.int p2), .val (.int (Int32.ofNat np)), .val (.int a0c), .val (.int a1c), .val (.int (Int32.ofNat nb)), .val (.int b0c), .val (.int b1c), .val (.int (0 : Int32)), .val (.int (Int32.ofNat nm)), .val (.int m0c), .val (.int m1c), .val (.ref a1), .val .null, .val (.ref a2), .val (.ref d5), .unset, .unset, .unset, .unset] [(.int a0c), (.int (0 : Int32)), (.ref d5)])
      refine W5.callS me hEL (hw _ (List.mem_of_getElem? (i := 173) rfl)) (hw _ (List.mem_of_getElem? (i := 174) rfl)) (hw _ (List.mem_of_getElem? (i := 2) rfl)) (hw _ (List.mem_of_getElem? (i := 175) rfl)) (argsL := [(.ref d5), (.int (0 : Int32)), (.int a0c)]) (rest := []) (c_at (ss := []) g W5.old (cs := rs) (i := 0) L5 (by omega) ((f0 0 (by omega)).trans (own_sub0 hge))) at_178 (by decide) (fun _ q => nomatch q) rfl (lenOf pd_32 rfl) (own_le rfl) (own_le rfl) (own_le rfl) (own_le rfl) rfl ?_
      intro T16 h16 v16 W16 z16 q16
      obtain ⟨sf16, X16, _, rfl, rfl, rfl⟩ := q16
      show Fi p e below s Z _ _ _ _ T16 (mkF m 181 #[.val (.int p0), .val (.int p1), .val (.int p2), .val (.int (Int32.ofNat np)), .val (.int a0c), .val (.int a1c), .val (.int (Int32.ofNat nb)), .val (.int b0c), .val (.int b1c), .val (.int (0 : Int32)), .val (.int (Int32.ofNat nm)), .val (.int m0c), .val (.int m1c), .val (.ref a1), .val .null, .val (.ref a2), .val (.ref d5), .unset, .unset, .unset, .unset] [(.int (1 : Int32))])
      refine W16.ifN_eq me at_181 (by decide) ?_
      show Fi p e below s Z _ _ _ _ T16 (mkF m 184 #[.val (.int p0), .val (.int p1), .val (.int p2), .val (.int (Int32.ofNat np)), .val (.int a0c), .val (.int a1c), .val (.int (Int32.ofNat nb)), .val (.int b0c), .val (.int b1c), .val (.int (0 : Int32)), .val (.int (Int32.ofNat nm)), .val (.int m0c), .val (.int m1c), .val (.ref a1), .val .null, .val (.ref a2), .val (.ref d5), .unset, .unset, .unset, .unset] [])
      exact J6 _ ((W16.less (ss' := []) (fun _ q => nomatch q)).more (own_le rfl) (own_le rfl))
  ·
    show Fi p e below s Z _ _ _ _ T0 (mkF m 66 #[.val (.int p0), .val (.int p1), .val (.int p2), .val (.int (Int32.ofNat np)), .val (.int a0c), .val (.int a1c), .val (.int (Int32.ofNat nb)), .val (.int b0c), .val (.int b1c), .unset, .unset, .unset, .unset, .unset, .unset, .unset, .unset, .unset, .unset, .unset, .unset] [])
    refine W0.iconst me at_66 (v := 1) rfl ?_
    refine W0.goto me at_67 (pc' := 71) (by decide) (by decide) ?_
    show Fi p e below s Z _ _ _ _ T0 (mkF m 71 #[.val (.int p0), .val (.int p1), .val (.int p2), .val (.int (Int32.ofNat np)), .val (.int a0c), .val (.int a1c), .val (.int (Int32.ofNat nb)), .val (.int b0c), .val (.int b1c), .unset, .unset, .unset, .unset, .unset, .unset, .unset, .unset, .unset, .unset, .unset, .unset] [(.int (1 : Int32))])
    refine W0.istore me at_71 (l' := #[.val (.int p0), .val (.int p1), .val (.int p2), .val (.int (Int32.ofNat np)), .val (.int a0c), .val (.int a1c), .val (.int (Int32.ofNat nb)), .val (.int b0c), .val (.int b1c), .val (.int (1 : Int32)), .unset, .unset, .unset, .unset, .unset, .unset, .unset, .unset, .unset, .unset, .unset]) rfl ?_
    refine W0.iloadN me at_73 rfl ?_
    refine W0.bipush me at_74 (v := 16) rfl ?_
    refine W0.iushr me at_76 ?_
    refine W0.iconst me at_77 (v := 3) rfl ?_
    refine W0.iand me at_78 ?_
    refine W0.iconst me at_79 (v := 3) rfl ?_
    refine W0.irem me at_80 (by decide) ?_
    show Fi p e below s Z _ _ _ _ T0 (mkF m 81 #[.val (.int p0), .val (.int p1), .val (.int p2), .val (.int (Int32.ofNat np)), .val (.int a0c), .val (.int a1c), .val (.int (Int32.ofNat nb)), .val (.int b0c), .val (.int b1c), .val (.int (1 : Int32)), .unset, .unset, .unset, .unset, .unset, .unset, .unset, .unset, .unset, .unset, .unset] [(.int (((XT.ushr p2 (16 : Int32)) &&& (3 : Int32)) % (3 : Int32)))])
    obtain ⟨nm, hnm, enm⟩ : ∃ k : Nat, k ≤ 2 ∧ (((XT.ushr p2 (16 : Int32)) &&& (3 : Int32)) % (3 : Int32)) = Int32.ofNat k := own_mod3 (XT.ushr p2 (16 : Int32))
    rw [enm]
    show Fi p e below s Z _ _ _ _ T0 (mkF m 81 #[.val (.int p0), .val (.int p1), .val (.int p2), .val (.int (Int32.ofNat np)), .val (.int a0c), .val (.int a1c), .val (.int (Int32.ofNat nb)), .val (.int b0c), .val (.int b1c), .val (.int (1 : Int32)), .unset, .unset, .unset, .unset, .unset, .unset, .unset, .unset, .unset, .unset, .unset] [(.int (Int32.ofNat nm))])
    refine W0.istore me at_81 (l' := #[.val (.int p0), .val (.int p1), .val (.int p2), .val (.int (Int32.ofNat np)), .val (.int a0c), .val (.int a1c), .val (.int (Int32.ofNat nb)), .val (.int b0c), .val (.int b1c), .val (.int (1 : Int32)), .val (.int (Int32.ofNat nm)), .unset, .unset, .unset, .unset, .unset, .unset, .unset, .unset, .unset, .unset]) rfl ?_
    refine W0.iloadN me at_83 rfl ?_
    refine W0.sipush me at_84 (v := 255) rfl ?_
    refine W0.iand me at_87 ?_
    refine W0.i2c me at_88 ?_
    show Fi p e below s Z _ _ _ _ T0 (mkF m 89 #[.val (.int p0), .val (.int p1), .val (.int p2), .val (.int (Int32.ofNat np)), .val (.int a0c), .val (.int a1c), .val (.int (Int32.ofNat nb)), .val (.int b0c), .val (.int b1c), .val (.int (1 : Int32)), .val (.int (Int32.ofNat nm)), .unset, .unset, .unset, .unset, .unset, .unset, .unset, .unset, .unset, .unset] [(.int ((p2 &&& (255 : Int32)).toUInt32.toUInt16.toUInt32.toInt32))])
    obtain ⟨m0c, hm0c⟩ : ∃ z, z = ((p2 &&& (255 : Int32)).toUInt32.toUInt16.toUInt32.toInt32) := ⟨_, rfl⟩
    rw [← hm0c]
    have qm0c : ¬ m0c < 0 ∧ ¬ (255 : Int32) < m0c := hm0c ▸ c255 p2
    show Fi p e below s Z _ _ _ _ T0 (mkF m 89 #[.val (.int p0), .val (.int p1), .val (.int p2), .val (.int (Int32.ofNat np)), .val (.int a0c), .val (.int a1c), .val (.int (Int32.ofNat nb)), .val (.int b0c), .val (.int b1c), .val (.int (1 : Int32)), .val (.int (Int32.ofNat nm)), .unset, .unset, .unset, .unset, .unset, .unset, .unset, .unset, .unset, .unset] [(.int m0c)])
    refine W0.istore me at_89 (l' := #[.val (.int p0), .val (.int p1), .val (.int p2), .val (.int (Int32.ofNat np)), .val (.int a0c), .val (.int a1c), .val (.int (Int32.ofNat nb)), .val (.int b0c), .val (.int b1c), .val (.int (1 : Int32)), .val (.int (Int32.ofNat nm)), .val (.int m0c), .unset, .unset, .unset, .unset, .unset, .unset, .unset, .unset, .unset]) rfl ?_
    refine W0.iloadN me at_91 rfl ?_
    refine W0.bipush me at_92 (v := 8) rfl ?_
    refine W0.iushr me at_94 ?_
    refine W0.sipush me at_95 (v := 255) rfl ?_
    refine W0.iand me at_98 ?_
    refine W0.i2c me at_99 ?_
    show Fi p e below s Z _ _ _ _ T0 (mkF m 100 #[.val (.int p0), .val (.int p1), .val (.int p2), .val (.int (Int32.ofNat np)), .val (.int a0c), .val (.int a1c), .val (.int (Int32.ofNat nb)), .val (.int b0c), .val (.int b1c), .val (.int (1 : Int32)), .val (.int (Int32.ofNat nm)), .val (.int m0c), .unset, .unset, .unset, .unset, .unset, .unset, .unset, .unset, .unset] [(.int (((XT.ushr p2 (8 : Int32)) &&& (255 : Int32)).toUInt32.toUInt16.toUInt32.toInt32))])
    obtain ⟨m1c, hm1c⟩ : ∃ z, z = (((XT.ushr p2 (8 : Int32)) &&& (255 : Int32)).toUInt32.toUInt16.toUInt32.toInt32) := ⟨_, rfl⟩
    rw [← hm1c]
    have qm1c : ¬ m1c < 0 ∧ ¬ (255 : Int32) < m1c := hm1c ▸ c255 (XT.ushr p2 (8 : Int32))
    show Fi p e below s Z _ _ _ _ T0 (mkF m 100 #[.val (.int p0), .val (.int p1), .val (.int p2), .val (.int (Int32.ofNat np)), .val (.int a0c), .val (.int a1c), .val (.int (Int32.ofNat nb)), .val (.int b0c), .val (.int b1c), .val (.int (1 : Int32)), .val (.int (Int32.ofNat nm)), .val (.int m0c), .unset, .unset, .unset, .unset, .unset, .unset, .unset, .unset, .unset] [(.int m1c)])
    refine W0.istore me at_100 (l' := #[.val (.int p0), .val (.int p1), .val (.int p2), .val (.int (Int32.ofNat np)), .val (.int a0c), .val (.int a1c), .val (.int (Int32.ofNat nb)), .val (.int b0c), .val (.int b1c), .val (.int (1 : Int32)), .val (.int (Int32.ofNat nm)), .val (.int m0c), .val (.int m1c), .unset, .unset, .unset, .unset, .unset, .unset, .unset, .unset]) rfl ?_
    refine W0.iloadN me at_102 rfl ?_
    refine W0.iload me at_103 rfl ?_
    refine W0.iload me at_105 rfl ?_
    show Fi p e below s Z _ _ _ _ T0 (mkF m 107 #[.val (.int p0), .val (.int p1), .val (.int p2), .val (.int (Int32.ofNat np)), .val (.int a0c), .val (.int a1c), .val (.int (Int32.ofNat nb)), .val (.int b0c), .val (.int b1c), .val (.int (1 : Int32)), .val (.int (Int32.ofNat nm)), .val (.int m0c), .val (.int m1c), .unset, .unset, .unset, .unset, .unset, .unset, .unset, .unset] [(.int a1c), (.int a0c), (.int (Int32.ofNat np))])
    refine W0.callS me hEL (hw _ (List.mem_of_getElem? (i := 0) rfl)) (hw _ (List.mem_of_getElem? (i := 1) rfl)) (hw _ (List.mem_of_getElem? (i := 2) rfl)) (hw _ (List.mem_of_getElem? (i := 3) rfl)) (argsL := [(.int (Int32.ofNat np)), (.int a0c), (.int a1c)]) (rest := []) (c_mk (ss := []) g W0.old hnp qa0c qa1c) at_107 (by decide) (fun _ q => nomatch q) rfl (lenOf pd_30 rfl) (own_le rfl) (own_le rfl) (own_le rfl) (own_le rfl) rfl ?_
    intro T17 h17 v17 W17 z17 q17
    obtain ⟨sf17, X17, _, rfl, E17, a17, rfl, L17⟩ := q17
    show Fi p e below s Z _ _ _ _ T17 (mkF m 110 #[.val (.int p0), .val (.int p1), .val (.int p2), .val (.int (Int32.ofNat np)), .val (.int a0c), .val (.int a1c), .val (.int (Int32.ofNat nb)), .val (.int b0c), .val (.int b1c), .val (.int (1 : Int32)), .val (.int (Int32.ofNat nm)), .val (.int m0c), .val (.int m1c), .unset, .unset, .unset, .unset, .unset, .unset, .unset, .unset] [(.ref a17)])
    refine W17.astore me at_110 (l' := #[.val (.int p0), .val (.int p1), .val (.int p2), .val (.int (Int32.ofNat np)), .val (.int a0c), .val (.int a1c), .val (.int (Int32.ofNat nb)), .val (.int b0c), .val (.int b1c), .val (.int (1 : Int32)), .val (.int (Int32.ofNat nm)), .val (.int m0c), .val (.int m1c), .val (.ref a17), .unset, .unset, .unset, .unset, .unset, .unset, .unset]) rfl rfl ?_
    refine W17.iload me at_112 rfl ?_
    show Fi p e below s Z _ _ _ _ T17 (mkF m 114 #[.val (.int p0), .val (.int p1), .val (.int p2), .val (.int (Int32.ofNat np)), .val (.int a0c), .val (.int a1c), .val (.int (Int32.ofNat nb)), .val (.int b0c), .val (.int b1c), .val (.int (1 : Int32)), .val (.int (Int32.ofNat nm)), .val (.int m0c), .val (.int m1c), .val (.ref a17), .unset, .unset, .unset, .unset, .unset, .unset, .unset] [(.int (1 : Int32))])
    refine W17.ifN_eq me at_114 (by decide) ?_
    show Fi p e below s Z _ _ _ _ T17 (mkF m 117 #[.val (.int p0), .val (.int p1), .val (.int p2), .val (.int (Int32.ofNat np)), .val (.int a0c), .val (.int a1c), .val (.int (Int32.ofNat nb)), .val (.int b0c), .val (.int b1c), .val (.int (1 : Int32)), .val (.int (Int32.ofNat nm)), .val (.int m0c), .val (.int m1c), .val (.ref a17), .unset, .unset, .unset, .unset, .unset, .unset, .unset] [])
    refine W17.iload me at_117 rfl ?_
    refine W17.iload me at_119 rfl ?_
    refine W17.iload me at_121 rfl ?_
    show Fi p e below s Z _ _ _ _ T17 (mkF m 123 #[.val (.int p0), .val (.int p1), .val (.int p2), .val (.int (Int32.ofNat np)), .val (.int a0c), .val (.int a1c), .val (.int (Int32.ofNat nb)), .val (.int b0c), .val (.int b1c), .val (.int (1 : Int32)), .val (.int (Int32.ofNat nm)), .val (.int m0c), .val (.int m1c), .val (.ref a17), .unset, .unset, .unset, .unset, .unset, .unset, .unset] [(.int b1c), (.int b0c), (.int (Int32.ofNat nb))])
    refine W17.callS me hEL (hw _ (List.mem_of_getElem? (i := 0) rfl)) (hw _ (List.mem_of_getElem? (i := 1) rfl)) (hw _ (List.mem_of_getElem? (i := 2) rfl)) (hw _ (List.mem_of_getElem? (i := 3) rfl)) (argsL := [(.int (Int32.ofNat nb)), (.int b0c), (.int b1c)]) (rest := []) (c_mk (ss := []) g W17.old hnb qb0c qb1c) at_123 (by decide) (fun _ q => nomatch q) rfl (lenOf pd_30 rfl) (own_le rfl) (own_le rfl) (own_le rfl) (own_le rfl) rfl ?_
    intro T18 h18 v18 W18 z18 q18
    obtain ⟨sf18, X18, _, rfl, E18, a18, rfl, L18⟩ := q18
    show Fi p e below s Z _ _ _ _ T18 (mkF m 126 #[.val (.int p0), .val (.int p1), .val (.int p2), .val (.int (Int32.ofNat np)), .val (.int a0c), .val (.int a1c), .val (.int (Int32.ofNat nb)), .val (.int b0c), .val (.int b1c), .val (.int (1 : Int32)), .val (.int (Int32.ofNat nm)), .val (.int m0c), .val (.int m1c), .val (.ref a17), .unset, .unset, .unset, .unset, .unset, .unset, .unset] [(.ref a18)])
    replace L17 := L17.ext E18
    refine W18.goto me at_126 (pc' := 130) (by decide) (by decide) ?_
    refine W18.astore me at_130 (l' := #[.val (.int p0), .val (.int p1), .val (.int p2), .val (.int (Int32.ofNat np)), .val (.int a0c), .val (.int a1c), .val (.int (Int32.ofNat nb)), .val (.int b0c), .val (.int b1c), .val (.int (1 : Int32)), .val (.int (Int32.ofNat nm)), .val (.int m0c), .val (.int m1c), .val (.ref a17), .val (.ref a18), .unset, .unset, .unset, .unset, .unset, .unset]) rfl rfl ?_
    refine W18.iload me at_132 rfl ?_
    refine W18.iload me at_134 rfl ?_
    refine W18.iload me at_136 rfl ?_
    show Fi p e below s Z _ _ _ _ T18 (mkF m 138 #[.val (.int p0), .val (.int p1), .val (.int p2), .val (.int (Int32.ofNat np)), .val (.int a0c), .val (.int a1c), .val (.int (Int32.ofNat nb)), .val (.int b0c), .val (.int b1c), .val (.int (1 : Int32)), .val (.int (Int32.ofNat nm)), .val (.int m0c), .val (.int m1c), .val (.ref a17), .val (.ref a18), .unset, .unset, .unset, .unset, .unset, .unset] [(.int m1c), (.int m0c), (.int (Int32.ofNat nm))])
    refine W18.callS me hEL (hw _ (List.mem_of_getElem? (i := 0) rfl)) (hw _ (List.mem_of_getElem? (i := 1) rfl)) (hw _ (List.mem_of_getElem? (i := 2) rfl)) (hw _ (List.mem_of_getElem? (i := 3) rfl)) (argsL := [(.int (Int32.ofNat nm)), (.int m0c), (.int m1c)]) (rest := []) (c_mk (ss := []) g W18.old hnm qm0c qm1c) at_138 (by decide) (fun _ q => nomatch q) rfl (lenOf pd_30 rfl) (own_le rfl) (own_le rfl) (own_le rfl) (own_le rfl) rfl ?_
    intro T19 h19 v19 W19 z19 q19
    obtain ⟨sf19, X19, _, rfl, E19, a19, rfl, L19⟩ := q19
    show Fi p e below s Z _ _ _ _ T19 (mkF m 141 #[.val (.int p0), .val (.int p1), .val (.int p2), .val (.int (Int32.ofNat np)), .val (.int a0c), .val (.int a1c), .val (.int (Int32.ofNat nb)), .val (.int b0c), .val (.int b1c), .val (.int (1 : Int32)), .val (.int (Int32.ofNat nm)), .val (.int m0c), .val (.int m1c), .val (.ref a17), .val (.ref a18), .unset, .unset, .unset, .unset, .unset, .unset] [(.ref a19)])
    replace L17 := L17.ext E19
    replace L18 := L18.ext E19
    refine W19.astore me at_141 (l' := #[.val (.int p0), .val (.int p1), .val (.int p2), .val (.int (Int32.ofNat np)), .val (.int a0c), .val (.int a1c), .val (.int (Int32.ofNat nb)), .val (.int b0c), .val (.int b1c), .val (.int (1 : Int32)), .val (.int (Int32.ofNat nm)), .val (.int m0c), .val (.int m1c), .val (.ref a17), .val (.ref a18), .val (.ref a19), .unset, .unset, .unset, .unset, .unset]) rfl rfl ?_
    show Fi p e below s Z _ _ _ _ T19 (mkF m 143 #[.val (.int p0), .val (.int p1), .val (.int p2), .val (.int (Int32.ofNat np)), .val (.int a0c), .val (.int a1c), .val (.int (Int32.ofNat nb)), .val (.int b0c), .val (.int b1c), .val (.int (1 : Int32)), .val (.int (Int32.ofNat nm)), .val (.int m0c), .val (.int m1c), .val (.ref a17), .val (.ref a18), .val (.ref a19), .unset, .unset, .unset, .unset, .unset] [])
    refine W19.newO me (hw _ (List.mem_of_getElem? (i := 26) rfl)) (hw _ (List.mem_of_getElem? (i := 27) rfl)) (hw _ (List.mem_of_getElem? (i := 28) rfl)) at_143 (own_le rfl) (own_le rfl) ?_
    intro T20 h20 a20 g20 W20 E20 A20 D20 U20
    show Fi p e below s Z _ _ _ _ T20 (mkF m 146 #[.val (.int p0), .val (.int p1), .val (.int p2), .val (.int (Int32.ofNat np)), .val (.int a0c), .val (.int a1c), .val (.int (Int32.ofNat nb)), .val (.int b0c), .val (.int b1c), .val (.int (1 : Int32)), .val (.int (Int32.ofNat nm)), .val (.int m0c), .val (.int m1c), .val (.ref a17), .val (.ref a18), .val (.ref a19), .unset, .unset, .unset, .unset, .unset] [(.ref a20)])
    refine W20.dup me at_146 rfl ?_
    refine W20.aload me at_147 rfl rfl ?_
    show Fi p e below s Z _ _ _ _ T20 (mkF m 149 #[.val (.int p0), .val (.int p1), .val (.int p2), .val (.int (Int32.ofNat np)), .val (.int a0c), .val (.int a1c), .val (.int (Int32.ofNat nb)), .val (.int b0c), .val (.int b1c), .val (.int (1 : Int32)), .val (.int (Int32.ofNat nm)), .val (.int m0c), .val (.int m1c), .val (.ref a17), .val (.ref a18), .val (.ref a19), .unset, .unset, .unset, .unset, .unset] [(.ref a17), (.ref a20), (.ref a20)])
    replace L17 := L17.ext E20
    replace L18 := L18.ext E20
    replace L19 := L19.ext E20
    have hzx : Z.heap.size ≤ a20 := by have := W19.old.2.1; omega
    refine W20.callI me hEL (hw _ (List.mem_of_getElem? (i := 29) rfl)) (hw _ (List.mem_of_getElem? (i := 30) rfl)) (hw _ (List.mem_of_getElem? (i := 28) rfl)) (hw _ (List.mem_of_getElem? (i := 31) rfl)) rfl (a := a20) (argsL := [(.ref a17)]) (rest := [(.ref a20)]) (c_orig (ss := []) g W20.old A20 (D20 (Or.inr (hw _ (List.mem_of_getElem? (i := 39) rfl))) (ty := .object "java/lang/String") (by decide)) hzx) at_149 (by decide) (fun _ q => nomatch q) rfl (lenOf pd_15 rfl) (own_le rfl) (own_le rfl) (own_le rfl) (own_le rfl) rfl ?_
    intro T21 h21 v21 W21 z21 q21
    obtain ⟨sf21, X21, rfl, K21, EX21, FP21⟩ := q21
    show Fi p e below s Z _ _ _ _ T21 (mkF m 152 #[.val (.int p0), .val (.int p1), .val (.int p2), .val (.int (Int32.ofNat np)), .val (.int a0c), .val (.int a1c), .val (.int (Int32.ofNat nb)), .val (.int b0c), .val (.int b1c), .val (.int (1 : Int32)), .val (.int (Int32.ofNat nm)), .val (.int m0c), .val (.int m1c), .val (.ref a17), .val (.ref a18), .val (.ref a19), .unset, .unset, .unset, .unset, .unset] [(.ref a20)])
    replace L17 := own_latk L17 K21 A20 (by decide) (hw _ (List.mem_of_getElem? (i := 27) rfl))
    replace L18 := own_latk L18 K21 A20 (by decide) (hw _ (List.mem_of_getElem? (i := 27) rfl))
    replace L19 := own_latk L19 K21 A20 (by decide) (hw _ (List.mem_of_getElem? (i := 27) rfl))
    refine W21.aload me at_152 rfl rfl ?_
    refine W21.aload me at_154 rfl rfl ?_
    show Fi p e below s Z _ _ _ _ T21 (mkF m 156 #[.val (.int p0), .val (.int p1), .val (.int p2), .val (.int (Int32.ofNat np)), .val (.int a0c), .val (.int a1c), .val (.int (Int32.ofNat nb)), .val (.int b0c), .val (.int b1c), .val (.int (1 : Int32)), .val (.int (Int32.ofNat nm)), .val (.int m0c), .val (.int m1c), .val (.ref a17), .val (.ref a18), .val (.ref a19), .unset, .unset, .unset, .unset, .unset] [(.ref a19), (.ref a18), (.ref a20)])
    obtain ⟨vp, LP⟩ := L17.opn
    obtain ⟨vm, LM⟩ := L19.opn
    obtain ⟨vb, LB⟩ := L18.opn
    have lps : (sub [a0c, a1c] 0 np).length = np := sub_len (by show 0 + np ≤ 2; omega)
    have lms : (sub [m0c, m1c] 0 nm).length = nm := sub_len (by show 0 + nm ≤ 2; omega)
    have lbs : (sub [b0c, b1c] 0 nb).length = nb := sub_len (by show 0 + nb ≤ 2; omega)
    refine W21.callV me hEL (hw _ (List.mem_of_getElem? (i := 40) rfl)) (hw _ (List.mem_of_getElem? (i := 41) rfl)) (fun hZ' => notFace_of_selects (args := #[]) (mvT (s := s.setVm _) hZ' (hw _ (List.mem_of_getElem? (i := 43) rfl)))) (hw _ (List.mem_of_getElem? (i := 43) rfl)) (hw _ (List.mem_of_getElem? (i := 42) rfl)) (hw _ (List.mem_of_getElem? (i := 28) rfl)) (hw _ (List.mem_of_getElem? (i := 44) rfl)) (a := a20) (argsL := [(.ref a18), (.ref a19)]) (rest := []) EX21 (c_says1 (ss := []) g W21.old EX21 FP21 LP (by omega) (by omega) LB (by omega) LM) at_156 (by decide) (fun _ q => nomatch q) rfl (lenOf pd_31 rfl) (own_le rfl) (own_le rfl) (own_le rfl) (own_le rfl) rfl ?_
    intro T22 h22 v22 W22 z22 q22
    obtain ⟨sf22, X22, _, rfl, E22, d22, rfl, L22⟩ := q22
    show Fi p e below s Z _ _ _ _ T22 (mkF m 159 #[.val (.int p0), .val (.int p1), .val (.int p2), .val (.int (Int32.ofNat np)), .val (.int a0c), .val (.int a1c), .val (.int (Int32.ofNat nb)), .val (.int b0c), .val (.int b1c), .val (.int (1 : Int32)), .val (.int (Int32.ofNat nm)), .val (.int m0c), .val (.int m1c), .val (.ref a17), .val (.ref a18), .val (.ref a19), .unset, .unset, .unset, .unset, .unset] [(.ref d22)])
    obtain ⟨rs, hrs⟩ : ∃ z : List Int32, z = ((sub [a0c, a1c] 0 np) ++ [(58 : Int32), (32 : Int32), (98 : Int32), (101 : Int32), (97 : Int32), (110 : Int32), (32 : Int32), (39 : Int32)] ++ (sub [b0c, b1c] 0 nb) ++ [(39 : Int32), (58 : Int32), (32 : Int32)] ++ (sub [m0c, m1c] 0 nm)) := ⟨_, rfl⟩
    rw [← hrs] at L22
    have lrs : rs.length = np + 8 + nb + 3 + nm := by rw [hrs]; simp only [List.length_append, List.length_cons, List.length_nil, lps, lms, lbs]
    have f0 : ∀ i, i < np → rs.getD i 0 = (sub [a0c, a1c] 0 np).getD i 0 := fun i hi => by rw [hrs, own_gl (by simp only [List.length_append, List.length_cons, List.length_nil, lps, lbs]; omega), own_gl (by simp only [List.length_append, List.length_cons, List.length_nil, lps, lbs]; omega), own_gl (by simp only [List.length_append, List.length_cons, List.length_nil, lps, lbs]; omega), own_gl (by omega)]
    have f1 : ∀ i, i < 8 → rs.getD (np + i) 0 = ([(58 : Int32), (32 : Int32), (98 : Int32), (101 : Int32), (97 : Int32), (110 : Int32), (32 : Int32), (39 : Int32)] : List Int32).getD i 0 := fun i hi => by rw [hrs, own_gl (by simp only [List.length_append, List.length_cons, List.length_nil, lps, lbs]; omega), own_gl (by simp only [List.length_append, List.length_cons, List.length_nil, lps, lbs]; omega), own_gl (by simp only [List.length_append, List.length_cons, List.length_nil, lps, lbs]; omega), own_gr lps]
    have f2 : ∀ i, i < nb → rs.getD (np + 8 + i) 0 = (sub [b0c, b1c] 0 nb).getD i 0 := fun i hi => by rw [hrs, own_gl (by simp only [List.length_append, List.length_cons, List.length_nil, lps, lbs]; omega), own_gl (by simp only [List.length_append, List.length_cons, List.length_nil, lps, lbs]; omega), own_gr (n := np + 8) (by simp only [List.length_append, List.length_cons, List.length_nil, lps, lbs])]
    have f3 : ∀ i, i < 3 → rs.getD (np + 8 + nb + i) 0 = ([(39 : Int32), (58 : Int32), (32 : Int32)] : List Int32).getD i 0 := fun i hi => by rw [hrs, own_gl (by simp only [List.length_append, List.length_cons, List.length_nil, lps, lbs]; omega), own_gr (n := np + 8 + nb) (by simp only [List.length_append, List.length_cons, List.length_nil, lps, lbs])]
    have f4 : ∀ i, i < nm → rs.getD (np + 8 + nb + 3 + i) 0 = (sub [m0c, m1c] 0 nm).getD i 0 := fun i hi => by rw [hrs, own_gr (n := np + 8 + nb + 3) (by simp only [List.length_append, List.length_cons, List.length_nil, lps, lbs])]
    refine W22.astore me at_159 (l' := #[.val (.int p0), .val (.int p1), .val (.int p2), .val (.int (Int32.ofNat np)), .val (.int a0c), .val (.int a1c), .val (.int (Int32.ofNat nb)), .val (.int b0c), .val (.int b1c), .val (.int (1 : Int32)), .val (.int (Int32.ofNat nm)), .val (.int m0c), .val (.int m1c), .val (.ref a17), .val (.ref a18), .val (.ref a19), .val (.ref d22), .unset, .unset, .unset, .unset]) rfl rfl ?_
    refine W22.aload me at_161 rfl rfl ?_
    show Fi p e below s Z _ _ _ _ T22 (mkF m 163 #[.val (.int p0), .val (.int p1), .val (.int p2), .val (.int (Int32.ofNat np)), .val (.int a0c), .val (.int a1c), .val (.int (Int32.ofNat nb)), .val (.int b0c), .val (.int b1c), .val (.int (1 : Int32)), .val (.int (Int32.ofNat nm)), .val (.int m0c), .val (.int m1c), .val (.ref a17), .val (.ref a18), .val (.ref a19), .val (.ref d22), .unset, .unset, .unset, .unset] [(.ref d22)])
    refine W22.nonnullY me at_163 (pc' := 168) (by decide) (by decide) ?_
    show Fi p e below s Z _ _ _ _ T22 (mkF m 168 #[.val (.int p0), .val (.int p1), .val (.int p2), .val (.int (Int32.ofNat np)), .val (.int a0c), .val (.int a1c), .val (.int (Int32.ofNat nb)), .val (.int b0c), .val (.int b1c), .val (.int (1 : Int32)), .val (.int (Int32.ofNat nm)), .val (.int m0c), .val (.int m1c), .val (.ref a17), .val (.ref a18), .val (.ref a19), .val (.ref d22), .unset, .unset, .unset, .unset] [])
    refine W22.iloadN me at_168 rfl ?_
    refine W22.iconst me at_169 (v := 1) rfl ?_
    show Fi p e below s Z _ _ _ _ T22 (mkF m 170 #[.val (.int p0), .val (.int p1), .val (.int p2), .val (.int (Int32.ofNat np)), .val (.int a0c), .val (.int a1c), .val (.int (Int32.ofNat nb)), .val (.int b0c), .val (.int b1c), .val (.int (1 : Int32)), .val (.int (Int32.ofNat nm)), .val (.int m0c), .val (.int m1c), .val (.ref a17), .val (.ref a18), .val (.ref a19), .val (.ref d22), .unset, .unset, .unset, .unset] [(.int (1 : Int32)), (.int (Int32.ofNat np))])
    show Fi p e below s Z _ _ _ _ T22 (mkF m 170 #[.val (.int p0), .val (.int p1), .val (.int p2), .val (.int (Int32.ofNat np)), .val (.int a0c), .val (.int a1c), .val (.int (Int32.ofNat nb)), .val (.int b0c), .val (.int b1c), .val (.int (1 : Int32)), .val (.int (Int32.ofNat nm)), .val (.int m0c), .val (.int m1c), .val (.ref a17), .val (.ref a18), .val (.ref a19), .val (.ref d22), .unset, .unset, .unset, .unset] [(.int (1 : Int32)), (.int (Int32.ofNat np))])
    have J23 : ∀ (T1 : State), Wk p l e room_1 s m #[(.int p0), (.int p1), (.int p2)] below meth c Z consts_1 kn "com/example/cadi/cadi/OriginSaysPinLaw" T1 h22 [] 28 199 → Fi p e below s Z consts_1 room_1.cells room_1.slots (rV fun v h => v = .int 1) T1 (mkF m 184 #[.val (.int p0), .val (.int p1), .val (.int p2), .val (.int (Int32.ofNat np)), .val (.int a0c), .val (.int a1c), .val (.int (Int32.ofNat nb)), .val (.int b0c), .val (.int b1c), .val (.int (1 : Int32)), .val (.int (Int32.ofNat nm)), .val (.int m0c), .val (.int m1c), .val (.ref a17), .val (.ref a18), .val (.ref a19), .val (.ref d22), .unset, .unset, .unset, .unset] []) := by
      intro TJ23 WJ23
      refine WJ23.iloadN me at_184 rfl ?_
      refine WJ23.iconst me at_185 (v := 2) rfl ?_
      show Fi p e below s Z _ _ _ _ TJ23 (mkF m 186 #[.val (.int p0), .val (.int p1), .val (.int p2), .val (.int (Int32.ofNat np)), .val (.int a0c), .val (.int a1c), .val (.int (Int32.ofNat nb)), .val (.int b0c), .val (.int b1c), .val (.int (1 : Int32)), .val (.int (Int32.ofNat nm)), .val (.int m0c), .val (.int m1c), .val (.ref a17), .val (.ref a18), .val (.ref a19), .val (.ref d22), .unset, .unset, .unset, .unset] [(.int (2 : Int32)), (.int (Int32.ofNat np))])
      have J24 : ∀ (T1 : State), Wk p l e room_1 s m #[(.int p0), (.int p1), (.int p2)] below meth c Z consts_1 kn "com/example/cadi/cadi/OriginSaysPinLaw" T1 h22 [] 28 199 → Fi p e below s Z consts_1 room_1.cells room_1.slots (rV fun v h => v = .int 1) T1 (mkF m 200 #[.val (.int p0), .val (.int p1), .val (.int p2), .val (.int (Int32.ofNat np)), .val (.int a0c), .val (.int a1c), .val (.int (Int32.ofNat nb)), .val (.int b0c), .val (.int b1c), .val (.int (1 : Int32)), .val (.int (Int32.ofNat nm)), .val (.int m0c), .val (.int m1c), .val (.ref a17), .val (.ref a18), .val (.ref a19), .val (.ref d22), .unset, .unset, .unset, .unset] []) := by
        intro TJ24 WJ24
        refine WJ24.iconst me at_200 (v := 1) rfl ?_
        refine WJ24.goto me at_201 (pc' := 205) (by decide) (by decide) ?_
        refine WJ24.istore me at_205 (l' := #[.val (.int p0), .val (.int p1), .val (.int p2), .val (.int (Int32.ofNat np)), .val (.int a0c), .val (.int a1c), .val (.int (Int32.ofNat nb)), .val (.int b0c), .val (.int b1c), .val (.int (1 : Int32)), .val (.int (Int32.ofNat nm)), .val (.int m0c), .val (.int m1c), .val (.ref a17), .val (.ref a18), .val (.ref a19), .val (.ref d22), .val (.int (1 : Int32)), .unset, .unset, .unset]) rfl ?_
        show Fi p e below s Z _ _ _ _ TJ24 (mkF m 207 #[.val (.int p0), .val (.int p1), .val (.int p2), .val (.int (Int32.ofNat np)), .val (.int a0c), .val (.int a1c), .val (.int (Int32.ofNat nb)), .val (.int b0c), .val (.int b1c), .val (.int (1 : Int32)), .val (.int (Int32.ofNat nm)), .val (.int m0c), .val (.int m1c), .val (.ref a17), .val (.ref a18), .val (.ref a19), .val (.ref d22), .val (.int (1 : Int32)), .unset, .unset, .unset] [])
        show Fi p e below s Z _ _ _ _ TJ24 (mkF m 207 #[.val (.int p0), .val (.int p1), .val (.int p2), .val (.int (Int32.ofNat np)), .val (.int a0c), .val (.int a1c), .val (.int (Int32.ofNat nb)), .val (.int b0c), .val (.int b1c), .val (.int (1 : Int32)), .val (.int (Int32.ofNat nm)), .val (.int m0c), .val (.int m1c), .val (.ref a17), .val (.ref a18), .val (.ref a19), .val (.ref d22), .val (.int (1 : Int32)), .unset, .unset, .unset] [])
        refine WJ24.iload me at_207 rfl ?_
        show Fi p e below s Z _ _ _ _ TJ24 (mkF m 209 #[.val (.int p0), .val (.int p1), .val (.int p2), .val (.int (Int32.ofNat np)), .val (.int a0c), .val (.int a1c), .val (.int (Int32.ofNat nb)), .val (.int b0c), .val (.int b1c), .val (.int (1 : Int32)), .val (.int (Int32.ofNat nm)), .val (.int m0c), .val (.int m1c), .val (.ref a17), .val (.ref a18), .val (.ref a19), .val (.ref d22), .val (.int (1 : Int32)), .unset, .unset, .unset] [(.int (1 : Int32))])
        refine WJ24.ifY_ne me at_209 (by decide) (pc' := 299) (by decide) (by decide) ?_
        show Fi p e below s Z _ _ _ _ TJ24 (mkF m 299 #[.val (.int p0), .val (.int p1), .val (.int p2), .val (.int (Int32.ofNat np)), .val (.int a0c), .val (.int a1c), .val (.int (Int32.ofNat nb)), .val (.int b0c), .val (.int b1c), .val (.int (1 : Int32)), .val (.int (Int32.ofNat nm)), .val (.int m0c), .val (.int m1c), .val (.ref a17), .val (.ref a18), .val (.ref a19), .val (.ref d22), .val (.int (1 : Int32)), .unset, .unset, .unset] [])
        show Fi p e below s Z _ _ _ _ TJ24 (mkF m 299 #[.val (.int p0), .val (.int p1), .val (.int p2), .val (.int (Int32.ofNat np)), .val (.int a0c), .val (.int a1c), .val (.int (Int32.ofNat nb)), .val (.int b0c), .val (.int b1c), .val (.int (1 : Int32)), .val (.int (Int32.ofNat nm)), .val (.int m0c), .val (.int m1c), .val (.ref a17), .val (.ref a18), .val (.ref a19), .val (.ref d22), .val (.int (1 : Int32)), .unset, .unset, .unset] [])
        refine WJ24.iloadN me at_299 rfl ?_
        refine WJ24.bipush me at_300 (v := 8) rfl ?_
        show Fi p e below s Z _ _ _ _ TJ24 (mkF m 302 #[.val (.int p0), .val (.int p1), .val (.int p2), .val (.int (Int32.ofNat np)), .val (.int a0c), .val (.int a1c), .val (.int (Int32.ofNat nb)), .val (.int b0c), .val (.int b1c), .val (.int (1 : Int32)), .val (.int (Int32.ofNat nm)), .val (.int m0c), .val (.int m1c), .val (.ref a17), .val (.ref a18), .val (.ref a19), .val (.ref d22), .val (.int (1 : Int32)), .unset, .unset, .unset] [(.int (8 : Int32)), (.int (Int32.ofNat np))])
        refine WJ24.iadd me at_302 ?_
        rw [show Int32.ofNat (np) + (8 : Int32) = Int32.ofNat (np + 8) from on_add _ _]
        show Fi p e below s Z _ _ _ _ TJ24 (mkF m 303 #[.val (.int p0), .val (.int p1), .val (.int p2), .val (.int (Int32.ofNat np)), .val (.int a0c), .val (.int a1c), .val (.int (Int32.ofNat nb)), .val (.int b0c), .val (.int b1c), .val (.int (1 : Int32)), .val (.int (Int32.ofNat nm)), .val (.int m0c), .val (.int m1c), .val (.ref a17), .val (.ref a18), .val (.ref a19), .val (.ref d22), .val (.int (1 : Int32)), .unset, .unset, .unset] [(.int (Int32.ofNat (np + 8)))])
        refine WJ24.istore me at_303 (l' := #[.val (.int p0), .val (.int p1), .val (.int p2), .val (.int (Int32.ofNat np)), .val (.int a0c), .val (.int a1c), .val (.int (Int32.ofNat nb)), .val (.int b0c), .val (.int b1c), .val (.int (1 : Int32)), .val (.int (Int32.ofNat nm)), .val (.int m0c), .val (.int m1c), .val (.ref a17), .val (.ref a18), .val (.ref a19), .val (.ref d22), .val (.int (1 : Int32)), .val (.int (Int32.ofNat (np + 8))), .unset, .unset]) rfl ?_
        refine WJ24.iload me at_305 rfl ?_
        refine WJ24.iload me at_307 rfl ?_
        show Fi p e below s Z _ _ _ _ TJ24 (mkF m 309 #[.val (.int p0), .val (.int p1), .val (.int p2), .val (.int (Int32.ofNat np)), .val (.int a0c), .val (.int a1c), .val (.int (Int32.ofNat nb)), .val (.int b0c), .val (.int b1c), .val (.int (1 : Int32)), .val (.int (Int32.ofNat nm)), .val (.int m0c), .val (.int m1c), .val (.ref a17), .val (.ref a18), .val (.ref a19), .val (.ref d22), .val (.int (1 : Int32)), .val (.int (Int32.ofNat (np + 8))), .unset, .unset] [(.int (Int32.ofNat nb)), (.int (Int32.ofNat (np + 8)))])
        refine WJ24.iadd me at_309 ?_
        rw [show Int32.ofNat (np + 8) + Int32.ofNat (nb) = Int32.ofNat (np + 8 + nb) from on_add _ _]
        show Fi p e below s Z _ _ _ _ TJ24 (mkF m 310 #[.val (.int p0), .val (.int p1), .val (.int p2), .val (.int (Int32.ofNat np)), .val (.int a0c), .val (.int a1c), .val (.int (Int32.ofNat nb)), .val (.int b0c), .val (.int b1c), .val (.int (1 : Int32)), .val (.int (Int32.ofNat nm)), .val (.int m0c), .val (.int m1c), .val (.ref a17), .val (.ref a18), .val (.ref a19), .val (.ref d22), .val (.int (1 : Int32)), .val (.int (Int32.ofNat (np + 8))), .unset, .unset] [(.int (Int32.ofNat (np + 8 + nb)))])
        refine WJ24.istore me at_310 (l' := #[.val (.int p0), .val (.int p1), .val (.int p2), .val (.int (Int32.ofNat np)), .val (.int a0c), .val (.int a1c), .val (.int (Int32.ofNat nb)), .val (.int b0c), .val (.int b1c), .val (.int (1 : Int32)), .val (.int (Int32.ofNat nm)), .val (.int m0c), .val (.int m1c), .val (.ref a17), .val (.ref a18), .val (.ref a19), .val (.ref d22), .val (.int (1 : Int32)), .val (.int (Int32.ofNat (np + 8))), .val (.int (Int32.ofNat (np + 8 + nb))), .unset]) rfl ?_
        refine WJ24.iload me at_312 rfl ?_
        refine WJ24.iconst me at_314 (v := 3) rfl ?_
        show Fi p e below s Z _ _ _ _ TJ24 (mkF m 315 #[.val (.int p0), .val (.int p1), .val (.int p2), .val (.int (Int32.ofNat np)), .val (.int a0c), .val (.int a1c), .val (.int (Int32.ofNat nb)), .val (.int b0c), .val (.int b1c), .val (.int (1 : Int32)), .val (.int (Int32.ofNat nm)), .val (.int m0c), .val (.int m1c), .val (.ref a17), .val (.ref a18), .val (.ref a19), .val (.ref d22), .val (.int (1 : Int32)), .val (.int (Int32.ofNat (np + 8))), .val (.int (Int32.ofNat (np + 8 + nb))), .unset] [(.int (3 : Int32)), (.int (Int32.ofNat (np + 8 + nb)))])
        refine WJ24.iadd me at_315 ?_
        rw [show Int32.ofNat (np + 8 + nb) + (3 : Int32) = Int32.ofNat (np + 8 + nb + 3) from on_add _ _]
        show Fi p e below s Z _ _ _ _ TJ24 (mkF m 316 #[.val (.int p0), .val (.int p1), .val (.int p2), .val (.int (Int32.ofNat np)), .val (.int a0c), .val (.int a1c), .val (.int (Int32.ofNat nb)), .val (.int b0c), .val (.int b1c), .val (.int (1 : Int32)), .val (.int (Int32.ofNat nm)), .val (.int m0c), .val (.int m1c), .val (.ref a17), .val (.ref a18), .val (.ref a19), .val (.ref d22), .val (.int (1 : Int32)), .val (.int (Int32.ofNat (np + 8))), .val (.int (Int32.ofNat (np + 8 + nb))), .unset] [(.int (Int32.ofNat (np + 8 + nb + 3)))])
        refine WJ24.istore me at_316 (l' := #[.val (.int p0), .val (.int p1), .val (.int p2), .val (.int (Int32.ofNat np)), .val (.int a0c), .val (.int a1c), .val (.int (Int32.ofNat nb)), .val (.int b0c), .val (.int b1c), .val (.int (1 : Int32)), .val (.int (Int32.ofNat nm)), .val (.int m0c), .val (.int m1c), .val (.ref a17), .val (.ref a18), .val (.ref a19), .val (.ref d22), .val (.int (1 : Int32)), .val (.int (Int32.ofNat (np + 8))), .val (.int (Int32.ofNat (np + 8 + nb))), .val (.int (Int32.ofNat (np + 8 + nb + 3)))]) rfl ?_
        refine WJ24.aload me at_318 rfl rfl ?_
        show Fi p e below s Z _ _ _ _ TJ24 (mkF m 320 #[.val (.int p0), .val (.int p1), .val (.int p2), .val (.int (Int32.ofNat np)), .val (.int a0c), .val (.int a1c), .val (.int (Int32.ofNat nb)), .val (.int b0c), .val (.int b1c), .val (.int (1 : Int32)), .val (.int (Int32.ofNat nm)), .val (.int m0c), .val (.int m1c), .val (.ref a17), .val (.ref a18), .val (.ref a19), .val (.ref d22), .val (.int (1 : Int32)), .val (.int (Int32.ofNat (np + 8))), .val (.int (Int32.ofNat (np + 8 + nb))), .val (.int (Int32.ofNat (np + 8 + nb + 3)))] [(.ref d22)])
        refine WJ24.callV me hEL (hw _ (List.mem_of_getElem? (i := 172) rfl)) (hw _ (List.mem_of_getElem? (i := 88) rfl)) (fun hZ' => notFace_of_selects (args := #[]) (mvT (s := s.setVm _) hZ' (hw _ (List.mem_of_getElem? (i := 90) rfl)))) (hw _ (List.mem_of_getElem? (i := 90) rfl)) (hw _ (List.mem_of_getElem? (i := 89) rfl)) (hw _ (List.mem_of_getElem? (i := 6) rfl)) (hw _ (List.mem_of_getElem? (i := 91) rfl)) (a := d22) (argsL := []) (rest := []) L22.exa (c_length (ss := []) g WJ24.old L22) at_320 (by decide) (fun _ q => nomatch q) rfl (lenOf pd_17 rfl) (own_le rfl) (own_le rfl) (own_le rfl) (own_le rfl) rfl ?_
        intro T25 h25 v25 W25 z25 q25
        obtain ⟨sf25, X25, _, rfl, rfl, rfl⟩ := q25
        show Fi p e below s Z _ _ _ _ T25 (mkF m 323 #[.val (.int p0), .val (.int p1), .val (.int p2), .val (.int (Int32.ofNat np)), .val (.int a0c), .val (.int a1c), .val (.int (Int32.ofNat nb)), .val (.int b0c), .val (.int b1c), .val (.int (1 : Int32)), .val (.int (Int32.ofNat nm)), .val (.int m0c), .val (.int m1c), .val (.ref a17), .val (.ref a18), .val (.ref a19), .val (.ref d22), .val (.int (1 : Int32)), .val (.int (Int32.ofNat (np + 8))), .val (.int (Int32.ofNat (np + 8 + nb))), .val (.int (Int32.ofNat (np + 8 + nb + 3)))] [(.int (Int32.ofNat rs.length))])
        refine W25.iload me at_323 rfl ?_
        refine W25.iload me at_325 rfl ?_
        show Fi p e below s Z _ _ _ _ T25 (mkF m 327 #[.val (.int p0), .val (.int p1), .val (.int p2), .val (.int (Int32.ofNat np)), .val (.int a0c), .val (.int a1c), .val (.int (Int32.ofNat nb)), .val (.int b0c), .val (.int b1c), .val (.int (1 : Int32)), .val (.int (Int32.ofNat nm)), .val (.int m0c), .val (.int m1c), .val (.ref a17), .val (.ref a18), .val (.ref a19), .val (.ref d22), .val (.int (1 : Int32)), .val (.int (Int32.ofNat (np + 8))), .val (.int (Int32.ofNat (np + 8 + nb))), .val (.int (Int32.ofNat (np + 8 + nb + 3)))] [(.int (Int32.ofNat nm)), (.int (Int32.ofNat (np + 8 + nb + 3))), (.int (Int32.ofNat rs.length))])
        refine W25.iadd me at_327 ?_
        rw [show Int32.ofNat (np + 8 + nb + 3) + Int32.ofNat (nm) = Int32.ofNat (np + 8 + nb + 3 + nm) from on_add _ _]
        show Fi p e below s Z _ _ _ _ T25 (mkF m 328 #[.val (.int p0), .val (.int p1), .val (.int p2), .val (.int (Int32.ofNat np)), .val (.int a0c), .val (.int a1c), .val (.int (Int32.ofNat nb)), .val (.int b0c), .val (.int b1c), .val (.int (1 : Int32)), .val (.int (Int32.ofNat nm)), .val (.int m0c), .val (.int m1c), .val (.ref a17), .val (.ref a18), .val (.ref a19), .val (.ref d22), .val (.int (1 : Int32)), .val (.int (Int32.ofNat (np + 8))), .val (.int (Int32.ofNat (np + 8 + nb))), .val (.int (Int32.ofNat (np + 8 + nb + 3)))] [(.int (Int32.ofNat (np + 8 + nb + 3 + nm))), (.int (Int32.ofNat rs.length))])
        refine W25.icN_ne me at_328 (by rw [lrs]) ?_
        show Fi p e below s Z _ _ _ _ T25 (mkF m 331 #[.val (.int p0), .val (.int p1), .val (.int p2), .val (.int (Int32.ofNat np)), .val (.int a0c), .val (.int a1c), .val (.int (Int32.ofNat nb)), .val (.int b0c), .val (.int b1c), .val (.int (1 : Int32)), .val (.int (Int32.ofNat nm)), .val (.int m0c), .val (.int m1c), .val (.ref a17), .val (.ref a18), .val (.ref a19), .val (.ref d22), .val (.int (1 : Int32)), .val (.int (Int32.ofNat (np + 8))), .val (.int (Int32.ofNat (np + 8 + nb))), .val (.int (Int32.ofNat (np + 8 + nb + 3)))] [])
        refine W25.iload me at_331 rfl ?_
        show Fi p e below s Z _ _ _ _ T25 (mkF m 333 #[.val (.int p0), .val (.int p1), .val (.int p2), .val (.int (Int32.ofNat np)), .val (.int a0c), .val (.int a1c), .val (.int (Int32.ofNat nb)), .val (.int b0c), .val (.int b1c), .val (.int (1 : Int32)), .val (.int (Int32.ofNat nm)), .val (.int m0c), .val (.int m1c), .val (.ref a17), .val (.ref a18), .val (.ref a19), .val (.ref d22), .val (.int (1 : Int32)), .val (.int (Int32.ofNat (np + 8))), .val (.int (Int32.ofNat (np + 8 + nb))), .val (.int (Int32.ofNat (np + 8 + nb + 3)))] [(.int (1 : Int32))])
        refine W25.ifN_eq me at_333 (by decide) ?_
        show Fi p e below s Z _ _ _ _ T25 (mkF m 336 #[.val (.int p0), .val (.int p1), .val (.int p2), .val (.int (Int32.ofNat np)), .val (.int a0c), .val (.int a1c), .val (.int (Int32.ofNat nb)), .val (.int b0c), .val (.int b1c), .val (.int (1 : Int32)), .val (.int (Int32.ofNat nm)), .val (.int m0c), .val (.int m1c), .val (.ref a17), .val (.ref a18), .val (.ref a19), .val (.ref d22), .val (.int (1 : Int32)), .val (.int (Int32.ofNat (np + 8))), .val (.int (Int32.ofNat (np + 8 + nb))), .val (.int (Int32.ofNat (np + 8 + nb + 3)))] [])
        refine W25.aload me at_336 rfl rfl ?_
        refine W25.iloadN me at_338 rfl ?_
        refine W25.bipush me at_339 (v := 58) rfl ?_
        show Fi p e below s Z _ _ _ _ T25 (mkF m 341 #[.val (.int p0), .val (.int p1), .val (.int p2), .val (.int (Int32.ofNat np)), .val (.int a0c), .val (.int a1c), .val (.int (Int32.ofNat nb)), .val (.int b0c), .val (.int b1c), .val (.int (1 : Int32)), .val (.int (Int32.ofNat nm)), .val (.int m0c), .val (.int m1c), .val (.ref a17), .val (.ref a18), .val (.ref a19), .val (.ref d22), .val (.int (1 : Int32)), .val (.int (Int32.ofNat (np + 8))), .val (.int (Int32.ofNat (np + 8 + nb))), .val (.int (Int32.ofNat (np + 8 + nb + 3)))] [(.int (58 : Int32)), (.int (Int32.ofNat np)), (.ref d22)])
        refine W25.callS me hEL (hw _ (List.mem_of_getElem? (i := 173) rfl)) (hw _ (List.mem_of_getElem? (i := 174) rfl)) (hw _ (List.mem_of_getElem? (i := 2) rfl)) (hw _ (List.mem_of_getElem? (i := 175) rfl)) (argsL := [(.ref d22), (.int (Int32.ofNat np)), (.int (58 : Int32))]) (rest := []) (c_at (ss := []) g W25.old (cs := rs) (i := np) L22 (by omega) (f1 0 (by omega))) at_341 (by decide) (fun _ q => nomatch q) rfl (lenOf pd_32 rfl) (own_le rfl) (own_le rfl) (own_le rfl) (own_le rfl) rfl ?_
        intro T26 h26 v26 W26 z26 q26
        obtain ⟨sf26, X26, _, rfl, rfl, rfl⟩ := q26
        show Fi p e below s Z _ _ _ _ T26 (mkF m 344 #[.val (.int p0), .val (.int p1), .val (.int p2), .val (.int (Int32.ofNat np)), .val (.int a0c), .val (.int a1c), .val (.int (Int32.ofNat nb)), .val (.int b0c), .val (.int b1c), .val (.int (1 : Int32)), .val (.int (Int32.ofNat nm)), .val (.int m0c), .val (.int m1c), .val (.ref a17), .val (.ref a18), .val (.ref a19), .val (.ref d22), .val (.int (1 : Int32)), .val (.int (Int32.ofNat (np + 8))), .val (.int (Int32.ofNat (np + 8 + nb))), .val (.int (Int32.ofNat (np + 8 + nb + 3)))] [(.int (1 : Int32))])
        refine W26.ifN_eq me at_344 (by decide) ?_
        show Fi p e below s Z _ _ _ _ T26 (mkF m 347 #[.val (.int p0), .val (.int p1), .val (.int p2), .val (.int (Int32.ofNat np)), .val (.int a0c), .val (.int a1c), .val (.int (Int32.ofNat nb)), .val (.int b0c), .val (.int b1c), .val (.int (1 : Int32)), .val (.int (Int32.ofNat nm)), .val (.int m0c), .val (.int m1c), .val (.ref a17), .val (.ref a18), .val (.ref a19), .val (.ref d22), .val (.int (1 : Int32)), .val (.int (Int32.ofNat (np + 8))), .val (.int (Int32.ofNat (np + 8 + nb))), .val (.int (Int32.ofNat (np + 8 + nb + 3)))] [])
        refine W26.aload me at_347 rfl rfl ?_
        refine W26.iloadN me at_349 rfl ?_
        refine W26.iconst me at_350 (v := 1) rfl ?_
        refine W26.iadd me at_351 ?_
        rw [show Int32.ofNat (np) + (1 : Int32) = Int32.ofNat (np + 1) from on_add _ _]
        show Fi p e below s Z _ _ _ _ T26 (mkF m 352 #[.val (.int p0), .val (.int p1), .val (.int p2), .val (.int (Int32.ofNat np)), .val (.int a0c), .val (.int a1c), .val (.int (Int32.ofNat nb)), .val (.int b0c), .val (.int b1c), .val (.int (1 : Int32)), .val (.int (Int32.ofNat nm)), .val (.int m0c), .val (.int m1c), .val (.ref a17), .val (.ref a18), .val (.ref a19), .val (.ref d22), .val (.int (1 : Int32)), .val (.int (Int32.ofNat (np + 8))), .val (.int (Int32.ofNat (np + 8 + nb))), .val (.int (Int32.ofNat (np + 8 + nb + 3)))] [(.int (Int32.ofNat (np + 1))), (.ref d22)])
        refine W26.bipush me at_352 (v := 32) rfl ?_
        show Fi p e below s Z _ _ _ _ T26 (mkF m 354 #[.val (.int p0), .val (.int p1), .val (.int p2), .val (.int (Int32.ofNat np)), .val (.int a0c), .val (.int a1c), .val (.int (Int32.ofNat nb)), .val (.int b0c), .val (.int b1c), .val (.int (1 : Int32)), .val (.int (Int32.ofNat nm)), .val (.int m0c), .val (.int m1c), .val (.ref a17), .val (.ref a18), .val (.ref a19), .val (.ref d22), .val (.int (1 : Int32)), .val (.int (Int32.ofNat (np + 8))), .val (.int (Int32.ofNat (np + 8 + nb))), .val (.int (Int32.ofNat (np + 8 + nb + 3)))] [(.int (32 : Int32)), (.int (Int32.ofNat (np + 1))), (.ref d22)])
        refine W26.callS me hEL (hw _ (List.mem_of_getElem? (i := 173) rfl)) (hw _ (List.mem_of_getElem? (i := 174) rfl)) (hw _ (List.mem_of_getElem? (i := 2) rfl)) (hw _ (List.mem_of_getElem? (i := 175) rfl)) (argsL := [(.ref d22), (.int (Int32.ofNat (np + 1))), (.int (32 : Int32))]) (rest := []) (c_at (ss := []) g W26.old (cs := rs) (i := (np + 1)) L22 (by omega) (f1 1 (by omega))) at_354 (by decide) (fun _ q => nomatch q) rfl (lenOf pd_32 rfl) (own_le rfl) (own_le rfl) (own_le rfl) (own_le rfl) rfl ?_
        intro T27 h27 v27 W27 z27 q27
        obtain ⟨sf27, X27, _, rfl, rfl, rfl⟩ := q27
        show Fi p e below s Z _ _ _ _ T27 (mkF m 357 #[.val (.int p0), .val (.int p1), .val (.int p2), .val (.int (Int32.ofNat np)), .val (.int a0c), .val (.int a1c), .val (.int (Int32.ofNat nb)), .val (.int b0c), .val (.int b1c), .val (.int (1 : Int32)), .val (.int (Int32.ofNat nm)), .val (.int m0c), .val (.int m1c), .val (.ref a17), .val (.ref a18), .val (.ref a19), .val (.ref d22), .val (.int (1 : Int32)), .val (.int (Int32.ofNat (np + 8))), .val (.int (Int32.ofNat (np + 8 + nb))), .val (.int (Int32.ofNat (np + 8 + nb + 3)))] [(.int (1 : Int32))])
        refine W27.ifN_eq me at_357 (by decide) ?_
        show Fi p e below s Z _ _ _ _ T27 (mkF m 360 #[.val (.int p0), .val (.int p1), .val (.int p2), .val (.int (Int32.ofNat np)), .val (.int a0c), .val (.int a1c), .val (.int (Int32.ofNat nb)), .val (.int b0c), .val (.int b1c), .val (.int (1 : Int32)), .val (.int (Int32.ofNat nm)), .val (.int m0c), .val (.int m1c), .val (.ref a17), .val (.ref a18), .val (.ref a19), .val (.ref d22), .val (.int (1 : Int32)), .val (.int (Int32.ofNat (np + 8))), .val (.int (Int32.ofNat (np + 8 + nb))), .val (.int (Int32.ofNat (np + 8 + nb + 3)))] [])
        refine W27.aload me at_360 rfl rfl ?_
        refine W27.iloadN me at_362 rfl ?_
        refine W27.iconst me at_363 (v := 2) rfl ?_
        refine W27.iadd me at_364 ?_
        rw [show Int32.ofNat (np) + (2 : Int32) = Int32.ofNat (np + 2) from on_add _ _]
        show Fi p e below s Z _ _ _ _ T27 (mkF m 365 #[.val (.int p0), .val (.int p1), .val (.int p2), .val (.int (Int32.ofNat np)), .val (.int a0c), .val (.int a1c), .val (.int (Int32.ofNat nb)), .val (.int b0c), .val (.int b1c), .val (.int (1 : Int32)), .val (.int (Int32.ofNat nm)), .val (.int m0c), .val (.int m1c), .val (.ref a17), .val (.ref a18), .val (.ref a19), .val (.ref d22), .val (.int (1 : Int32)), .val (.int (Int32.ofNat (np + 8))), .val (.int (Int32.ofNat (np + 8 + nb))), .val (.int (Int32.ofNat (np + 8 + nb + 3)))] [(.int (Int32.ofNat (np + 2))), (.ref d22)])
        refine W27.bipush me at_365 (v := 98) rfl ?_
        show Fi p e below s Z _ _ _ _ T27 (mkF m 367 #[.val (.int p0), .val (.int p1), .val (.int p2), .val (.int (Int32.ofNat np)), .val (.int a0c), .val (.int a1c), .val (.int (Int32.ofNat nb)), .val (.int b0c), .val (.int b1c), .val (.int (1 : Int32)), .val (.int (Int32.ofNat nm)), .val (.int m0c), .val (.int m1c), .val (.ref a17), .val (.ref a18), .val (.ref a19), .val (.ref d22), .val (.int (1 : Int32)), .val (.int (Int32.ofNat (np + 8))), .val (.int (Int32.ofNat (np + 8 + nb))), .val (.int (Int32.ofNat (np + 8 + nb + 3)))] [(.int (98 : Int32)), (.int (Int32.ofNat (np + 2))), (.ref d22)])
        refine W27.callS me hEL (hw _ (List.mem_of_getElem? (i := 173) rfl)) (hw _ (List.mem_of_getElem? (i := 174) rfl)) (hw _ (List.mem_of_getElem? (i := 2) rfl)) (hw _ (List.mem_of_getElem? (i := 175) rfl)) (argsL := [(.ref d22), (.int (Int32.ofNat (np + 2))), (.int (98 : Int32))]) (rest := []) (c_at (ss := []) g W27.old (cs := rs) (i := (np + 2)) L22 (by omega) (f1 2 (by omega))) at_367 (by decide) (fun _ q => nomatch q) rfl (lenOf pd_32 rfl) (own_le rfl) (own_le rfl) (own_le rfl) (own_le rfl) rfl ?_
        intro T28 h28 v28 W28 z28 q28
        obtain ⟨sf28, X28, _, rfl, rfl, rfl⟩ := q28
        show Fi p e below s Z _ _ _ _ T28 (mkF m 370 #[.val (.int p0), .val (.int p1), .val (.int p2), .val (.int (Int32.ofNat np)), .val (.int a0c), .val (.int a1c), .val (.int (Int32.ofNat nb)), .val (.int b0c), .val (.int b1c), .val (.int (1 : Int32)), .val (.int (Int32.ofNat nm)), .val (.int m0c), .val (.int m1c), .val (.ref a17), .val (.ref a18), .val (.ref a19), .val (.ref d22), .val (.int (1 : Int32)), .val (.int (Int32.ofNat (np + 8))), .val (.int (Int32.ofNat (np + 8 + nb))), .val (.int (Int32.ofNat (np + 8 + nb + 3)))] [(.int (1 : Int32))])
        refine W28.ifN_eq me at_370 (by decide) ?_
        show Fi p e below s Z _ _ _ _ T28 (mkF m 373 #[.val (.int p0), .val (.int p1), .val (.int p2), .val (.int (Int32.ofNat np)), .val (.int a0c), .val (.int a1c), .val (.int (Int32.ofNat nb)), .val (.int b0c), .val (.int b1c), .val (.int (1 : Int32)), .val (.int (Int32.ofNat nm)), .val (.int m0c), .val (.int m1c), .val (.ref a17), .val (.ref a18), .val (.ref a19), .val (.ref d22), .val (.int (1 : Int32)), .val (.int (Int32.ofNat (np + 8))), .val (.int (Int32.ofNat (np + 8 + nb))), .val (.int (Int32.ofNat (np + 8 + nb + 3)))] [])
        refine W28.aload me at_373 rfl rfl ?_
        refine W28.iloadN me at_375 rfl ?_
        refine W28.iconst me at_376 (v := 3) rfl ?_
        refine W28.iadd me at_377 ?_
        rw [show Int32.ofNat (np) + (3 : Int32) = Int32.ofNat (np + 3) from on_add _ _]
        show Fi p e below s Z _ _ _ _ T28 (mkF m 378 #[.val (.int p0), .val (.int p1), .val (.int p2), .val (.int (Int32.ofNat np)), .val (.int a0c), .val (.int a1c), .val (.int (Int32.ofNat nb)), .val (.int b0c), .val (.int b1c), .val (.int (1 : Int32)), .val (.int (Int32.ofNat nm)), .val (.int m0c), .val (.int m1c), .val (.ref a17), .val (.ref a18), .val (.ref a19), .val (.ref d22), .val (.int (1 : Int32)), .val (.int (Int32.ofNat (np + 8))), .val (.int (Int32.ofNat (np + 8 + nb))), .val (.int (Int32.ofNat (np + 8 + nb + 3)))] [(.int (Int32.ofNat (np + 3))), (.ref d22)])
        refine W28.bipush me at_378 (v := 101) rfl ?_
        show Fi p e below s Z _ _ _ _ T28 (mkF m 380 #[.val (.int p0), .val (.int p1), .val (.int p2), .val (.int (Int32.ofNat np)), .val (.int a0c), .val (.int a1c), .val (.int (Int32.ofNat nb)), .val (.int b0c), .val (.int b1c), .val (.int (1 : Int32)), .val (.int (Int32.ofNat nm)), .val (.int m0c), .val (.int m1c), .val (.ref a17), .val (.ref a18), .val (.ref a19), .val (.ref d22), .val (.int (1 : Int32)), .val (.int (Int32.ofNat (np + 8))), .val (.int (Int32.ofNat (np + 8 + nb))), .val (.int (Int32.ofNat (np + 8 + nb + 3)))] [(.int (101 : Int32)), (.int (Int32.ofNat (np + 3))), (.ref d22)])
        refine W28.callS me hEL (hw _ (List.mem_of_getElem? (i := 173) rfl)) (hw _ (List.mem_of_getElem? (i := 174) rfl)) (hw _ (List.mem_of_getElem? (i := 2) rfl)) (hw _ (List.mem_of_getElem? (i := 175) rfl)) (argsL := [(.ref d22), (.int (Int32.ofNat (np + 3))), (.int (101 : Int32))]) (rest := []) (c_at (ss := []) g W28.old (cs := rs) (i := (np + 3)) L22 (by omega) (f1 3 (by omega))) at_380 (by decide) (fun _ q => nomatch q) rfl (lenOf pd_32 rfl) (own_le rfl) (own_le rfl) (own_le rfl) (own_le rfl) rfl ?_
        intro T29 h29 v29 W29 z29 q29
        obtain ⟨sf29, X29, _, rfl, rfl, rfl⟩ := q29
        show Fi p e below s Z _ _ _ _ T29 (mkF m 383 #[.val (.int p0), .val (.int p1), .val (.int p2), .val (.int (Int32.ofNat np)), .val (.int a0c), .val (.int a1c), .val (.int (Int32.ofNat nb)), .val (.int b0c), .val (.int b1c), .val (.int (1 : Int32)), .val (.int (Int32.ofNat nm)), .val (.int m0c), .val (.int m1c), .val (.ref a17), .val (.ref a18), .val (.ref a19), .val (.ref d22), .val (.int (1 : Int32)), .val (.int (Int32.ofNat (np + 8))), .val (.int (Int32.ofNat (np + 8 + nb))), .val (.int (Int32.ofNat (np + 8 + nb + 3)))] [(.int (1 : Int32))])
        refine W29.ifN_eq me at_383 (by decide) ?_
        show Fi p e below s Z _ _ _ _ T29 (mkF m 386 #[.val (.int p0), .val (.int p1), .val (.int p2), .val (.int (Int32.ofNat np)), .val (.int a0c), .val (.int a1c), .val (.int (Int32.ofNat nb)), .val (.int b0c), .val (.int b1c), .val (.int (1 : Int32)), .val (.int (Int32.ofNat nm)), .val (.int m0c), .val (.int m1c), .val (.ref a17), .val (.ref a18), .val (.ref a19), .val (.ref d22), .val (.int (1 : Int32)), .val (.int (Int32.ofNat (np + 8))), .val (.int (Int32.ofNat (np + 8 + nb))), .val (.int (Int32.ofNat (np + 8 + nb + 3)))] [])
        refine W29.aload me at_386 rfl rfl ?_
        refine W29.iloadN me at_388 rfl ?_
        refine W29.iconst me at_389 (v := 4) rfl ?_
        refine W29.iadd me at_390 ?_
        rw [show Int32.ofNat (np) + (4 : Int32) = Int32.ofNat (np + 4) from on_add _ _]
        show Fi p e below s Z _ _ _ _ T29 (mkF m 391 #[.val (.int p0), .val (.int p1), .val (.int p2), .val (.int (Int32.ofNat np)), .val (.int a0c), .val (.int a1c), .val (.int (Int32.ofNat nb)), .val (.int b0c), .val (.int b1c), .val (.int (1 : Int32)), .val (.int (Int32.ofNat nm)), .val (.int m0c), .val (.int m1c), .val (.ref a17), .val (.ref a18), .val (.ref a19), .val (.ref d22), .val (.int (1 : Int32)), .val (.int (Int32.ofNat (np + 8))), .val (.int (Int32.ofNat (np + 8 + nb))), .val (.int (Int32.ofNat (np + 8 + nb + 3)))] [(.int (Int32.ofNat (np + 4))), (.ref d22)])
        refine W29.bipush me at_391 (v := 97) rfl ?_
        show Fi p e below s Z _ _ _ _ T29 (mkF m 393 #[.val (.int p0), .val (.int p1), .val (.int p2), .val (.int (Int32.ofNat np)), .val (.int a0c), .val (.int a1c), .val (.int (Int32.ofNat nb)), .val (.int b0c), .val (.int b1c), .val (.int (1 : Int32)), .val (.int (Int32.ofNat nm)), .val (.int m0c), .val (.int m1c), .val (.ref a17), .val (.ref a18), .val (.ref a19), .val (.ref d22), .val (.int (1 : Int32)), .val (.int (Int32.ofNat (np + 8))), .val (.int (Int32.ofNat (np + 8 + nb))), .val (.int (Int32.ofNat (np + 8 + nb + 3)))] [(.int (97 : Int32)), (.int (Int32.ofNat (np + 4))), (.ref d22)])
        refine W29.callS me hEL (hw _ (List.mem_of_getElem? (i := 173) rfl)) (hw _ (List.mem_of_getElem? (i := 174) rfl)) (hw _ (List.mem_of_getElem? (i := 2) rfl)) (hw _ (List.mem_of_getElem? (i := 175) rfl)) (argsL := [(.ref d22), (.int (Int32.ofNat (np + 4))), (.int (97 : Int32))]) (rest := []) (c_at (ss := []) g W29.old (cs := rs) (i := (np + 4)) L22 (by omega) (f1 4 (by omega))) at_393 (by decide) (fun _ q => nomatch q) rfl (lenOf pd_32 rfl) (own_le rfl) (own_le rfl) (own_le rfl) (own_le rfl) rfl ?_
        intro T30 h30 v30 W30 z30 q30
        obtain ⟨sf30, X30, _, rfl, rfl, rfl⟩ := q30
        show Fi p e below s Z _ _ _ _ T30 (mkF m 396 #[.val (.int p0), .val (.int p1), .val (.int p2), .val (.int (Int32.ofNat np)), .val (.int a0c), .val (.int a1c), .val (.int (Int32.ofNat nb)), .val (.int b0c), .val (.int b1c), .val (.int (1 : Int32)), .val (.int (Int32.ofNat nm)), .val (.int m0c), .val (.int m1c), .val (.ref a17), .val (.ref a18), .val (.ref a19), .val (.ref d22), .val (.int (1 : Int32)), .val (.int (Int32.ofNat (np + 8))), .val (.int (Int32.ofNat (np + 8 + nb))), .val (.int (Int32.ofNat (np + 8 + nb + 3)))] [(.int (1 : Int32))])
        refine W30.ifN_eq me at_396 (by decide) ?_
        show Fi p e below s Z _ _ _ _ T30 (mkF m 399 #[.val (.int p0), .val (.int p1), .val (.int p2), .val (.int (Int32.ofNat np)), .val (.int a0c), .val (.int a1c), .val (.int (Int32.ofNat nb)), .val (.int b0c), .val (.int b1c), .val (.int (1 : Int32)), .val (.int (Int32.ofNat nm)), .val (.int m0c), .val (.int m1c), .val (.ref a17), .val (.ref a18), .val (.ref a19), .val (.ref d22), .val (.int (1 : Int32)), .val (.int (Int32.ofNat (np + 8))), .val (.int (Int32.ofNat (np + 8 + nb))), .val (.int (Int32.ofNat (np + 8 + nb + 3)))] [])
        refine W30.aload me at_399 rfl rfl ?_
        refine W30.iloadN me at_401 rfl ?_
        refine W30.iconst me at_402 (v := 5) rfl ?_
        refine W30.iadd me at_403 ?_
        rw [show Int32.ofNat (np) + (5 : Int32) = Int32.ofNat (np + 5) from on_add _ _]
        show Fi p e below s Z _ _ _ _ T30 (mkF m 404 #[.val (.int p0), .val (.int p1), .val (.int p2), .val (.int (Int32.ofNat np)), .val (.int a0c), .val (.int a1c), .val (.int (Int32.ofNat nb)), .val (.int b0c), .val (.int b1c), .val (.int (1 : Int32)), .val (.int (Int32.ofNat nm)), .val (.int m0c), .val (.int m1c), .val (.ref a17), .val (.ref a18), .val (.ref a19), .val (.ref d22), .val (.int (1 : Int32)), .val (.int (Int32.ofNat (np + 8))), .val (.int (Int32.ofNat (np + 8 + nb))), .val (.int (Int32.ofNat (np + 8 + nb + 3)))] [(.int (Int32.ofNat (np + 5))), (.ref d22)])
        refine W30.bipush me at_404 (v := 110) rfl ?_
        show Fi p e below s Z _ _ _ _ T30 (mkF m 406 #[.val (.int p0), .val (.int p1), .val (.int p2), .val (.int (Int32.ofNat np)), .val (.int a0c), .val (.int a1c), .val (.int (Int32.ofNat nb)), .val (.int b0c), .val (.int b1c), .val (.int (1 : Int32)), .val (.int (Int32.ofNat nm)), .val (.int m0c), .val (.int m1c), .val (.ref a17), .val (.ref a18), .val (.ref a19), .val (.ref d22), .val (.int (1 : Int32)), .val (.int (Int32.ofNat (np + 8))), .val (.int (Int32.ofNat (np + 8 + nb))), .val (.int (Int32.ofNat (np + 8 + nb + 3)))] [(.int (110 : Int32)), (.int (Int32.ofNat (np + 5))), (.ref d22)])
        refine W30.callS me hEL (hw _ (List.mem_of_getElem? (i := 173) rfl)) (hw _ (List.mem_of_getElem? (i := 174) rfl)) (hw _ (List.mem_of_getElem? (i := 2) rfl)) (hw _ (List.mem_of_getElem? (i := 175) rfl)) (argsL := [(.ref d22), (.int (Int32.ofNat (np + 5))), (.int (110 : Int32))]) (rest := []) (c_at (ss := []) g W30.old (cs := rs) (i := (np + 5)) L22 (by omega) (f1 5 (by omega))) at_406 (by decide) (fun _ q => nomatch q) rfl (lenOf pd_32 rfl) (own_le rfl) (own_le rfl) (own_le rfl) (own_le rfl) rfl ?_
        intro T31 h31 v31 W31 z31 q31
        obtain ⟨sf31, X31, _, rfl, rfl, rfl⟩ := q31
        show Fi p e below s Z _ _ _ _ T31 (mkF m 409 #[.val (.int p0), .val (.int p1), .val (.int p2), .val (.int (Int32.ofNat np)), .val (.int a0c), .val (.int a1c), .val (.int (Int32.ofNat nb)), .val (.int b0c), .val (.int b1c), .val (.int (1 : Int32)), .val (.int (Int32.ofNat nm)), .val (.int m0c), .val (.int m1c), .val (.ref a17), .val (.ref a18), .val (.ref a19), .val (.ref d22), .val (.int (1 : Int32)), .val (.int (Int32.ofNat (np + 8))), .val (.int (Int32.ofNat (np + 8 + nb))), .val (.int (Int32.ofNat (np + 8 + nb + 3)))] [(.int (1 : Int32))])
        refine W31.ifN_eq me at_409 (by decide) ?_
        show Fi p e below s Z _ _ _ _ T31 (mkF m 412 #[.val (.int p0), .val (.int p1), .val (.int p2), .val (.int (Int32.ofNat np)), .val (.int a0c), .val (.int a1c), .val (.int (Int32.ofNat nb)), .val (.int b0c), .val (.int b1c), .val (.int (1 : Int32)), .val (.int (Int32.ofNat nm)), .val (.int m0c), .val (.int m1c), .val (.ref a17), .val (.ref a18), .val (.ref a19), .val (.ref d22), .val (.int (1 : Int32)), .val (.int (Int32.ofNat (np + 8))), .val (.int (Int32.ofNat (np + 8 + nb))), .val (.int (Int32.ofNat (np + 8 + nb + 3)))] [])
        refine W31.aload me at_412 rfl rfl ?_
        refine W31.iloadN me at_414 rfl ?_
        refine W31.bipush me at_415 (v := 6) rfl ?_
        refine W31.iadd me at_417 ?_
        rw [show Int32.ofNat (np) + (6 : Int32) = Int32.ofNat (np + 6) from on_add _ _]
        show Fi p e below s Z _ _ _ _ T31 (mkF m 418 #[.val (.int p0), .val (.int p1), .val (.int p2), .val (.int (Int32.ofNat np)), .val (.int a0c), .val (.int a1c), .val (.int (Int32.ofNat nb)), .val (.int b0c), .val (.int b1c), .val (.int (1 : Int32)), .val (.int (Int32.ofNat nm)), .val (.int m0c), .val (.int m1c), .val (.ref a17), .val (.ref a18), .val (.ref a19), .val (.ref d22), .val (.int (1 : Int32)), .val (.int (Int32.ofNat (np + 8))), .val (.int (Int32.ofNat (np + 8 + nb))), .val (.int (Int32.ofNat (np + 8 + nb + 3)))] [(.int (Int32.ofNat (np + 6))), (.ref d22)])
        refine W31.bipush me at_418 (v := 32) rfl ?_
        show Fi p e below s Z _ _ _ _ T31 (mkF m 420 #[.val (.int p0), .val (.int p1), .val (.int p2), .val (.int (Int32.ofNat np)), .val (.int a0c), .val (.int a1c), .val (.int (Int32.ofNat nb)), .val (.int b0c), .val (.int b1c), .val (.int (1 : Int32)), .val (.int (Int32.ofNat nm)), .val (.int m0c), .val (.int m1c), .val (.ref a17), .val (.ref a18), .val (.ref a19), .val (.ref d22), .val (.int (1 : Int32)), .val (.int (Int32.ofNat (np + 8))), .val (.int (Int32.ofNat (np + 8 + nb))), .val (.int (Int32.ofNat (np + 8 + nb + 3)))] [(.int (32 : Int32)), (.int (Int32.ofNat (np + 6))), (.ref d22)])
        refine W31.callS me hEL (hw _ (List.mem_of_getElem? (i := 173) rfl)) (hw _ (List.mem_of_getElem? (i := 174) rfl)) (hw _ (List.mem_of_getElem? (i := 2) rfl)) (hw _ (List.mem_of_getElem? (i := 175) rfl)) (argsL := [(.ref d22), (.int (Int32.ofNat (np + 6))), (.int (32 : Int32))]) (rest := []) (c_at (ss := []) g W31.old (cs := rs) (i := (np + 6)) L22 (by omega) (f1 6 (by omega))) at_420 (by decide) (fun _ q => nomatch q) rfl (lenOf pd_32 rfl) (own_le rfl) (own_le rfl) (own_le rfl) (own_le rfl) rfl ?_
        intro T32 h32 v32 W32 z32 q32
        obtain ⟨sf32, X32, _, rfl, rfl, rfl⟩ := q32
        show Fi p e below s Z _ _ _ _ T32 (mkF m 423 #[.val (.int p0), .val (.int p1), .val (.int p2), .val (.int (Int32.ofNat np)), .val (.int a0c), .val (.int a1c), .val (.int (Int32.ofNat nb)), .val (.int b0c), .val (.int b1c), .val (.int (1 : Int32)), .val (.int (Int32.ofNat nm)), .val (.int m0c), .val (.int m1c), .val (.ref a17), .val (.ref a18), .val (.ref a19), .val (.ref d22), .val (.int (1 : Int32)), .val (.int (Int32.ofNat (np + 8))), .val (.int (Int32.ofNat (np + 8 + nb))), .val (.int (Int32.ofNat (np + 8 + nb + 3)))] [(.int (1 : Int32))])
        refine W32.ifN_eq me at_423 (by decide) ?_
        show Fi p e below s Z _ _ _ _ T32 (mkF m 426 #[.val (.int p0), .val (.int p1), .val (.int p2), .val (.int (Int32.ofNat np)), .val (.int a0c), .val (.int a1c), .val (.int (Int32.ofNat nb)), .val (.int b0c), .val (.int b1c), .val (.int (1 : Int32)), .val (.int (Int32.ofNat nm)), .val (.int m0c), .val (.int m1c), .val (.ref a17), .val (.ref a18), .val (.ref a19), .val (.ref d22), .val (.int (1 : Int32)), .val (.int (Int32.ofNat (np + 8))), .val (.int (Int32.ofNat (np + 8 + nb))), .val (.int (Int32.ofNat (np + 8 + nb + 3)))] [])
        refine W32.aload me at_426 rfl rfl ?_
        refine W32.iloadN me at_428 rfl ?_
        refine W32.bipush me at_429 (v := 7) rfl ?_
        refine W32.iadd me at_431 ?_
        rw [show Int32.ofNat (np) + (7 : Int32) = Int32.ofNat (np + 7) from on_add _ _]
        show Fi p e below s Z _ _ _ _ T32 (mkF m 432 #[.val (.int p0), .val (.int p1), .val (.int p2), .val (.int (Int32.ofNat np)), .val (.int a0c), .val (.int a1c), .val (.int (Int32.ofNat nb)), .val (.int b0c), .val (.int b1c), .val (.int (1 : Int32)), .val (.int (Int32.ofNat nm)), .val (.int m0c), .val (.int m1c), .val (.ref a17), .val (.ref a18), .val (.ref a19), .val (.ref d22), .val (.int (1 : Int32)), .val (.int (Int32.ofNat (np + 8))), .val (.int (Int32.ofNat (np + 8 + nb))), .val (.int (Int32.ofNat (np + 8 + nb + 3)))] [(.int (Int32.ofNat (np + 7))), (.ref d22)])
        refine W32.bipush me at_432 (v := 39) rfl ?_
        show Fi p e below s Z _ _ _ _ T32 (mkF m 434 #[.val (.int p0), .val (.int p1), .val (.int p2), .val (.int (Int32.ofNat np)), .val (.int a0c), .val (.int a1c), .val (.int (Int32.ofNat nb)), .val (.int b0c), .val (.int b1c), .val (.int (1 : Int32)), .val (.int (Int32.ofNat nm)), .val (.int m0c), .val (.int m1c), .val (.ref a17), .val (.ref a18), .val (.ref a19), .val (.ref d22), .val (.int (1 : Int32)), .val (.int (Int32.ofNat (np + 8))), .val (.int (Int32.ofNat (np + 8 + nb))), .val (.int (Int32.ofNat (np + 8 + nb + 3)))] [(.int (39 : Int32)), (.int (Int32.ofNat (np + 7))), (.ref d22)])
        refine W32.callS me hEL (hw _ (List.mem_of_getElem? (i := 173) rfl)) (hw _ (List.mem_of_getElem? (i := 174) rfl)) (hw _ (List.mem_of_getElem? (i := 2) rfl)) (hw _ (List.mem_of_getElem? (i := 175) rfl)) (argsL := [(.ref d22), (.int (Int32.ofNat (np + 7))), (.int (39 : Int32))]) (rest := []) (c_at (ss := []) g W32.old (cs := rs) (i := (np + 7)) L22 (by omega) (f1 7 (by omega))) at_434 (by decide) (fun _ q => nomatch q) rfl (lenOf pd_32 rfl) (own_le rfl) (own_le rfl) (own_le rfl) (own_le rfl) rfl ?_
        intro T33 h33 v33 W33 z33 q33
        obtain ⟨sf33, X33, _, rfl, rfl, rfl⟩ := q33
        show Fi p e below s Z _ _ _ _ T33 (mkF m 437 #[.val (.int p0), .val (.int p1), .val (.int p2), .val (.int (Int32.ofNat np)), .val (.int a0c), .val (.int a1c), .val (.int (Int32.ofNat nb)), .val (.int b0c), .val (.int b1c), .val (.int (1 : Int32)), .val (.int (Int32.ofNat nm)), .val (.int m0c), .val (.int m1c), .val (.ref a17), .val (.ref a18), .val (.ref a19), .val (.ref d22), .val (.int (1 : Int32)), .val (.int (Int32.ofNat (np + 8))), .val (.int (Int32.ofNat (np + 8 + nb))), .val (.int (Int32.ofNat (np + 8 + nb + 3)))] [(.int (1 : Int32))])
        refine W33.ifN_eq me at_437 (by decide) ?_
        show Fi p e below s Z _ _ _ _ T33 (mkF m 440 #[.val (.int p0), .val (.int p1), .val (.int p2), .val (.int (Int32.ofNat np)), .val (.int a0c), .val (.int a1c), .val (.int (Int32.ofNat nb)), .val (.int b0c), .val (.int b1c), .val (.int (1 : Int32)), .val (.int (Int32.ofNat nm)), .val (.int m0c), .val (.int m1c), .val (.ref a17), .val (.ref a18), .val (.ref a19), .val (.ref d22), .val (.int (1 : Int32)), .val (.int (Int32.ofNat (np + 8))), .val (.int (Int32.ofNat (np + 8 + nb))), .val (.int (Int32.ofNat (np + 8 + nb + 3)))] [])
        refine W33.iload me at_440 rfl ?_
        refine W33.iconst me at_442 (v := 1) rfl ?_
        show Fi p e below s Z _ _ _ _ T33 (mkF m 443 #[.val (.int p0), .val (.int p1), .val (.int p2), .val (.int (Int32.ofNat np)), .val (.int a0c), .val (.int a1c), .val (.int (Int32.ofNat nb)), .val (.int b0c), .val (.int b1c), .val (.int (1 : Int32)), .val (.int (Int32.ofNat nm)), .val (.int m0c), .val (.int m1c), .val (.ref a17), .val (.ref a18), .val (.ref a19), .val (.ref d22), .val (.int (1 : Int32)), .val (.int (Int32.ofNat (np + 8))), .val (.int (Int32.ofNat (np + 8 + nb))), .val (.int (Int32.ofNat (np + 8 + nb + 3)))] [(.int (1 : Int32)), (.int (Int32.ofNat nb))])
        have J34 : ∀ (T1 : State), Wk p l e room_1 s m #[(.int p0), (.int p1), (.int p2)] below meth c Z consts_1 kn "com/example/cadi/cadi/OriginSaysPinLaw" T1 h22 [] 28 199 → Fi p e below s Z consts_1 room_1.cells room_1.slots (rV fun v h => v = .int 1) T1 (mkF m 458 #[.val (.int p0), .val (.int p1), .val (.int p2), .val (.int (Int32.ofNat np)), .val (.int a0c), .val (.int a1c), .val (.int (Int32.ofNat nb)), .val (.int b0c), .val (.int b1c), .val (.int (1 : Int32)), .val (.int (Int32.ofNat nm)), .val (.int m0c), .val (.int m1c), .val (.ref a17), .val (.ref a18), .val (.ref a19), .val (.ref d22), .val (.int (1 : Int32)), .val (.int (Int32.ofNat (np + 8))), .val (.int (Int32.ofNat (np + 8 + nb))), .val (.int (Int32.ofNat (np + 8 + nb + 3)))] []) := by
          intro TJ34 WJ34
          refine WJ34.iload me at_458 rfl ?_
          refine WJ34.iconst me at_460 (v := 2) rfl ?_
          show Fi p e below s Z _ _ _ _ TJ34 (mkF m 461 #[.val (.int p0), .val (.int p1), .val (.int p2), .val (.int (Int32.ofNat np)), .val (.int a0c), .val (.int a1c), .val (.int (Int32.ofNat nb)), .val (.int b0c), .val (.int b1c), .val (.int (1 : Int32)), .val (.int (Int32.ofNat nm)), .val (.int m0c), .val (.int m1c), .val (.ref a17), .val (.ref a18), .val (.ref a19), .val (.ref d22), .val (.int (1 : Int32)), .val (.int (Int32.ofNat (np + 8))), .val (.int (Int32.ofNat (np + 8 + nb))), .val (.int (Int32.ofNat (np + 8 + nb + 3)))] [(.int (2 : Int32)), (.int (Int32.ofNat nb))])
          have J35 : ∀ (T1 : State), Wk p l e room_1 s m #[(.int p0), (.int p1), (.int p2)] below meth c Z consts_1 kn "com/example/cadi/cadi/OriginSaysPinLaw" T1 h22 [] 28 199 → Fi p e below s Z consts_1 room_1.cells room_1.slots (rV fun v h => v = .int 1) T1 (mkF m 478 #[.val (.int p0), .val (.int p1), .val (.int p2), .val (.int (Int32.ofNat np)), .val (.int a0c), .val (.int a1c), .val (.int (Int32.ofNat nb)), .val (.int b0c), .val (.int b1c), .val (.int (1 : Int32)), .val (.int (Int32.ofNat nm)), .val (.int m0c), .val (.int m1c), .val (.ref a17), .val (.ref a18), .val (.ref a19), .val (.ref d22), .val (.int (1 : Int32)), .val (.int (Int32.ofNat (np + 8))), .val (.int (Int32.ofNat (np + 8 + nb))), .val (.int (Int32.ofNat (np + 8 + nb + 3)))] []) := by
            intro TJ35 WJ35
            refine WJ35.aload me at_478 rfl rfl ?_
            refine WJ35.iload me at_480 rfl ?_
            refine WJ35.bipush me at_482 (v := 39) rfl ?_
            show Fi p e below s Z _ _ _ _ TJ35 (mkF m 484 #[.val (.int p0), .val (.int p1), .val (.int p2), .val (.int (Int32.ofNat np)), .val (.int a0c), .val (.int a1c), .val (.int (Int32.ofNat nb)), .val (.int b0c), .val (.int b1c), .val (.int (1 : Int32)), .val (.int (Int32.ofNat nm)), .val (.int m0c), .val (.int m1c), .val (.ref a17), .val (.ref a18), .val (.ref a19), .val (.ref d22), .val (.int (1 : Int32)), .val (.int (Int32.ofNat (np + 8))), .val (.int (Int32.ofNat (np + 8 + nb))), .val (.int (Int32.ofNat (np + 8 + nb + 3)))] [(.int (39 : Int32)), (.int (Int32.ofNat (np + 8 + nb))), (.ref d22)])
            refine WJ35.callS me hEL (hw _ (List.mem_of_getElem? (i := 173) rfl)) (hw _ (List.mem_of_getElem? (i := 174) rfl)) (hw _ (List.mem_of_getElem? (i := 2) rfl)) (hw _ (List.mem_of_getElem? (i := 175) rfl)) (argsL := [(.ref d22), (.int (Int32.ofNat (np + 8 + nb))), (.int (39 : Int32))]) (rest := []) (c_at (ss := []) g WJ35.old (cs := rs) (i := (np + 8 + nb)) L22 (by omega) (f3 0 (by omega))) at_484 (by decide) (fun _ q => nomatch q) rfl (lenOf pd_32 rfl) (own_le rfl) (own_le rfl) (own_le rfl) (own_le rfl) rfl ?_
            intro T36 h36 v36 W36 z36 q36
            obtain ⟨sf36, X36, _, rfl, rfl, rfl⟩ := q36
            show Fi p e below s Z _ _ _ _ T36 (mkF m 487 #[.val (.int p0), .val (.int p1), .val (.int p2), .val (.int (Int32.ofNat np)), .val (.int a0c), .val (.int a1c), .val (.int (Int32.ofNat nb)), .val (.int b0c), .val (.int b1c), .val (.int (1 : Int32)), .val (.int (Int32.ofNat nm)), .val (.int m0c), .val (.int m1c), .val (.ref a17), .val (.ref a18), .val (.ref a19), .val (.ref d22), .val (.int (1 : Int32)), .val (.int (Int32.ofNat (np + 8))), .val (.int (Int32.ofNat (np + 8 + nb))), .val (.int (Int32.ofNat (np + 8 + nb + 3)))] [(.int (1 : Int32))])
            refine W36.ifN_eq me at_487 (by decide) ?_
            show Fi p e below s Z _ _ _ _ T36 (mkF m 490 #[.val (.int p0), .val (.int p1), .val (.int p2), .val (.int (Int32.ofNat np)), .val (.int a0c), .val (.int a1c), .val (.int (Int32.ofNat nb)), .val (.int b0c), .val (.int b1c), .val (.int (1 : Int32)), .val (.int (Int32.ofNat nm)), .val (.int m0c), .val (.int m1c), .val (.ref a17), .val (.ref a18), .val (.ref a19), .val (.ref d22), .val (.int (1 : Int32)), .val (.int (Int32.ofNat (np + 8))), .val (.int (Int32.ofNat (np + 8 + nb))), .val (.int (Int32.ofNat (np + 8 + nb + 3)))] [])
            refine W36.aload me at_490 rfl rfl ?_
            refine W36.iload me at_492 rfl ?_
            refine W36.iconst me at_494 (v := 1) rfl ?_
            refine W36.iadd me at_495 ?_
            rw [show Int32.ofNat (np + 8 + nb) + (1 : Int32) = Int32.ofNat (np + 8 + nb + 1) from on_add _ _]
            show Fi p e below s Z _ _ _ _ T36 (mkF m 496 #[.val (.int p0), .val (.int p1), .val (.int p2), .val (.int (Int32.ofNat np)), .val (.int a0c), .val (.int a1c), .val (.int (Int32.ofNat nb)), .val (.int b0c), .val (.int b1c), .val (.int (1 : Int32)), .val (.int (Int32.ofNat nm)), .val (.int m0c), .val (.int m1c), .val (.ref a17), .val (.ref a18), .val (.ref a19), .val (.ref d22), .val (.int (1 : Int32)), .val (.int (Int32.ofNat (np + 8))), .val (.int (Int32.ofNat (np + 8 + nb))), .val (.int (Int32.ofNat (np + 8 + nb + 3)))] [(.int (Int32.ofNat (np + 8 + nb + 1))), (.ref d22)])
            refine W36.bipush me at_496 (v := 58) rfl ?_
            show Fi p e below s Z _ _ _ _ T36 (mkF m 498 #[.val (.int p0), .val (.int p1), .val (.int p2), .val (.int (Int32.ofNat np)), .val (.int a0c), .val (.int a1c), .val (.int (Int32.ofNat nb)), .val (.int b0c), .val (.int b1c), .val (.int (1 : Int32)), .val (.int (Int32.ofNat nm)), .val (.int m0c), .val (.int m1c), .val (.ref a17), .val (.ref a18), .val (.ref a19), .val (.ref d22), .val (.int (1 : Int32)), .val (.int (Int32.ofNat (np + 8))), .val (.int (Int32.ofNat (np + 8 + nb))), .val (.int (Int32.ofNat (np + 8 + nb + 3)))] [(.int (58 : Int32)), (.int (Int32.ofNat (np + 8 + nb + 1))), (.ref d22)])
            refine W36.callS me hEL (hw _ (List.mem_of_getElem? (i := 173) rfl)) (hw _ (List.mem_of_getElem? (i := 174) rfl)) (hw _ (List.mem_of_getElem? (i := 2) rfl)) (hw _ (List.mem_of_getElem? (i := 175) rfl)) (argsL := [(.ref d22), (.int (Int32.ofNat (np + 8 + nb + 1))), (.int (58 : Int32))]) (rest := []) (c_at (ss := []) g W36.old (cs := rs) (i := (np + 8 + nb + 1)) L22 (by omega) (f3 1 (by omega))) at_498 (by decide) (fun _ q => nomatch q) rfl (lenOf pd_32 rfl) (own_le rfl) (own_le rfl) (own_le rfl) (own_le rfl) rfl ?_
            intro T37 h37 v37 W37 z37 q37
            obtain ⟨sf37, X37, _, rfl, rfl, rfl⟩ := q37
            show Fi p e below s Z _ _ _ _ T37 (mkF m 501 #[.val (.int p0), .val (.int p1), .val (.int p2), .val (.int (Int32.ofNat np)), .val (.int a0c), .val (.int a1c), .val (.int (Int32.ofNat nb)), .val (.int b0c), .val (.int b1c), .val (.int (1 : Int32)), .val (.int (Int32.ofNat nm)), .val (.int m0c), .val (.int m1c), .val (.ref a17), .val (.ref a18), .val (.ref a19), .val (.ref d22), .val (.int (1 : Int32)), .val (.int (Int32.ofNat (np + 8))), .val (.int (Int32.ofNat (np + 8 + nb))), .val (.int (Int32.ofNat (np + 8 + nb + 3)))] [(.int (1 : Int32))])
            refine W37.ifN_eq me at_501 (by decide) ?_
            show Fi p e below s Z _ _ _ _ T37 (mkF m 504 #[.val (.int p0), .val (.int p1), .val (.int p2), .val (.int (Int32.ofNat np)), .val (.int a0c), .val (.int a1c), .val (.int (Int32.ofNat nb)), .val (.int b0c), .val (.int b1c), .val (.int (1 : Int32)), .val (.int (Int32.ofNat nm)), .val (.int m0c), .val (.int m1c), .val (.ref a17), .val (.ref a18), .val (.ref a19), .val (.ref d22), .val (.int (1 : Int32)), .val (.int (Int32.ofNat (np + 8))), .val (.int (Int32.ofNat (np + 8 + nb))), .val (.int (Int32.ofNat (np + 8 + nb + 3)))] [])
            refine W37.aload me at_504 rfl rfl ?_
            refine W37.iload me at_506 rfl ?_
            refine W37.iconst me at_508 (v := 2) rfl ?_
            refine W37.iadd me at_509 ?_
            rw [show Int32.ofNat (np + 8 + nb) + (2 : Int32) = Int32.ofNat (np + 8 + nb + 2) from on_add _ _]
            show Fi p e below s Z _ _ _ _ T37 (mkF m 510 #[.val (.int p0), .val (.int p1), .val (.int p2), .val (.int (Int32.ofNat np)), .val (.int a0c), .val (.int a1c), .val (.int (Int32.ofNat nb)), .val (.int b0c), .val (.int b1c), .val (.int (1 : Int32)), .val (.int (Int32.ofNat nm)), .val (.int m0c), .val (.int m1c), .val (.ref a17), .val (.ref a18), .val (.ref a19), .val (.ref d22), .val (.int (1 : Int32)), .val (.int (Int32.ofNat (np + 8))), .val (.int (Int32.ofNat (np + 8 + nb))), .val (.int (Int32.ofNat (np + 8 + nb + 3)))] [(.int (Int32.ofNat (np + 8 + nb + 2))), (.ref d22)])
            refine W37.bipush me at_510 (v := 32) rfl ?_
            show Fi p e below s Z _ _ _ _ T37 (mkF m 512 #[.val (.int p0), .val (.int p1), .val (.int p2), .val (.int (Int32.ofNat np)), .val (.int a0c), .val (.int a1c), .val (.int (Int32.ofNat nb)), .val (.int b0c), .val (.int b1c), .val (.int (1 : Int32)), .val (.int (Int32.ofNat nm)), .val (.int m0c), .val (.int m1c), .val (.ref a17), .val (.ref a18), .val (.ref a19), .val (.ref d22), .val (.int (1 : Int32)), .val (.int (Int32.ofNat (np + 8))), .val (.int (Int32.ofNat (np + 8 + nb))), .val (.int (Int32.ofNat (np + 8 + nb + 3)))] [(.int (32 : Int32)), (.int (Int32.ofNat (np + 8 + nb + 2))), (.ref d22)])
            refine W37.callS me hEL (hw _ (List.mem_of_getElem? (i := 173) rfl)) (hw _ (List.mem_of_getElem? (i := 174) rfl)) (hw _ (List.mem_of_getElem? (i := 2) rfl)) (hw _ (List.mem_of_getElem? (i := 175) rfl)) (argsL := [(.ref d22), (.int (Int32.ofNat (np + 8 + nb + 2))), (.int (32 : Int32))]) (rest := []) (c_at (ss := []) g W37.old (cs := rs) (i := (np + 8 + nb + 2)) L22 (by omega) (f3 2 (by omega))) at_512 (by decide) (fun _ q => nomatch q) rfl (lenOf pd_32 rfl) (own_le rfl) (own_le rfl) (own_le rfl) (own_le rfl) rfl ?_
            intro T38 h38 v38 W38 z38 q38
            obtain ⟨sf38, X38, _, rfl, rfl, rfl⟩ := q38
            show Fi p e below s Z _ _ _ _ T38 (mkF m 515 #[.val (.int p0), .val (.int p1), .val (.int p2), .val (.int (Int32.ofNat np)), .val (.int a0c), .val (.int a1c), .val (.int (Int32.ofNat nb)), .val (.int b0c), .val (.int b1c), .val (.int (1 : Int32)), .val (.int (Int32.ofNat nm)), .val (.int m0c), .val (.int m1c), .val (.ref a17), .val (.ref a18), .val (.ref a19), .val (.ref d22), .val (.int (1 : Int32)), .val (.int (Int32.ofNat (np + 8))), .val (.int (Int32.ofNat (np + 8 + nb))), .val (.int (Int32.ofNat (np + 8 + nb + 3)))] [(.int (1 : Int32))])
            refine W38.ifN_eq me at_515 (by decide) ?_
            show Fi p e below s Z _ _ _ _ T38 (mkF m 518 #[.val (.int p0), .val (.int p1), .val (.int p2), .val (.int (Int32.ofNat np)), .val (.int a0c), .val (.int a1c), .val (.int (Int32.ofNat nb)), .val (.int b0c), .val (.int b1c), .val (.int (1 : Int32)), .val (.int (Int32.ofNat nm)), .val (.int m0c), .val (.int m1c), .val (.ref a17), .val (.ref a18), .val (.ref a19), .val (.ref d22), .val (.int (1 : Int32)), .val (.int (Int32.ofNat (np + 8))), .val (.int (Int32.ofNat (np + 8 + nb))), .val (.int (Int32.ofNat (np + 8 + nb + 3)))] [])
            refine W38.iload me at_518 rfl ?_
            refine W38.iconst me at_520 (v := 1) rfl ?_
            show Fi p e below s Z _ _ _ _ T38 (mkF m 521 #[.val (.int p0), .val (.int p1), .val (.int p2), .val (.int (Int32.ofNat np)), .val (.int a0c), .val (.int a1c), .val (.int (Int32.ofNat nb)), .val (.int b0c), .val (.int b1c), .val (.int (1 : Int32)), .val (.int (Int32.ofNat nm)), .val (.int m0c), .val (.int m1c), .val (.ref a17), .val (.ref a18), .val (.ref a19), .val (.ref d22), .val (.int (1 : Int32)), .val (.int (Int32.ofNat (np + 8))), .val (.int (Int32.ofNat (np + 8 + nb))), .val (.int (Int32.ofNat (np + 8 + nb + 3)))] [(.int (1 : Int32)), (.int (Int32.ofNat nm))])
            have J39 : ∀ (T1 : State), Wk p l e room_1 s m #[(.int p0), (.int p1), (.int p2)] below meth c Z consts_1 kn "com/example/cadi/cadi/OriginSaysPinLaw" T1 h22 [] 28 199 → Fi p e below s Z consts_1 room_1.cells room_1.slots (rV fun v h => v = .int 1) T1 (mkF m 536 #[.val (.int p0), .val (.int p1), .val (.int p2), .val (.int (Int32.ofNat np)), .val (.int a0c), .val (.int a1c), .val (.int (Int32.ofNat nb)), .val (.int b0c), .val (.int b1c), .val (.int (1 : Int32)), .val (.int (Int32.ofNat nm)), .val (.int m0c), .val (.int m1c), .val (.ref a17), .val (.ref a18), .val (.ref a19), .val (.ref d22), .val (.int (1 : Int32)), .val (.int (Int32.ofNat (np + 8))), .val (.int (Int32.ofNat (np + 8 + nb))), .val (.int (Int32.ofNat (np + 8 + nb + 3)))] []) := by
              intro TJ39 WJ39
              refine WJ39.iload me at_536 rfl ?_
              refine WJ39.iconst me at_538 (v := 2) rfl ?_
              show Fi p e below s Z _ _ _ _ TJ39 (mkF m 539 #[.val (.int p0), .val (.int p1), .val (.int p2), .val (.int (Int32.ofNat np)), .val (.int a0c), .val (.int a1c), .val (.int (Int32.ofNat nb)), .val (.int b0c), .val (.int b1c), .val (.int (1 : Int32)), .val (.int (Int32.ofNat nm)), .val (.int m0c), .val (.int m1c), .val (.ref a17), .val (.ref a18), .val (.ref a19), .val (.ref d22), .val (.int (1 : Int32)), .val (.int (Int32.ofNat (np + 8))), .val (.int (Int32.ofNat (np + 8 + nb))), .val (.int (Int32.ofNat (np + 8 + nb + 3)))] [(.int (2 : Int32)), (.int (Int32.ofNat nm))])
              have J40 : ∀ (T1 : State), Wk p l e room_1 s m #[(.int p0), (.int p1), (.int p2)] below meth c Z consts_1 kn "com/example/cadi/cadi/OriginSaysPinLaw" T1 h22 [] 28 199 → Fi p e below s Z consts_1 room_1.cells room_1.slots (rV fun v h => v = .int 1) T1 (mkF m 556 #[.val (.int p0), .val (.int p1), .val (.int p2), .val (.int (Int32.ofNat np)), .val (.int a0c), .val (.int a1c), .val (.int (Int32.ofNat nb)), .val (.int b0c), .val (.int b1c), .val (.int (1 : Int32)), .val (.int (Int32.ofNat nm)), .val (.int m0c), .val (.int m1c), .val (.ref a17), .val (.ref a18), .val (.ref a19), .val (.ref d22), .val (.int (1 : Int32)), .val (.int (Int32.ofNat (np + 8))), .val (.int (Int32.ofNat (np + 8 + nb))), .val (.int (Int32.ofNat (np + 8 + nb + 3)))] []) := by
                intro TJ40 WJ40
                refine WJ40.iconst me at_556 (v := 1) rfl ?_
                refine WJ40.goto me at_557 (pc' := 561) (by decide) (by decide) ?_
                show Fi p e below s Z _ _ _ _ TJ40 (mkF m 561 #[.val (.int p0), .val (.int p1), .val (.int p2), .val (.int (Int32.ofNat np)), .val (.int a0c), .val (.int a1c), .val (.int (Int32.ofNat nb)), .val (.int b0c), .val (.int b1c), .val (.int (1 : Int32)), .val (.int (Int32.ofNat nm)), .val (.int m0c), .val (.int m1c), .val (.ref a17), .val (.ref a18), .val (.ref a19), .val (.ref d22), .val (.int (1 : Int32)), .val (.int (Int32.ofNat (np + 8))), .val (.int (Int32.ofNat (np + 8 + nb))), .val (.int (Int32.ofNat (np + 8 + nb + 3)))] [(.int (1 : Int32))])
                exact WJ40.retN hEL me (Or.inl rfl) at_561 rfl (by decide) (by decide)
              refine WJ39.ic_lt me at_539 (pc' := 556) (by decide) (by decide) (fun hf => ?_) (fun hf => ?_)
              ·
                show Fi p e below s Z _ _ _ _ TJ39 (mkF m 556 #[.val (.int p0), .val (.int p1), .val (.int p2), .val (.int (Int32.ofNat np)), .val (.int a0c), .val (.int a1c), .val (.int (Int32.ofNat nb)), .val (.int b0c), .val (.int b1c), .val (.int (1 : Int32)), .val (.int (Int32.ofNat nm)), .val (.int m0c), .val (.int m1c), .val (.ref a17), .val (.ref a18), .val (.ref a19), .val (.ref d22), .val (.int (1 : Int32)), .val (.int (Int32.ofNat (np + 8))), .val (.int (Int32.ofNat (np + 8 + nb))), .val (.int (Int32.ofNat (np + 8 + nb + 3)))] [])
                exact J40 _ ((WJ39.less (ss' := []) (fun _ q => nomatch q)).more (own_le rfl) (own_le rfl))
              ·
                show Fi p e below s Z _ _ _ _ TJ39 (mkF m 542 #[.val (.int p0), .val (.int p1), .val (.int p2), .val (.int (Int32.ofNat np)), .val (.int a0c), .val (.int a1c), .val (.int (Int32.ofNat nb)), .val (.int b0c), .val (.int b1c), .val (.int (1 : Int32)), .val (.int (Int32.ofNat nm)), .val (.int m0c), .val (.int m1c), .val (.ref a17), .val (.ref a18), .val (.ref a19), .val (.ref d22), .val (.int (1 : Int32)), .val (.int (Int32.ofNat (np + 8))), .val (.int (Int32.ofNat (np + 8 + nb))), .val (.int (Int32.ofNat (np + 8 + nb + 3)))] [])
                have hge := own_ge2 (by omega) hf
                refine WJ39.aload me at_542 rfl rfl ?_
                refine WJ39.iload me at_544 rfl ?_
                refine WJ39.iconst me at_546 (v := 1) rfl ?_
                refine WJ39.iadd me at_547 ?_
                rw [show Int32.ofNat (np + 8 + nb + 3) + (1 : Int32) = Int32.ofNat (np + 8 + nb + 3 + 1) from on_add _ _]
                show Fi p e below s Z _ _ _ _ TJ39 (mkF m 548 #[.val (.int p0), .val (.int p1), .val (.int p2), .val (.int (Int32.ofNat np)), .val (.int a0c), .val (.int a1c), .val (.int (Int32.ofNat nb)), .val (.int b0c), .val (.int b1c), .val (.int (1 : Int32)), .val (.int (Int32.ofNat nm)), .val (.int m0c), .val (.int m1c), .val (.ref a17), .val (.ref a18), .val (.ref a19), .val (.ref d22), .val (.int (1 : Int32)), .val (.int (Int32.ofNat (np + 8))), .val (.int (Int32.ofNat (np + 8 + nb))), .val (.int (Int32.ofNat (np + 8 + nb + 3)))] [(.int (Int32.ofNat (np + 8 + nb + 3 + 1))), (.ref d22)])
                refine WJ39.iload me at_548 rfl ?_
                show Fi p e below s Z _ _ _ _ TJ39 (mkF m 550 #[.val (.int p0), .val (.int p1), .val (.int p2), .val (.int (Int32.ofNat np)), .val (.int a0c), .val (.int a1c), .val (.int (Int32.ofNat nb)), .val (.int b0c), .val (.int b1c), .val (.int (1 : Int32)), .val (.int (Int32.ofNat nm)), .val (.int m0c), .val (.int m1c), .val (.ref a17), .val (.ref a18), .val (.ref a19), .val (.ref d22), .val (.int (1 : Int32)), .val (.int (Int32.ofNat (np + 8))), .val (.int (Int32.ofNat (np + 8 + nb))), .val (.int (Int32.ofNat (np + 8 + nb + 3)))] [(.int m1c), (.int (Int32.ofNat (np + 8 + nb + 3 + 1))), (.ref d22)])
                refine WJ39.callS me hEL (hw _ (List.mem_of_getElem? (i := 173) rfl)) (hw _ (List.mem_of_getElem? (i := 174) rfl)) (hw _ (List.mem_of_getElem? (i := 2) rfl)) (hw _ (List.mem_of_getElem? (i := 175) rfl)) (argsL := [(.ref d22), (.int (Int32.ofNat (np + 8 + nb + 3 + 1))), (.int m1c)]) (rest := []) (c_at (ss := []) g WJ39.old (cs := rs) (i := (np + 8 + nb + 3 + 1)) L22 (by omega) ((f4 1 (by omega)).trans (own_sub1 hge))) at_550 (by decide) (fun _ q => nomatch q) rfl (lenOf pd_32 rfl) (own_le rfl) (own_le rfl) (own_le rfl) (own_le rfl) rfl ?_
                intro T41 h41 v41 W41 z41 q41
                obtain ⟨sf41, X41, _, rfl, rfl, rfl⟩ := q41
                show Fi p e below s Z _ _ _ _ T41 (mkF m 553 #[.val (.int p0), .val (.int p1), .val (.int p2), .val (.int (Int32.ofNat np)), .val (.int a0c), .val (.int a1c), .val (.int (Int32.ofNat nb)), .val (.int b0c), .val (.int b1c), .val (.int (1 : Int32)), .val (.int (Int32.ofNat nm)), .val (.int m0c), .val (.int m1c), .val (.ref a17), .val (.ref a18), .val (.ref a19), .val (.ref d22), .val (.int (1 : Int32)), .val (.int (Int32.ofNat (np + 8))), .val (.int (Int32.ofNat (np + 8 + nb))), .val (.int (Int32.ofNat (np + 8 + nb + 3)))] [(.int (1 : Int32))])
                refine W41.ifN_eq me at_553 (by decide) ?_
                show Fi p e below s Z _ _ _ _ T41 (mkF m 556 #[.val (.int p0), .val (.int p1), .val (.int p2), .val (.int (Int32.ofNat np)), .val (.int a0c), .val (.int a1c), .val (.int (Int32.ofNat nb)), .val (.int b0c), .val (.int b1c), .val (.int (1 : Int32)), .val (.int (Int32.ofNat nm)), .val (.int m0c), .val (.int m1c), .val (.ref a17), .val (.ref a18), .val (.ref a19), .val (.ref d22), .val (.int (1 : Int32)), .val (.int (Int32.ofNat (np + 8))), .val (.int (Int32.ofNat (np + 8 + nb))), .val (.int (Int32.ofNat (np + 8 + nb + 3)))] [])
                exact J40 _ ((W41.less (ss' := []) (fun _ q => nomatch q)).more (own_le rfl) (own_le rfl))
            refine W38.ic_lt me at_521 (pc' := 536) (by decide) (by decide) (fun hf => ?_) (fun hf => ?_)
            ·
              show Fi p e below s Z _ _ _ _ T38 (mkF m 536 #[.val (.int p0), .val (.int p1), .val (.int p2), .val (.int (Int32.ofNat np)), .val (.int a0c), .val (.int a1c), .val (.int (Int32.ofNat nb)), .val (.int b0c), .val (.int b1c), .val (.int (1 : Int32)), .val (.int (Int32.ofNat nm)), .val (.int m0c), .val (.int m1c), .val (.ref a17), .val (.ref a18), .val (.ref a19), .val (.ref d22), .val (.int (1 : Int32)), .val (.int (Int32.ofNat (np + 8))), .val (.int (Int32.ofNat (np + 8 + nb))), .val (.int (Int32.ofNat (np + 8 + nb + 3)))] [])
              exact J39 _ ((W38.less (ss' := []) (fun _ q => nomatch q)).more (own_le rfl) (own_le rfl))
            ·
              show Fi p e below s Z _ _ _ _ T38 (mkF m 524 #[.val (.int p0), .val (.int p1), .val (.int p2), .val (.int (Int32.ofNat np)), .val (.int a0c), .val (.int a1c), .val (.int (Int32.ofNat nb)), .val (.int b0c), .val (.int b1c), .val (.int (1 : Int32)), .val (.int (Int32.ofNat nm)), .val (.int m0c), .val (.int m1c), .val (.ref a17), .val (.ref a18), .val (.ref a19), .val (.ref d22), .val (.int (1 : Int32)), .val (.int (Int32.ofNat (np + 8))), .val (.int (Int32.ofNat (np + 8 + nb))), .val (.int (Int32.ofNat (np + 8 + nb + 3)))] [])
              have hge := own_ge1 (by omega) hf
              refine W38.aload me at_524 rfl rfl ?_
              refine W38.iload me at_526 rfl ?_
              refine W38.iload me at_528 rfl ?_
              show Fi p e below s Z _ _ _ _ T38 (mkF m 530 #[.val (.int p0), .val (.int p1), .val (.int p2), .val (.int (Int32.ofNat np)), .val (.int a0c), .val (.int a1c), .val (.int (Int32.ofNat nb)), .val (.int b0c), .val (.int b1c), .val (.int (1 : Int32)), .val (.int (Int32.ofNat nm)), .val (.int m0c), .val (.int m1c), .val (.ref a17), .val (.ref a18), .val (.ref a19), .val (.ref d22), .val (.int (1 : Int32)), .val (.int (Int32.ofNat (np + 8))), .val (.int (Int32.ofNat (np + 8 + nb))), .val (.int (Int32.ofNat (np + 8 + nb + 3)))] [(.int m0c), (.int (Int32.ofNat (np + 8 + nb + 3))), (.ref d22)])
              refine W38.callS me hEL (hw _ (List.mem_of_getElem? (i := 173) rfl)) (hw _ (List.mem_of_getElem? (i := 174) rfl)) (hw _ (List.mem_of_getElem? (i := 2) rfl)) (hw _ (List.mem_of_getElem? (i := 175) rfl)) (argsL := [(.ref d22), (.int (Int32.ofNat (np + 8 + nb + 3))), (.int m0c)]) (rest := []) (c_at (ss := []) g W38.old (cs := rs) (i := (np + 8 + nb + 3)) L22 (by omega) ((f4 0 (by omega)).trans (own_sub0 hge))) at_530 (by decide) (fun _ q => nomatch q) rfl (lenOf pd_32 rfl) (own_le rfl) (own_le rfl) (own_le rfl) (own_le rfl) rfl ?_
              intro T42 h42 v42 W42 z42 q42
              obtain ⟨sf42, X42, _, rfl, rfl, rfl⟩ := q42
              show Fi p e below s Z _ _ _ _ T42 (mkF m 533 #[.val (.int p0), .val (.int p1), .val (.int p2), .val (.int (Int32.ofNat np)), .val (.int a0c), .val (.int a1c), .val (.int (Int32.ofNat nb)), .val (.int b0c), .val (.int b1c), .val (.int (1 : Int32)), .val (.int (Int32.ofNat nm)), .val (.int m0c), .val (.int m1c), .val (.ref a17), .val (.ref a18), .val (.ref a19), .val (.ref d22), .val (.int (1 : Int32)), .val (.int (Int32.ofNat (np + 8))), .val (.int (Int32.ofNat (np + 8 + nb))), .val (.int (Int32.ofNat (np + 8 + nb + 3)))] [(.int (1 : Int32))])
              refine W42.ifN_eq me at_533 (by decide) ?_
              show Fi p e below s Z _ _ _ _ T42 (mkF m 536 #[.val (.int p0), .val (.int p1), .val (.int p2), .val (.int (Int32.ofNat np)), .val (.int a0c), .val (.int a1c), .val (.int (Int32.ofNat nb)), .val (.int b0c), .val (.int b1c), .val (.int (1 : Int32)), .val (.int (Int32.ofNat nm)), .val (.int m0c), .val (.int m1c), .val (.ref a17), .val (.ref a18), .val (.ref a19), .val (.ref d22), .val (.int (1 : Int32)), .val (.int (Int32.ofNat (np + 8))), .val (.int (Int32.ofNat (np + 8 + nb))), .val (.int (Int32.ofNat (np + 8 + nb + 3)))] [])
              exact J39 _ ((W42.less (ss' := []) (fun _ q => nomatch q)).more (own_le rfl) (own_le rfl))
          refine WJ34.ic_lt me at_461 (pc' := 478) (by decide) (by decide) (fun hf => ?_) (fun hf => ?_)
          ·
            show Fi p e below s Z _ _ _ _ TJ34 (mkF m 478 #[.val (.int p0), .val (.int p1), .val (.int p2), .val (.int (Int32.ofNat np)), .val (.int a0c), .val (.int a1c), .val (.int (Int32.ofNat nb)), .val (.int b0c), .val (.int b1c), .val (.int (1 : Int32)), .val (.int (Int32.ofNat nm)), .val (.int m0c), .val (.int m1c), .val (.ref a17), .val (.ref a18), .val (.ref a19), .val (.ref d22), .val (.int (1 : Int32)), .val (.int (Int32.ofNat (np + 8))), .val (.int (Int32.ofNat (np + 8 + nb))), .val (.int (Int32.ofNat (np + 8 + nb + 3)))] [])
            exact J35 _ ((WJ34.less (ss' := []) (fun _ q => nomatch q)).more (own_le rfl) (own_le rfl))
          ·
            show Fi p e below s Z _ _ _ _ TJ34 (mkF m 464 #[.val (.int p0), .val (.int p1), .val (.int p2), .val (.int (Int32.ofNat np)), .val (.int a0c), .val (.int a1c), .val (.int (Int32.ofNat nb)), .val (.int b0c), .val (.int b1c), .val (.int (1 : Int32)), .val (.int (Int32.ofNat nm)), .val (.int m0c), .val (.int m1c), .val (.ref a17), .val (.ref a18), .val (.ref a19), .val (.ref d22), .val (.int (1 : Int32)), .val (.int (Int32.ofNat (np + 8))), .val (.int (Int32.ofNat (np + 8 + nb))), .val (.int (Int32.ofNat (np + 8 + nb + 3)))] [])
            have hge := own_ge2 (by omega) hf
            refine WJ34.aload me at_464 rfl rfl ?_
            refine WJ34.iload me at_466 rfl ?_
            refine WJ34.iconst me at_468 (v := 1) rfl ?_
            refine WJ34.iadd me at_469 ?_
            rw [show Int32.ofNat (np + 8) + (1 : Int32) = Int32.ofNat (np + 8 + 1) from on_add _ _]
            show Fi p e below s Z _ _ _ _ TJ34 (mkF m 470 #[.val (.int p0), .val (.int p1), .val (.int p2), .val (.int (Int32.ofNat np)), .val (.int a0c), .val (.int a1c), .val (.int (Int32.ofNat nb)), .val (.int b0c), .val (.int b1c), .val (.int (1 : Int32)), .val (.int (Int32.ofNat nm)), .val (.int m0c), .val (.int m1c), .val (.ref a17), .val (.ref a18), .val (.ref a19), .val (.ref d22), .val (.int (1 : Int32)), .val (.int (Int32.ofNat (np + 8))), .val (.int (Int32.ofNat (np + 8 + nb))), .val (.int (Int32.ofNat (np + 8 + nb + 3)))] [(.int (Int32.ofNat (np + 8 + 1))), (.ref d22)])
            refine WJ34.iload me at_470 rfl ?_
            show Fi p e below s Z _ _ _ _ TJ34 (mkF m 472 #[.val (.int p0), .val (.int p1), .val (.int p2), .val (.int (Int32.ofNat np)), .val (.int a0c), .val (.int a1c), .val (.int (Int32.ofNat nb)), .val (.int b0c), .val (.int b1c), .val (.int (1 : Int32)), .val (.int (Int32.ofNat nm)), .val (.int m0c), .val (.int m1c), .val (.ref a17), .val (.ref a18), .val (.ref a19), .val (.ref d22), .val (.int (1 : Int32)), .val (.int (Int32.ofNat (np + 8))), .val (.int (Int32.ofNat (np + 8 + nb))), .val (.int (Int32.ofNat (np + 8 + nb + 3)))] [(.int b1c), (.int (Int32.ofNat (np + 8 + 1))), (.ref d22)])
            refine WJ34.callS me hEL (hw _ (List.mem_of_getElem? (i := 173) rfl)) (hw _ (List.mem_of_getElem? (i := 174) rfl)) (hw _ (List.mem_of_getElem? (i := 2) rfl)) (hw _ (List.mem_of_getElem? (i := 175) rfl)) (argsL := [(.ref d22), (.int (Int32.ofNat (np + 8 + 1))), (.int b1c)]) (rest := []) (c_at (ss := []) g WJ34.old (cs := rs) (i := (np + 8 + 1)) L22 (by omega) ((f2 1 (by omega)).trans (own_sub1 hge))) at_472 (by decide) (fun _ q => nomatch q) rfl (lenOf pd_32 rfl) (own_le rfl) (own_le rfl) (own_le rfl) (own_le rfl) rfl ?_
            intro T43 h43 v43 W43 z43 q43
            obtain ⟨sf43, X43, _, rfl, rfl, rfl⟩ := q43
            show Fi p e below s Z _ _ _ _ T43 (mkF m 475 #[.val (.int p0), .val (.int p1), .val (.int p2), .val (.int (Int32.ofNat np)), .val (.int a0c), .val (.int a1c), .val (.int (Int32.ofNat nb)), .val (.int b0c), .val (.int b1c), .val (.int (1 : Int32)), .val (.int (Int32.ofNat nm)), .val (.int m0c), .val (.int m1c), .val (.ref a17), .val (.ref a18), .val (.ref a19), .val (.ref d22), .val (.int (1 : Int32)), .val (.int (Int32.ofNat (np + 8))), .val (.int (Int32.ofNat (np + 8 + nb))), .val (.int (Int32.ofNat (np + 8 + nb + 3)))] [(.int (1 : Int32))])
            refine W43.ifN_eq me at_475 (by decide) ?_
            show Fi p e below s Z _ _ _ _ T43 (mkF m 478 #[.val (.int p0), .val (.int p1), .val (.int p2), .val (.int (Int32.ofNat np)), .val (.int a0c), .val (.int a1c), .val (.int (Int32.ofNat nb)), .val (.int b0c), .val (.int b1c), .val (.int (1 : Int32)), .val (.int (Int32.ofNat nm)), .val (.int m0c), .val (.int m1c), .val (.ref a17), .val (.ref a18), .val (.ref a19), .val (.ref d22), .val (.int (1 : Int32)), .val (.int (Int32.ofNat (np + 8))), .val (.int (Int32.ofNat (np + 8 + nb))), .val (.int (Int32.ofNat (np + 8 + nb + 3)))] [])
            exact J35 _ ((W43.less (ss' := []) (fun _ q => nomatch q)).more (own_le rfl) (own_le rfl))
        refine W33.ic_lt me at_443 (pc' := 458) (by decide) (by decide) (fun hf => ?_) (fun hf => ?_)
        ·
          show Fi p e below s Z _ _ _ _ T33 (mkF m 458 #[.val (.int p0), .val (.int p1), .val (.int p2), .val (.int (Int32.ofNat np)), .val (.int a0c), .val (.int a1c), .val (.int (Int32.ofNat nb)), .val (.int b0c), .val (.int b1c), .val (.int (1 : Int32)), .val (.int (Int32.ofNat nm)), .val (.int m0c), .val (.int m1c), .val (.ref a17), .val (.ref a18), .val (.ref a19), .val (.ref d22), .val (.int (1 : Int32)), .val (.int (Int32.ofNat (np + 8))), .val (.int (Int32.ofNat (np + 8 + nb))), .val (.int (Int32.ofNat (np + 8 + nb + 3)))] [])
          exact J34 _ ((W33.less (ss' := []) (fun _ q => nomatch q)).more (own_le rfl) (own_le rfl))
        ·
          show Fi p e below s Z _ _ _ _ T33 (mkF m 446 #[.val (.int p0), .val (.int p1), .val (.int p2), .val (.int (Int32.ofNat np)), .val (.int a0c), .val (.int a1c), .val (.int (Int32.ofNat nb)), .val (.int b0c), .val (.int b1c), .val (.int (1 : Int32)), .val (.int (Int32.ofNat nm)), .val (.int m0c), .val (.int m1c), .val (.ref a17), .val (.ref a18), .val (.ref a19), .val (.ref d22), .val (.int (1 : Int32)), .val (.int (Int32.ofNat (np + 8))), .val (.int (Int32.ofNat (np + 8 + nb))), .val (.int (Int32.ofNat (np + 8 + nb + 3)))] [])
          have hge := own_ge1 (by omega) hf
          refine W33.aload me at_446 rfl rfl ?_
          refine W33.iload me at_448 rfl ?_
          refine W33.iload me at_450 rfl ?_
          show Fi p e below s Z _ _ _ _ T33 (mkF m 452 #[.val (.int p0), .val (.int p1), .val (.int p2), .val (.int (Int32.ofNat np)), .val (.int a0c), .val (.int a1c), .val (.int (Int32.ofNat nb)), .val (.int b0c), .val (.int b1c), .val (.int (1 : Int32)), .val (.int (Int32.ofNat nm)), .val (.int m0c), .val (.int m1c), .val (.ref a17), .val (.ref a18), .val (.ref a19), .val (.ref d22), .val (.int (1 : Int32)), .val (.int (Int32.ofNat (np + 8))), .val (.int (Int32.ofNat (np + 8 + nb))), .val (.int (Int32.ofNat (np + 8 + nb + 3)))] [(.int b0c), (.int (Int32.ofNat (np + 8))), (.ref d22)])
          refine W33.callS me hEL (hw _ (List.mem_of_getElem? (i := 173) rfl)) (hw _ (List.mem_of_getElem? (i := 174) rfl)) (hw _ (List.mem_of_getElem? (i := 2) rfl)) (hw _ (List.mem_of_getElem? (i := 175) rfl)) (argsL := [(.ref d22), (.int (Int32.ofNat (np + 8))), (.int b0c)]) (rest := []) (c_at (ss := []) g W33.old (cs := rs) (i := (np + 8)) L22 (by omega) ((f2 0 (by omega)).trans (own_sub0 hge))) at_452 (by decide) (fun _ q => nomatch q) rfl (lenOf pd_32 rfl) (own_le rfl) (own_le rfl) (own_le rfl) (own_le rfl) rfl ?_
          intro T44 h44 v44 W44 z44 q44
          obtain ⟨sf44, X44, _, rfl, rfl, rfl⟩ := q44
          show Fi p e below s Z _ _ _ _ T44 (mkF m 455 #[.val (.int p0), .val (.int p1), .val (.int p2), .val (.int (Int32.ofNat np)), .val (.int a0c), .val (.int a1c), .val (.int (Int32.ofNat nb)), .val (.int b0c), .val (.int b1c), .val (.int (1 : Int32)), .val (.int (Int32.ofNat nm)), .val (.int m0c), .val (.int m1c), .val (.ref a17), .val (.ref a18), .val (.ref a19), .val (.ref d22), .val (.int (1 : Int32)), .val (.int (Int32.ofNat (np + 8))), .val (.int (Int32.ofNat (np + 8 + nb))), .val (.int (Int32.ofNat (np + 8 + nb + 3)))] [(.int (1 : Int32))])
          refine W44.ifN_eq me at_455 (by decide) ?_
          show Fi p e below s Z _ _ _ _ T44 (mkF m 458 #[.val (.int p0), .val (.int p1), .val (.int p2), .val (.int (Int32.ofNat np)), .val (.int a0c), .val (.int a1c), .val (.int (Int32.ofNat nb)), .val (.int b0c), .val (.int b1c), .val (.int (1 : Int32)), .val (.int (Int32.ofNat nm)), .val (.int m0c), .val (.int m1c), .val (.ref a17), .val (.ref a18), .val (.ref a19), .val (.ref d22), .val (.int (1 : Int32)), .val (.int (Int32.ofNat (np + 8))), .val (.int (Int32.ofNat (np + 8 + nb))), .val (.int (Int32.ofNat (np + 8 + nb + 3)))] [])
          exact J34 _ ((W44.less (ss' := []) (fun _ q => nomatch q)).more (own_le rfl) (own_le rfl))
      refine WJ23.ic_lt me at_186 (pc' := 200) (by decide) (by decide) (fun hf => ?_) (fun hf => ?_)
      ·
        show Fi p e below s Z _ _ _ _ TJ23 (mkF m 200 #[.val (.int p0), .val (.int p1), .val (.int p2), .val (.int (Int32.ofNat np)), .val (.int a0c), .val (.int a1c), .val (.int (Int32.ofNat nb)), .val (.int b0c), .val (.int b1c), .val (.int (1 : Int32)), .val (.int (Int32.ofNat nm)), .val (.int m0c), .val (.int m1c), .val (.ref a17), .val (.ref a18), .val (.ref a19), .val (.ref d22), .unset, .unset, .unset, .unset] [])
        exact J24 _ ((WJ23.less (ss' := []) (fun _ q => nomatch q)).more (own_le rfl) (own_le rfl))
      ·
        show Fi p e below s Z _ _ _ _ TJ23 (mkF m 189 #[.val (.int p0), .val (.int p1), .val (.int p2), .val (.int (Int32.ofNat np)), .val (.int a0c), .val (.int a1c), .val (.int (Int32.ofNat nb)), .val (.int b0c), .val (.int b1c), .val (.int (1 : Int32)), .val (.int (Int32.ofNat nm)), .val (.int m0c), .val (.int m1c), .val (.ref a17), .val (.ref a18), .val (.ref a19), .val (.ref d22), .unset, .unset, .unset, .unset] [])
        have hge := own_ge2 (by omega) hf
        refine WJ23.aload me at_189 rfl rfl ?_
        refine WJ23.iconst me at_191 (v := 1) rfl ?_
        refine WJ23.iload me at_192 rfl ?_
        show Fi p e below s Z _ _ _ _ TJ23 (mkF m 194 #[.val (.int p0), .val (.int p1), .val (.int p2), .val (.int (Int32.ofNat np)), .val (.int a0c), .val (.int a1c), .val (.int (Int32.ofNat nb)), .val (.int b0c), .val (.int b1c), .val (.int (1 : Int32)), .val (.int (Int32.ofNat nm)), .val (.int m0c), .val (.int m1c), .val (.ref a17), .val (.ref a18), .val (.ref a19), .val (.ref d22), .unset, .unset, .unset, .unset] [(.int a1c), (.int (1 : Int32)), (.ref d22)])
        refine WJ23.callS me hEL (hw _ (List.mem_of_getElem? (i := 173) rfl)) (hw _ (List.mem_of_getElem? (i := 174) rfl)) (hw _ (List.mem_of_getElem? (i := 2) rfl)) (hw _ (List.mem_of_getElem? (i := 175) rfl)) (argsL := [(.ref d22), (.int (1 : Int32)), (.int a1c)]) (rest := []) (c_at (ss := []) g WJ23.old (cs := rs) (i := 1) L22 (by omega) ((f0 1 (by omega)).trans (own_sub1 hge))) at_194 (by decide) (fun _ q => nomatch q) rfl (lenOf pd_32 rfl) (own_le rfl) (own_le rfl) (own_le rfl) (own_le rfl) rfl ?_
        intro T45 h45 v45 W45 z45 q45
        obtain ⟨sf45, X45, _, rfl, rfl, rfl⟩ := q45
        show Fi p e below s Z _ _ _ _ T45 (mkF m 197 #[.val (.int p0), .val (.int p1), .val (.int p2), .val (.int (Int32.ofNat np)), .val (.int a0c), .val (.int a1c), .val (.int (Int32.ofNat nb)), .val (.int b0c), .val (.int b1c), .val (.int (1 : Int32)), .val (.int (Int32.ofNat nm)), .val (.int m0c), .val (.int m1c), .val (.ref a17), .val (.ref a18), .val (.ref a19), .val (.ref d22), .unset, .unset, .unset, .unset] [(.int (1 : Int32))])
        refine W45.ifN_eq me at_197 (by decide) ?_
        show Fi p e below s Z _ _ _ _ T45 (mkF m 200 #[.val (.int p0), .val (.int p1), .val (.int p2), .val (.int (Int32.ofNat np)), .val (.int a0c), .val (.int a1c), .val (.int (Int32.ofNat nb)), .val (.int b0c), .val (.int b1c), .val (.int (1 : Int32)), .val (.int (Int32.ofNat nm)), .val (.int m0c), .val (.int m1c), .val (.ref a17), .val (.ref a18), .val (.ref a19), .val (.ref d22), .unset, .unset, .unset, .unset] [])
        exact J24 _ ((W45.less (ss' := []) (fun _ q => nomatch q)).more (own_le rfl) (own_le rfl))
    refine W22.ic_lt me at_170 (pc' := 184) (by decide) (by decide) (fun hf => ?_) (fun hf => ?_)
    ·
      show Fi p e below s Z _ _ _ _ T22 (mkF m 184 #[.val (.int p0), .val (.int p1), .val (.int p2), .val (.int (Int32.ofNat np)), .val (.int a0c), .val (.int a1c), .val (.int (Int32.ofNat nb)), .val (.int b0c), .val (.int b1c), .val (.int (1 : Int32)), .val (.int (Int32.ofNat nm)), .val (.int m0c), .val (.int m1c), .val (.ref a17), .val (.ref a18), .val (.ref a19), .val (.ref d22), .unset, .unset, .unset, .unset] [])
      exact J23 _ ((W22.less (ss' := []) (fun _ q => nomatch q)).more (own_le rfl) (own_le rfl))
    ·
      show Fi p e below s Z _ _ _ _ T22 (mkF m 173 #[.val (.int p0), .val (.int p1), .val (.int p2), .val (.int (Int32.ofNat np)), .val (.int a0c), .val (.int a1c), .val (.int (Int32.ofNat nb)), .val (.int b0c), .val (.int b1c), .val (.int (1 : Int32)), .val (.int (Int32.ofNat nm)), .val (.int m0c), .val (.int m1c), .val (.ref a17), .val (.ref a18), .val (.ref a19), .val (.ref d22), .unset, .unset, .unset, .unset] [])
      have hge := own_ge1 (by omega) hf
      refine W22.aload me at_173 rfl rfl ?_
      refine W22.iconst me at_175 (v := 0) rfl ?_
      refine W22.iload me at_176 rfl ?_
      show Fi p e below s Z _ _ _ _ T22 (mkF m 178 #[.val (.int p0), .val (.int p1), .val (.int p2), .val (.int (Int32.ofNat np)), .val (.int a0c), .val (.int a1c), .val (.int (Int32.ofNat nb)), .val (.int b0c), .val (.int b1c), .val (.int (1 : Int32)), .val (.int (Int32.ofNat nm)), .val (.int m0c), .val (.int m1c), .val (.ref a17), .val (.ref a18), .val (.ref a19), .val (.ref d22), .unset, .unset, .unset, .unset] [(.int a0c), (.int (0 : Int32)), (.ref d22)])
      refine W22.callS me hEL (hw _ (List.mem_of_getElem? (i := 173) rfl)) (hw _ (List.mem_of_getElem? (i := 174) rfl)) (hw _ (List.mem_of_getElem? (i := 2) rfl)) (hw _ (List.mem_of_getElem? (i := 175) rfl)) (argsL := [(.ref d22), (.int (0 : Int32)), (.int a0c)]) (rest := []) (c_at (ss := []) g W22.old (cs := rs) (i := 0) L22 (by omega) ((f0 0 (by omega)).trans (own_sub0 hge))) at_178 (by decide) (fun _ q => nomatch q) rfl (lenOf pd_32 rfl) (own_le rfl) (own_le rfl) (own_le rfl) (own_le rfl) rfl ?_
      intro T46 h46 v46 W46 z46 q46
      obtain ⟨sf46, X46, _, rfl, rfl, rfl⟩ := q46
      show Fi p e below s Z _ _ _ _ T46 (mkF m 181 #[.val (.int p0), .val (.int p1), .val (.int p2), .val (.int (Int32.ofNat np)), .val (.int a0c), .val (.int a1c), .val (.int (Int32.ofNat nb)), .val (.int b0c), .val (.int b1c), .val (.int (1 : Int32)), .val (.int (Int32.ofNat nm)), .val (.int m0c), .val (.int m1c), .val (.ref a17), .val (.ref a18), .val (.ref a19), .val (.ref d22), .unset, .unset, .unset, .unset] [(.int (1 : Int32))])
      refine W46.ifN_eq me at_181 (by decide) ?_
      show Fi p e below s Z _ _ _ _ T46 (mkF m 184 #[.val (.int p0), .val (.int p1), .val (.int p2), .val (.int (Int32.ofNat np)), .val (.int a0c), .val (.int a1c), .val (.int (Int32.ofNat nb)), .val (.int b0c), .val (.int b1c), .val (.int (1 : Int32)), .val (.int (Int32.ofNat nm)), .val (.int m0c), .val (.int m1c), .val (.ref a17), .val (.ref a18), .val (.ref a19), .val (.ref d22), .unset, .unset, .unset, .unset] [])
      exact J23 _ ((W46.less (ss' := []) (fun _ q => nomatch q)).more (own_le rfl) (own_le rfl))
set_option maxRecDepth 65536 in
set_option maxHeartbeats 40000000 in
theorem comes_1 {Post : Tables → Env → Array Value → State → Outcome → State → Prop} (hpost : ∀ tb e args s v u, (limb_1_1.after args s (.returned v) u = true ∧ limb_1_2.after args s (.returned v) u = true ∧ True) → ReturnedEndW s (.returned v) u (Jvm.fieldLocs frame_1_writes args s ++ Jvm.arrayLocs frame_1_arrays args s ++ Jvm.staticLocs frame_1_statics s) 48 4416 → Post tb e args s (.returned v) u) :
    ArmFor flags0 classFile x code maxLocals ret World_1 tables_1 room_1 Calls_1 rest_1 Pre_1 Post := by
  intro l hfl _ _ p e ha hc hk s m args below hf hA hF happ hP
  obtain ⟨hcalls, hrest, hpre⟩ := hP
  obtain ⟨hc1, -⟩ := hcalls
  obtain ⟨-, -, -, hnamed, -, -, -, hat⟩ := (Spec.applies_iff hf).mp happ
  obtain ⟨hg, hn⟩ := and_e (Cond.before_iff.mp (show (Jvm.Cond.and given_1 narrow_1).before args s = true from hpre))
  obtain ⟨h1, r0⟩ := and_e hg
  obtain ⟨y0, r1⟩ := and_e r0
  obtain ⟨y1, r2⟩ := and_e r1
  obtain ⟨w0, w1, w2, rfl⟩ : ∃ w0 w1 w2 : Value, args = #[w0, w1, w2] := by
    have hs : args.size = 3 := by simpa [Cond.value, given_1] using h1
    obtain ⟨L⟩ := args
    match L, hs with
    | [w0, w1, w2], _ => exact ⟨w0, w1, w2, rfl⟩
  have hw := fun d (hd : d ∈ tables_1) => atoms_spec (ws := Jvm.Cond.code x code maxLocals ret :: tables_1) hat d (List.mem_cons_of_mem _ hd)
  obtain ⟨hsets, hown0⟩ := atoms_of _ (rest_1_c_eq ▸ (show rest_1_c.before _ s = true from hrest))
  obtain ⟨i0, e0⟩ := is_v y0
  obtain rfl : w0 = (.int i0) := Option.some.inj e0
  obtain ⟨i1, e1⟩ := is_v y1
  obtain rfl : w1 = (.int i1) := Option.some.inj e1
  obtain ⟨i2, e2⟩ := is_v r2
  obtain rfl : w2 = (.int i2) := Option.some.inj e2
  obtain ⟨G, eG⟩ := is_v (Cond.before_iff.mp (hsets _ (List.mem_of_getElem? (i := 1) rfl)))
  have nG := not_v (Cond.before_iff.mp (hsets _ (List.mem_of_getElem? (i := 2) rfl)))
  have SG : Sta s s.heap "java/lang/String" "COMPACT_STRINGS" "Z" (.int G) := Sta.start eG (Or.inl (hsets _ (List.mem_of_getElem? (i := 0) rfl)))
  have cG : ¬ (G = (0 : Int32)) := gotF (Cond.eq_ints eG (Term.int_eval (0))) nG
  obtain ⟨GF, eF, rF⟩ := isR_v (Cond.before_iff.mp (hsets _ (List.mem_of_getElem? (i := 8) rfl)))
  have SF := Sta.start eF (Or.inl (hsets _ (List.mem_of_getElem? (i := 7) rfl)))
  have hEL : EW s _ consts_1 := (EW.cons (hw _ (List.mem_of_getElem? (i := 125) rfl)) (by decide) (EW.cons (hw _ (List.mem_of_getElem? (i := 208) rfl)) (by decide) (EW.cons (hw _ (List.mem_of_getElem? (i := 209) rfl)) (by decide) (EW.cons (hw _ (List.mem_of_getElem? (i := 18) rfl)) (by decide) EW.nil))))
  have hcw : Jvm.Lit.compactW.before _ s = true := hsets _ (List.mem_of_getElem? (i := 2) rfl)
  have hCH : CHv s consts_1 s.vm s.heap := CHv.start hEL (fun q hq => hc1 q hq) hcw (hw _ (List.mem_of_getElem? (i := 19) rfl)) (hw _ (List.mem_of_getElem? (i := 5) rfl))
  have g : Gl s _ := ⟨hw, hEL, ⟨G, SG, cG⟩, ⟨GF, SF, rF⟩, trivial⟩
  obtain ⟨n, o, h1, h2, h3, v, L, rfl, ⟨⟨_, rfl, rfl⟩, N, -⟩, -, hq⟩ := c_law (l := l) (ws := tables_1) (kn := false) (ss := []) g (Old.start s) i0 i1 i2 p e ha hc hk s m _ below hf ((Spec.applies_iff_loose hf).mp happ).1 ⟨rfl, State.Warmed39.refl s, rfl, hCH, fun _ q => nomatch q⟩ (fun q => nomatch q)
  refine ⟨n, _, h1, h2, h3, hpost _ _ _ _ _ _ ⟨Cond.after_iff.mpr rfl, Cond.after_iff.mpr (eq_i res_at (Term.int_eval (1)) rfl), trivial⟩ ⟨hq.1, hq.2.1, hq.2.2.1, (hq.2.2.2.sift fun y hy => Or.inr (N y hy)).mono (by decide) (by decide)⟩⟩
theorem main_1_1 : Claimed_1_1 := comes_1 fun _ _ _ _ _ _ h hF => ⟨h.1, hF⟩
theorem main_1_2 : Claimed_1_2 := comes_1 fun _ _ _ _ _ _ h hF => ⟨h.2.1, hF⟩
end Jvm.Pilot.@@N@@
namespace Jvm.Pilot.@@N@@
open Jvm Jvm.ClassFile Sem Op Lib Jvm.Free Jvm.Stand Jvm.Pilot.@@N@@.Jvm.D
/-! MADE BY PROGRAM (witnessworld.py) out of the Statement's table words and the real class files: 27 classes; the members and pool entries that the words name. The judged class is class 1, her method 3. -/
namespace start1
open Jvm.ClassFile
def u (s : String) : CpInfo := .utf8 (stringToUtf16 s)
/-- a pool by its gaps: so many unusable entries, then the entry; so many at the end -/
def gap : Nat → List CpInfo → List CpInfo
  | 0, r => r
  | n + 1, r => .unusable :: gap n r
def poolList (es : List (Nat × CpInfo)) (last : Nat) : List CpInfo := es.foldr (fun e r => gap e.1 (e.2 :: r)) (gap last [])
def pool (es : List (Nat × CpInfo)) (last : Nat) : Array CpInfo := ⟨poolList es last⟩
def fileOf (pool : Array CpInfo) (this : Nat) (attrs : Array Attribute := #[]) (ms : Array MethodInfo := #[]) (fl : Nat := 33) (sup : Nat := 0) (ifs : Array Nat := #[]) (fds : Array FieldInfo := #[]) : ClassFile where
  minorVersion := 0
  majorVersion := 65
  constantPool := pool
  accessFlags := fl
  thisClass := this
  superClass := sup
  interfaces := ifs
  fields := fds
  methods := ms
  attributes := attrs
def plain (name : String) (sup : Option ClassId) : Class where
  name := name
  kind := .ordinary
  loader := none
  accessFlags := 33
  super := sup
  interfaces := #[]
  cf := none
  fields := #[]
  methods := #[]
  instanceTypes := #[]
  staticTypes := #[]
  resolved := #[]
  callSites := []
  init := .initialized
  statics := none
  mirror := none

def pool0 : Array CpInfo := pool [(5, u "<init>"), (0, u "()V"), (1, .class_ 10), (1, u "java/lang/Object"), (7, u "()Ljava/lang/String;"), (18, u "toString"), (58, u "clone"), (0, u "()Ljava/lang/Object;")] 26

def k0c0 : Code := { maxStack := 0, maxLocals := 1, code := object_method_1_code, exceptionTable := #[], attributes := #[] }
def k0m0 : Method := { name := "<init>", desc := "()V", sig := { parameters := [], returnType := none }, accessFlags := 1, code := some k0c0 }
def k0m1 : Method := { name := "clone", desc := "()Ljava/lang/Object;", sig := { parameters := [], returnType := some (.object "java/lang/Object") }, accessFlags := 260, code := none }
def k0c2 : Code := { maxStack := 2, maxLocals := 1, code := ⟨#[0xbb, 0x00, 0x01, 0x59, 0xb7, 0x00, 0x03, 0x2a, 0xb6, 0x00, 0x07, 0xb6, 0x00, 0x0d, 0xb6, 0x00, 0x13, 0x12, 0x17, 0xb6, 0x00, 0x13, 0x2a, 0xb6, 0x00, 0x19, 0xb8, 0x00, 0x1d, 0xb6, 0x00, 0x13, 0xb6, 0x00, 0x23, 0xb0]⟩, exceptionTable := #[], attributes := #[] }
def k0m2 : Method := { name := "toString", desc := "()Ljava/lang/String;", sig := { parameters := [], returnType := some (.object "java/lang/String") }, accessFlags := 1, code := some k0c2 }
/-- java/lang/Object -/
def k0 : Class := { plain "java/lang/Object" none with
  accessFlags := 33
  interfaces := #[]
  cf := some (fileOf pool0 8 #[] #[{ accessFlags := 1, nameIndex := 5, descriptorIndex := 6, attributes := #[] }, { accessFlags := 260, nameIndex := 96, descriptorIndex := 97, attributes := #[] }, { accessFlags := 1, nameIndex := 37, descriptorIndex := 18, attributes := #[] }] 33 0 #[] #[])
  fields := #[]
  methods := #[k0m0, k0m1, k0m2]
  instanceTypes := #[]
  staticTypes := #[]
  resolved := Array.replicate 124 none
  statics := none }

def pool1 : Array CpInfo := pool [(2, .class_ 4), (1, u "java/lang/Object"), (0, u "<init>"), (0, u "()V"), (0, .class_ 8), (0, u "java/lang/String"), (0, .methodref 7 10), (0, .nameAndType 5 11), (0, u "([C)V"), (0, .methodref 7 13), (0, .nameAndType 14 15), (0, u "length"), (0, u "()I"), (0, .methodref 7 17), (0, .nameAndType 18 19), (0, u "charAt"), (0, u "(I)C"), (0, .methodref 21 22), (0, .class_ 23), (0, .nameAndType 24 25), (0, u "com/example/cadi/cadi/OriginSaysPinLaw"), (0, u "mk"), (0, u "(ICC)Ljava/lang/String;"), (0, .class_ 27), (0, u "com/example/cadi/cadi/Origin"), (0, .methodref 26 29), (0, .nameAndType 5 30), (0, u "(Ljava/lang/String;)V"), (0, .methodref 26 32), (0, .nameAndType 33 34), (0, u "says"), (0, u "(Ljava/lang/String;Ljava/lang/String;)Ljava/lang/String;"), (0, .methodref 21 36), (0, .nameAndType 37 38), (0, u "at"), (0, u "(Ljava/lang/String;IC)Z"), (3, u "law"), (0, u "(III)Z")] 2

def k1m0 : Method := { name := "<init>", desc := "()V", sig := { parameters := [], returnType := none }, accessFlags := 1, code := none }
def k1c1 : Code := { maxStack := 6, maxLocals := 3, code := method_2_code, exceptionTable := #[], attributes := #[] }
def k1m1 : Method := { name := "mk", desc := "(ICC)Ljava/lang/String;", sig := { parameters := [.int, .char, .char], returnType := some (.object "java/lang/String") }, accessFlags := 10, code := some k1c1 }
def k1c2 : Code := { maxStack := 2, maxLocals := 3, code := method_3_code, exceptionTable := #[], attributes := #[] }
def k1m2 : Method := { name := "at", desc := "(Ljava/lang/String;IC)Z", sig := { parameters := [(.object "java/lang/String"), .int, .char], returnType := some .boolean }, accessFlags := 10, code := some k1c2 }
def k1c3 : Code := { maxStack := 3, maxLocals := 21, code := code, exceptionTable := #[], attributes := #[] }
def k1m3 : Method := { name := "law", desc := "(III)Z", sig := { parameters := [.int, .int, .int], returnType := some .boolean }, accessFlags := 9, code := some k1c3 }
/-- com/example/cadi/cadi/OriginSaysPinLaw -/
def k1 : Class := { plain "com/example/cadi/cadi/OriginSaysPinLaw" (some 0) with
  accessFlags := 49
  interfaces := #[]
  cf := some (fileOf pool1 21 #[] #[{ accessFlags := 1, nameIndex := 5, descriptorIndex := 6, attributes := #[] }, { accessFlags := 10, nameIndex := 24, descriptorIndex := 25, attributes := #[] }, { accessFlags := 10, nameIndex := 37, descriptorIndex := 38, attributes := #[] }, { accessFlags := 9, nameIndex := 42, descriptorIndex := 43, attributes := #[] }] 49 2 #[] #[])
  fields := #[]
  methods := #[k1m0, k1m1, k1m2, k1m3]
  instanceTypes := #[]
  staticTypes := #[]
  resolved := Array.replicate 46 none
  statics := none }

def pool2 : Array CpInfo := pool [(1, .class_ 2), (0, u "java/io/Serializable"), (0, .class_ 4), (0, u "java/lang/Object")] 2

/-- java/io/Serializable -/
def k2 : Class := { plain "java/io/Serializable" (some 0) with
  accessFlags := 1537
  interfaces := #[]
  cf := some (fileOf pool2 1 #[] #[] 1537 3 #[] #[])
  fields := #[]
  methods := #[]
  instanceTypes := #[]
  staticTypes := #[]
  resolved := Array.replicate 7 none
  statics := none }

def pool3 : Array CpInfo := pool [(1, .class_ 2), (0, u "java/lang/Comparable"), (0, .class_ 4), (0, u "java/lang/Object")] 7

/-- java/lang/Comparable -/
def k3 : Class := { plain "java/lang/Comparable" (some 0) with
  accessFlags := 1537
  interfaces := #[]
  cf := some (fileOf pool3 1 #[] #[] 1537 3 #[] #[])
  fields := #[]
  methods := #[]
  instanceTypes := #[]
  staticTypes := #[]
  resolved := Array.replicate 12 none
  statics := none }

def pool4 : Array CpInfo := pool [(2, .class_ 4), (1, u "java/lang/CharSequence"), (42, .class_ 48), (0, u "java/lang/CharSequence$1CodePointIterator"), (10, .class_ 60), (0, u "java/lang/CharSequence$1CharIterator"), (5, .class_ 67), (0, u "java/lang/Object")] 63

/-- java/lang/CharSequence -/
def k4 : Class := { plain "java/lang/CharSequence" (some 0) with
  accessFlags := 1537
  interfaces := #[]
  cf := some (fileOf pool4 2 #[.nestMembers #[47, 59]] #[] 1537 66 #[] #[])
  fields := #[]
  methods := #[]
  instanceTypes := #[]
  staticTypes := #[]
  resolved := Array.replicate 131 none
  statics := none }

def pool5 : Array CpInfo := pool [(1, .class_ 2), (0, u "java/lang/constant/Constable"), (0, .class_ 4), (0, u "java/lang/Object")] 6

/-- java/lang/constant/Constable -/
def k5 : Class := { plain "java/lang/constant/Constable" (some 0) with
  accessFlags := 1537
  interfaces := #[]
  cf := some (fileOf pool5 1 #[] #[] 1537 3 #[] #[])
  fields := #[]
  methods := #[]
  instanceTypes := #[]
  staticTypes := #[]
  resolved := Array.replicate 11 none
  statics := none }

def pool6 : Array CpInfo := pool [(1, .class_ 2), (0, u "java/lang/constant/ConstantDesc"), (0, .class_ 4), (0, u "java/lang/Object")] 32

/-- java/lang/constant/ConstantDesc -/
def k6 : Class := { plain "java/lang/constant/ConstantDesc" (some 0) with
  accessFlags := 1537
  interfaces := #[]
  cf := some (fileOf pool6 1 #[] #[] 1537 3 #[] #[])
  fields := #[]
  methods := #[]
  instanceTypes := #[]
  staticTypes := #[]
  resolved := Array.replicate 37 none
  statics := none }

def pool7 : Array CpInfo := pool [(1, .methodref 2 3), (0, .class_ 4), (0, .nameAndType 5 6), (0, u "java/lang/Object"), (0, u "<init>"), (0, u "()V"), (0, .string 8), (0, u ""), (0, .fieldref 10 11), (0, .class_ 12), (0, .nameAndType 13 14), (0, u "java/lang/String"), (0, u "value"), (0, u "[B"), (0, .fieldref 10 16), (0, .nameAndType 17 18), (0, u "coder"), (0, u "B"), (2, u "hash"), (0, u "I"), (2, u "hashIsZero"), (0, u "Z"), (0, .methodref 10 28), (0, .nameAndType 5 29), (0, u "([CIILjava/lang/Void;)V"), (8, .fieldref 10 39), (0, .nameAndType 40 26), (0, u "COMPACT_STRINGS"), (1, .class_ 44), (1, u "java/lang/StringUTF16"), (0, u "compress"), (1, .methodref 42 48), (0, .nameAndType 49 50), (0, u "coderFromArrayLen"), (0, u "([BI)B"), (3, .methodref 55 56), (0, .class_ 57), (0, .nameAndType 58 59), (0, u "java/util/Arrays"), (0, u "copyOfRange"), (0, u "([BII)[B"), (47, .class_ 109), (1, u "java/lang/StringLatin1"), (32, u "()Z"), (34, .methodref 42 178), (0, .nameAndType 45 179), (0, u "([CII)[B"), (13, .class_ 195), (1, u "java/lang/System"), (16, .methodref 193 213), (0, .nameAndType 214 215), (0, u "arraycopy"), (0, u "(Ljava/lang/Object;ILjava/lang/Object;II)V"), (118, u "()I"), (0, .methodref 10 336), (0, .nameAndType 17 337), (0, u "()B"), (2, u "()[B"), (22, u "([BI)C"), (27, u "(II)V"), (35, u "(I)C"), (34, .nameAndType 463 464), (0, u "toString"), (0, u "()Ljava/lang/String;"), (24, .methodref 10 490), (0, .nameAndType 5 491), (0, u "(Ljava/lang/AbstractStringBuilder;Ljava/lang/Void;)V"), (0, .methodref 10 493), (0, .nameAndType 494 142), (0, u "isLatin1"), (0, .methodref 107 496), (0, .nameAndType 497 363), (0, u "charAt"), (3, u "checkIndex"), (4, .nameAndType 507 334), (0, u "length"), (24, u "getBytes"), (16, .methodref 550 506), (0, .class_ 551), (0, u "java/lang/AbstractStringBuilder"), (0, .methodref 550 553), (0, .nameAndType 554 340), (0, u "getValue"), (20, .class_ 576), (0, u "java/lang/CharSequence"), (22, u "CASE_INSENSITIVE_ORDER"), (0, u "Ljava/util/Comparator;"), (181, u "valueOf"), (25, u "(Ljava/lang/Object;)Ljava/lang/String;"), (12, u "([BIB)V"), (185, .methodref 2 462), (2, u "([C)V"), (36, .methodref 550 493), (5, .fieldref 1054 1055), (0, .class_ 1056), (0, .nameAndType 1057 1058), (0, u "jdk/internal/util/Preconditions"), (0, u "SIOOBE_FORMATTER"), (0, u "Ljava/util/function/BiFunction;"), (0, .methodref 1054 1060), (0, .nameAndType 501 1061), (0, u "(IILjava/util/function/BiFunction;)I"), (39, u "serialPersistentFields"), (0, u "[Ljava/io/ObjectStreamField;"), (0, .class_ 1104), (0, u "java/lang/String$CaseInsensitiveComparator"), (1, .class_ 1107), (0, u "java/io/Serializable"), (0, .class_ 1109), (0, u "java/lang/Comparable"), (0, .class_ 1111), (0, u "java/lang/constant/Constable"), (0, .class_ 1113), (0, u "java/lang/constant/ConstantDesc"), (2, u "serialVersionUID"), (0, u "J"), (3, u "REPL"), (0, u "C"), (2, u "LATIN1"), (1, u "UTF16"), (105, u "(Ljava/lang/StringBuilder;)V")] 217

def k7m0 : Method := { name := "<init>", desc := "()V", sig := { parameters := [], returnType := none }, accessFlags := 1, code := none }
def k7c1 : Code := { maxStack := 5, maxLocals := 2, code := jdk_42_method_3_code, exceptionTable := #[], attributes := #[] }
def k7m1 : Method := { name := "<init>", desc := "([C)V", sig := { parameters := [(.array .char)], returnType := none }, accessFlags := 1, code := some k7c1 }
def k7c2 : Code := { maxStack := 3, maxLocals := 2, code := jdk_42_method_53_code, exceptionTable := #[], attributes := #[] }
def k7m2 : Method := { name := "<init>", desc := "(Ljava/lang/StringBuilder;)V", sig := { parameters := [(.object "java/lang/StringBuilder")], returnType := none }, accessFlags := 1, code := some k7c2 }
def k7c3 : Code := { maxStack := 2, maxLocals := 1, code := jdk_42_method_54_code, exceptionTable := #[], attributes := #[] }
def k7m3 : Method := { name := "length", desc := "()I", sig := { parameters := [], returnType := some .int }, accessFlags := 1, code := some k7c3 }
def k7c4 : Code := { maxStack := 2, maxLocals := 2, code := jdk_42_method_56_code, exceptionTable := #[], attributes := #[] }
def k7m4 : Method := { name := "charAt", desc := "(I)C", sig := { parameters := [.int], returnType := some .char }, accessFlags := 1, code := some k7c4 }
def k7c5 : Code := { maxStack := 1, maxLocals := 1, code := jdk_42_method_133_code, exceptionTable := #[], attributes := #[] }
def k7m5 : Method := { name := "valueOf", desc := "(Ljava/lang/Object;)Ljava/lang/String;", sig := { parameters := [(.object "java/lang/Object")], returnType := some (.object "java/lang/String") }, accessFlags := 9, code := some k7c5 }
def k7c6 : Code := { maxStack := 5, maxLocals := 4, code := jdk_42_method_147_code, exceptionTable := #[], attributes := #[] }
def k7m6 : Method := { name := "getBytes", desc := "([BIB)V", sig := { parameters := [(.array .byte), .int, .byte], returnType := none }, accessFlags := 0, code := some k7c6 }
def k7c7 : Code := { maxStack := 4, maxLocals := 6, code := jdk_42_method_149_code, exceptionTable := #[], attributes := #[] }
def k7m7 : Method := { name := "<init>", desc := "([CIILjava/lang/Void;)V", sig := { parameters := [(.array .char), .int, .int, (.object "java/lang/Void")], returnType := none }, accessFlags := 2, code := some k7c7 }
def k7c8 : Code := { maxStack := 5, maxLocals := 5, code := jdk_42_method_150_code, exceptionTable := #[], attributes := #[] }
def k7m8 : Method := { name := "<init>", desc := "(Ljava/lang/AbstractStringBuilder;Ljava/lang/Void;)V", sig := { parameters := [(.object "java/lang/AbstractStringBuilder"), (.object "java/lang/Void")], returnType := none }, accessFlags := 0, code := some k7c8 }
def k7c9 : Code := { maxStack := 1, maxLocals := 1, code := jdk_42_method_152_code, exceptionTable := #[], attributes := #[] }
def k7m9 : Method := { name := "coder", desc := "()B", sig := { parameters := [], returnType := some .byte }, accessFlags := 0, code := some k7c9 }
def k7c10 : Code := { maxStack := 1, maxLocals := 1, code := jdk_42_method_154_code, exceptionTable := #[], attributes := #[] }
def k7m10 : Method := { name := "isLatin1", desc := "()Z", sig := { parameters := [], returnType := some .boolean }, accessFlags := 0, code := some k7c10 }
def k7c11 : Code := { maxStack := 3, maxLocals := 2, code := jdk_42_method_155_code, exceptionTable := #[], attributes := #[] }
def k7m11 : Method := { name := "checkIndex", desc := "(II)V", sig := { parameters := [.int, .int], returnType := none }, accessFlags := 8, code := some k7c11 }
/-- java/lang/String -/
def k7 : Class := { plain "java/lang/String" (some 0) with
  accessFlags := 49
  interfaces := #[2, 3, 4, 5, 6]
  cf := some (fileOf pool7 10 #[.nestMembers #[1103]] #[{ accessFlags := 1, nameIndex := 5, descriptorIndex := 6, attributes := #[] }, { accessFlags := 1, nameIndex := 5, descriptorIndex := 1010, attributes := #[] }, { accessFlags := 1, nameIndex := 5, descriptorIndex := 1233, attributes := #[] }, { accessFlags := 1, nameIndex := 507, descriptorIndex := 334, attributes := #[] }, { accessFlags := 1, nameIndex := 497, descriptorIndex := 427, attributes := #[] }, { accessFlags := 9, nameIndex := 782, descriptorIndex := 808, attributes := #[] }, { accessFlags := 0, nameIndex := 532, descriptorIndex := 821, attributes := #[] }, { accessFlags := 2, nameIndex := 5, descriptorIndex := 29, attributes := #[] }, { accessFlags := 0, nameIndex := 5, descriptorIndex := 491, attributes := #[] }, { accessFlags := 0, nameIndex := 17, descriptorIndex := 337, attributes := #[] }, { accessFlags := 0, nameIndex := 494, descriptorIndex := 142, attributes := #[] }, { accessFlags := 8, nameIndex := 501, descriptorIndex := 391, attributes := #[] }] 49 2 #[1106, 1108, 575, 1110, 1112] #[{ accessFlags := 18, nameIndex := 13, descriptorIndex := 14, attributes := #[] }, { accessFlags := 18, nameIndex := 17, descriptorIndex := 18, attributes := #[] }, { accessFlags := 2, nameIndex := 21, descriptorIndex := 22, attributes := #[] }, { accessFlags := 2, nameIndex := 25, descriptorIndex := 26, attributes := #[] }, { accessFlags := 26, nameIndex := 1116, descriptorIndex := 1117, attributes := #[] }, { accessFlags := 24, nameIndex := 40, descriptorIndex := 26, attributes := #[] }, { accessFlags := 26, nameIndex := 1101, descriptorIndex := 1102, attributes := #[] }, { accessFlags := 26, nameIndex := 1121, descriptorIndex := 1122, attributes := #[] }, { accessFlags := 25, nameIndex := 599, descriptorIndex := 600, attributes := #[] }, { accessFlags := 24, nameIndex := 1125, descriptorIndex := 18, attributes := #[] }, { accessFlags := 24, nameIndex := 1127, descriptorIndex := 18, attributes := #[] }])
  fields := #[{ name := "value", type := (.array .byte), accessFlags := 18, slot := 0, constantValue := 0 }, { name := "coder", type := .byte, accessFlags := 18, slot := 1, constantValue := 0 }, { name := "hash", type := .int, accessFlags := 2, slot := 2, constantValue := 0 }, { name := "hashIsZero", type := .boolean, accessFlags := 2, slot := 3, constantValue := 0 }, { name := "serialVersionUID", type := .long, accessFlags := 26, slot := 0, constantValue := 0 }, { name := "COMPACT_STRINGS", type := .boolean, accessFlags := 24, slot := 1, constantValue := 0 }, { name := "serialPersistentFields", type := (.array (.object "java/io/ObjectStreamField")), accessFlags := 26, slot := 2, constantValue := 0 }, { name := "REPL", type := .char, accessFlags := 26, slot := 3, constantValue := 0 }, { name := "CASE_INSENSITIVE_ORDER", type := (.object "java/util/Comparator"), accessFlags := 25, slot := 4, constantValue := 0 }, { name := "LATIN1", type := .byte, accessFlags := 24, slot := 5, constantValue := 0 }, { name := "UTF16", type := .byte, accessFlags := 24, slot := 6, constantValue := 0 }]
  methods := #[k7m0, k7m1, k7m2, k7m3, k7m4, k7m5, k7m6, k7m7, k7m8, k7m9, k7m10, k7m11]
  instanceTypes := #[(.array .byte), .byte, .int, .boolean]
  staticTypes := #[.long, .boolean, (.array (.object "java/io/ObjectStreamField")), .char, (.object "java/util/Comparator"), .byte, .byte]
  resolved := Array.replicate 1451 none
  statics := some 0 }

def pool8 : Array CpInfo := pool [(1, .methodref 2 3), (0, .class_ 4), (0, .nameAndType 5 6), (0, u "java/lang/Object"), (0, u "<init>"), (0, u "()V"), (0, .class_ 8), (0, u "java/lang/Record")] 13

def k8c0 : Code := { maxStack := 1, maxLocals := 1, code := jdk_30_method_1_code, exceptionTable := #[], attributes := #[] }
def k8m0 : Method := { name := "<init>", desc := "()V", sig := { parameters := [], returnType := none }, accessFlags := 4, code := some k8c0 }
/-- java/lang/Record -/
def k8 : Class := { plain "java/lang/Record" (some 0) with
  accessFlags := 1057
  interfaces := #[]
  cf := some (fileOf pool8 7 #[] #[{ accessFlags := 4, nameIndex := 5, descriptorIndex := 6, attributes := #[] }] 1057 2 #[] #[])
  fields := #[]
  methods := #[k8m0]
  instanceTypes := #[]
  staticTypes := #[]
  resolved := Array.replicate 22 none
  statics := none }

def pool9 : Array CpInfo := pool [(1, .methodref 2 3), (0, .class_ 4), (0, .nameAndType 5 6), (0, u "java/lang/Record"), (0, u "<init>"), (0, u "()V"), (0, .fieldref 8 9), (0, .class_ 10), (0, .nameAndType 11 12), (0, u "com/example/cadi/cadi/Origin"), (0, u "place"), (0, u "Ljava/lang/String;"), (0, .class_ 14), (0, u "java/lang/StringBuilder"), (0, .methodref 13 3), (0, .methodref 13 17), (0, .nameAndType 18 19), (0, u "append"), (0, u "(Ljava/lang/Object;)Ljava/lang/StringBuilder;"), (2, .methodref 13 23), (0, .nameAndType 18 24), (0, u "(Ljava/lang/String;)Ljava/lang/StringBuilder;"), (3, .methodref 13 29), (0, .nameAndType 30 31), (0, u "toString"), (0, u "()Ljava/lang/String;"), (2, u "(Ljava/lang/String;)V"), (21, u "says"), (0, u "(Ljava/lang/String;Ljava/lang/String;)Ljava/lang/String;"), (3, .string 62), (0, u ": "), (0, .string 64), (0, u ": bean '"), (0, .string 66), (0, u "': ")] 44

def k9c0 : Code := { maxStack := 2, maxLocals := 2, code := prog_34_method_1_code, exceptionTable := #[], attributes := #[] }
def k9m0 : Method := { name := "<init>", desc := "(Ljava/lang/String;)V", sig := { parameters := [(.object "java/lang/String")], returnType := none }, accessFlags := 0, code := some k9c0 }
def k9c1 : Code := { maxStack := 2, maxLocals := 3, code := prog_34_method_7_code, exceptionTable := #[], attributes := #[] }
def k9m1 : Method := { name := "says", desc := "(Ljava/lang/String;Ljava/lang/String;)Ljava/lang/String;", sig := { parameters := [(.object "java/lang/String"), (.object "java/lang/String")], returnType := some (.object "java/lang/String") }, accessFlags := 0, code := some k9c1 }
def k9c2 : Code := { maxStack := 1, maxLocals := 1, code := prog_34_method_8_code, exceptionTable := #[], attributes := #[] }
def k9m2 : Method := { name := "toString", desc := "()Ljava/lang/String;", sig := { parameters := [], returnType := some (.object "java/lang/String") }, accessFlags := 1, code := some k9c2 }
/-- com/example/cadi/cadi/Origin -/
def k9 : Class := { plain "com/example/cadi/cadi/Origin" (some 8) with
  accessFlags := 48
  interfaces := #[]
  cf := some (fileOf pool9 8 #[] #[{ accessFlags := 0, nameIndex := 5, descriptorIndex := 34, attributes := #[] }, { accessFlags := 0, nameIndex := 56, descriptorIndex := 57, attributes := #[] }, { accessFlags := 1, nameIndex := 30, descriptorIndex := 31, attributes := #[] }] 48 2 #[] #[{ accessFlags := 18, nameIndex := 11, descriptorIndex := 12, attributes := #[] }])
  fields := #[{ name := "place", type := (.object "java/lang/String"), accessFlags := 18, slot := 0, constantValue := 0 }]
  methods := #[k9m0, k9m1, k9m2]
  instanceTypes := #[(.object "java/lang/String")]
  staticTypes := #[]
  resolved := Array.replicate 111 none
  statics := none }

def pool10 : Array CpInfo := pool [(1, .class_ 2), (0, u "java/lang/Appendable"), (0, .class_ 4), (0, u "java/lang/Object")] 9

/-- java/lang/Appendable -/
def k10 : Class := { plain "java/lang/Appendable" (some 0) with
  accessFlags := 1537
  interfaces := #[]
  cf := some (fileOf pool10 1 #[] #[] 1537 3 #[] #[])
  fields := #[]
  methods := #[]
  instanceTypes := #[]
  staticTypes := #[]
  resolved := Array.replicate 14 none
  statics := none }

def pool11 : Array CpInfo := pool [(1, .class_ 2), (0, u "java/lang/String"), (0, .methodref 4 5), (0, .class_ 6), (0, .nameAndType 7 8), (0, u "java/lang/Object"), (0, u "<init>"), (0, u "()V"), (1, .class_ 12), (1, u "java/lang/AbstractStringBuilder"), (0, u "EMPTYVALUE"), (0, u "[B"), (0, .fieldref 10 16), (0, .nameAndType 17 14), (0, u "value"), (0, .fieldref 1 19), (0, .nameAndType 20 21), (0, u "COMPACT_STRINGS"), (0, u "Z"), (0, .fieldref 10 23), (0, .nameAndType 24 25), (0, u "coder"), (0, u "B"), (6, .methodref 1 33), (0, .nameAndType 34 35), (0, u "length"), (0, u "()I"), (3, .integer 2147483647), (0, .methodref 1 41), (0, .nameAndType 24 42), (0, u "()B"), (2, u "append"), (0, u "(Ljava/lang/String;)Ljava/lang/AbstractStringBuilder;"), (1, .class_ 49), (0, u "java/lang/CharSequence"), (19, u "(Ljava/lang/String;)V"), (5, u "maybeLatin1"), (3, .fieldref 10 80), (0, .nameAndType 81 82), (0, u "count"), (0, u "I"), (2, u "isLatin1"), (0, u "()Z"), (13, .methodref 10 101), (0, .nameAndType 102 103), (0, u "ensureCapacityInternal"), (0, u "(I)V"), (0, .methodref 10 105), (0, .nameAndType 106 107), (0, u "newCapacity"), (0, u "(I)I"), (0, .methodref 109 110), (0, .class_ 111), (0, .nameAndType 112 113), (0, u "java/util/Arrays"), (0, u "copyOf"), (0, u "([BI)[B"), (0, .methodref 115 116), (0, .class_ 117), (0, .nameAndType 118 119), (0, u "jdk/internal/util/ArraysSupport"), (0, u "newLength"), (0, u "(III)I"), (88, .methodref 10 209), (0, .nameAndType 210 211), (0, u "putStringAt"), (0, u "(ILjava/lang/String;)V"), (5, u "inflateIfNeededFor"), (2, .nameAndType 221 222), (0, u "getBytes"), (0, u "([BIB)V"), (174, .methodref 10 398), (0, .nameAndType 217 69), (0, .methodref 1 220), (3, u "()[B"), (40, .class_ 445), (0, u "java/lang/Appendable"), (106, u "getValue")] 56

def k11m0 : Method := { name := "<init>", desc := "()V", sig := { parameters := [], returnType := none }, accessFlags := 0, code := none }
def k11c1 : Code := { maxStack := 2, maxLocals := 2, code := jdk_68_method_2_code, exceptionTable := #[], attributes := #[] }
def k11m1 : Method := { name := "<init>", desc := "(I)V", sig := { parameters := [.int], returnType := none }, accessFlags := 0, code := some k11c1 }
def k11c2 : Code := { maxStack := 1, maxLocals := 1, code := jdk_68_method_6_code, exceptionTable := #[], attributes := #[] }
def k11m2 : Method := { name := "length", desc := "()I", sig := { parameters := [], returnType := some .int }, accessFlags := 1, code := some k11c2 }
def k11c3 : Code := { maxStack := 4, maxLocals := 3, code := jdk_68_method_9_code, exceptionTable := #[], attributes := #[] }
def k11m3 : Method := { name := "ensureCapacityInternal", desc := "(I)V", sig := { parameters := [.int], returnType := none }, accessFlags := 2, code := some k11c3 }
def k11c4 : Code := { maxStack := 5, maxLocals := 6, code := jdk_68_method_10_code, exceptionTable := #[], attributes := #[] }
def k11m4 : Method := { name := "newCapacity", desc := "(I)I", sig := { parameters := [.int], returnType := some .int }, accessFlags := 2, code := some k11c4 }
def k11c5 : Code := { maxStack := 3, maxLocals := 3, code := jdk_68_method_22_code, exceptionTable := #[], attributes := #[] }
def k11m5 : Method := { name := "append", desc := "(Ljava/lang/String;)Ljava/lang/AbstractStringBuilder;", sig := { parameters := [(.object "java/lang/String")], returnType := some (.object "java/lang/AbstractStringBuilder") }, accessFlags := 1, code := some k11c5 }
def k11c6 : Code := { maxStack := 1, maxLocals := 1, code := jdk_68_method_64_code, exceptionTable := #[], attributes := #[] }
def k11m6 : Method := { name := "getValue", desc := "()[B", sig := { parameters := [], returnType := some (.array .byte) }, accessFlags := 16, code := some k11c6 }
def k11c7 : Code := { maxStack := 1, maxLocals := 1, code := jdk_68_method_68_code, exceptionTable := #[], attributes := #[] }
def k11m7 : Method := { name := "isLatin1", desc := "()Z", sig := { parameters := [], returnType := some .boolean }, accessFlags := 16, code := some k11c7 }
def k11c8 : Code := { maxStack := 2, maxLocals := 2, code := jdk_68_method_71_code, exceptionTable := #[], attributes := #[] }
def k11m8 : Method := { name := "inflateIfNeededFor", desc := "(Ljava/lang/String;)V", sig := { parameters := [(.object "java/lang/String")], returnType := none }, accessFlags := 2, code := some k11c8 }
def k11c9 : Code := { maxStack := 4, maxLocals := 3, code := jdk_68_method_73_code, exceptionTable := #[], attributes := #[] }
def k11m9 : Method := { name := "putStringAt", desc := "(ILjava/lang/String;)V", sig := { parameters := [.int, (.object "java/lang/String")], returnType := none }, accessFlags := 2, code := some k11c9 }
/-- java/lang/AbstractStringBuilder -/
def k11 : Class := { plain "java/lang/AbstractStringBuilder" (some 0) with
  accessFlags := 1056
  interfaces := #[10, 4]
  cf := some (fileOf pool11 10 #[] #[{ accessFlags := 0, nameIndex := 7, descriptorIndex := 8, attributes := #[] }, { accessFlags := 0, nameIndex := 7, descriptorIndex := 103, attributes := #[] }, { accessFlags := 1, nameIndex := 34, descriptorIndex := 35, attributes := #[] }, { accessFlags := 2, nameIndex := 102, descriptorIndex := 103, attributes := #[] }, { accessFlags := 2, nameIndex := 106, descriptorIndex := 107, attributes := #[] }, { accessFlags := 1, nameIndex := 45, descriptorIndex := 46, attributes := #[] }, { accessFlags := 16, nameIndex := 552, descriptorIndex := 403, attributes := #[] }, { accessFlags := 16, nameIndex := 85, descriptorIndex := 86, attributes := #[] }, { accessFlags := 2, nameIndex := 217, descriptorIndex := 69, attributes := #[] }, { accessFlags := 2, nameIndex := 210, descriptorIndex := 211, attributes := #[] }] 1056 4 #[444, 48] #[{ accessFlags := 0, nameIndex := 17, descriptorIndex := 14, attributes := #[] }, { accessFlags := 0, nameIndex := 24, descriptorIndex := 25, attributes := #[] }, { accessFlags := 0, nameIndex := 75, descriptorIndex := 21, attributes := #[] }, { accessFlags := 0, nameIndex := 81, descriptorIndex := 82, attributes := #[] }, { accessFlags := 26, nameIndex := 13, descriptorIndex := 14, attributes := #[] }])
  fields := #[{ name := "value", type := (.array .byte), accessFlags := 0, slot := 0, constantValue := 0 }, { name := "coder", type := .byte, accessFlags := 0, slot := 1, constantValue := 0 }, { name := "maybeLatin1", type := .boolean, accessFlags := 0, slot := 2, constantValue := 0 }, { name := "count", type := .int, accessFlags := 0, slot := 3, constantValue := 0 }, { name := "EMPTYVALUE", type := (.array .byte), accessFlags := 26, slot := 0, constantValue := 0 }]
  methods := #[k11m0, k11m1, k11m2, k11m3, k11m4, k11m5, k11m6, k11m7, k11m8, k11m9]
  instanceTypes := #[(.array .byte), .byte, .boolean, .int]
  staticTypes := #[(.array .byte)]
  resolved := Array.replicate 609 none
  statics := none }

def pool12 : Array CpInfo := pool [(1, .methodref 2 3), (0, .class_ 4), (0, .nameAndType 5 6), (0, u "java/lang/AbstractStringBuilder"), (0, u "<init>"), (0, u "(I)V"), (10, .methodref 18 19), (0, .class_ 20), (0, .nameAndType 21 22), (0, u "java/lang/String"), (0, u "valueOf"), (0, u "(Ljava/lang/Object;)Ljava/lang/String;"), (0, .methodref 24 25), (0, .class_ 26), (0, .nameAndType 27 28), (0, u "java/lang/StringBuilder"), (0, u "append"), (0, u "(Ljava/lang/String;)Ljava/lang/StringBuilder;"), (0, .methodref 2 30), (0, .nameAndType 27 31), (0, u "(Ljava/lang/String;)Ljava/lang/AbstractStringBuilder;"), (105, .methodref 18 138), (0, .nameAndType 5 139), (0, u "(Ljava/lang/StringBuilder;)V"), (5, u "()V"), (10, u "()I"), (150, u "(Ljava/lang/Object;)Ljava/lang/StringBuilder;"), (35, .methodref 2 344), (0, .nameAndType 345 156), (0, u "length"), (3, .class_ 350), (0, u "java/lang/Appendable"), (0, .class_ 352), (0, u "java/io/Serializable"), (0, .class_ 354), (0, u "java/lang/Comparable"), (0, .class_ 356), (0, u "java/lang/CharSequence"), (0, u "serialVersionUID"), (0, u "J"), (40, u "toString"), (0, u "()Ljava/lang/String;")] 21

def k12c0 : Code := { maxStack := 2, maxLocals := 1, code := jdk_67_method_1_code, exceptionTable := #[], attributes := #[] }
def k12m0 : Method := { name := "<init>", desc := "()V", sig := { parameters := [], returnType := none }, accessFlags := 1, code := some k12c0 }
def k12c1 : Code := { maxStack := 2, maxLocals := 2, code := jdk_67_method_6_code, exceptionTable := #[], attributes := #[] }
def k12m1 : Method := { name := "append", desc := "(Ljava/lang/Object;)Ljava/lang/StringBuilder;", sig := { parameters := [(.object "java/lang/Object")], returnType := some (.object "java/lang/StringBuilder") }, accessFlags := 1, code := some k12c1 }
def k12c2 : Code := { maxStack := 2, maxLocals := 2, code := jdk_67_method_7_code, exceptionTable := #[], attributes := #[] }
def k12m2 : Method := { name := "append", desc := "(Ljava/lang/String;)Ljava/lang/StringBuilder;", sig := { parameters := [(.object "java/lang/String")], returnType := some (.object "java/lang/StringBuilder") }, accessFlags := 1, code := some k12c2 }
def k12c3 : Code := { maxStack := 3, maxLocals := 1, code := jdk_67_method_42_code, exceptionTable := #[], attributes := #[] }
def k12m3 : Method := { name := "toString", desc := "()Ljava/lang/String;", sig := { parameters := [], returnType := some (.object "java/lang/String") }, accessFlags := 1, code := some k12c3 }
def k12c4 : Code := { maxStack := 1, maxLocals := 1, code := jdk_67_method_93_code, exceptionTable := #[], attributes := #[] }
def k12m4 : Method := { name := "length", desc := "()I", sig := { parameters := [], returnType := some .int }, accessFlags := 4161, code := some k12c4 }
/-- java/lang/StringBuilder -/
def k12 : Class := { plain "java/lang/StringBuilder" (some 11) with
  accessFlags := 49
  interfaces := #[10, 2, 3, 4]
  cf := some (fileOf pool12 24 #[] #[{ accessFlags := 1, nameIndex := 5, descriptorIndex := 145, attributes := #[] }, { accessFlags := 1, nameIndex := 27, descriptorIndex := 307, attributes := #[] }, { accessFlags := 1, nameIndex := 27, descriptorIndex := 28, attributes := #[] }, { accessFlags := 1, nameIndex := 399, descriptorIndex := 400, attributes := #[] }, { accessFlags := 4161, nameIndex := 345, descriptorIndex := 156, attributes := #[] }] 49 2 #[349, 351, 353, 355] #[{ accessFlags := 24, nameIndex := 357, descriptorIndex := 358, attributes := #[] }])
  fields := #[{ name := "serialVersionUID", type := .long, accessFlags := 24, slot := 0, constantValue := 0 }]
  methods := #[k12m0, k12m1, k12m2, k12m3, k12m4]
  instanceTypes := #[(.array .byte), .byte, .boolean, .int]
  staticTypes := #[.long]
  resolved := Array.replicate 422 none
  statics := none }

def pool13 : Array CpInfo := pool [(2, .class_ 4), (1, u "java/lang/Object"), (0, u "<init>"), (0, u "()V"), (1, .class_ 10), (1, u "java/lang/System"), (0, u "allowSecurityManager"), (0, u "I"), (16, u "cons"), (0, u "Ljava/io/Console;"), (77, .class_ 110), (1, u "java/lang/System$CallersHolder"), (43, u "initialErrStream"), (0, u "Ljava/io/PrintStream;"), (19, u "security"), (0, u "Ljava/lang/SecurityManager;"), (31, .class_ 209), (0, u "java/lang/System$1"), (7, u "props"), (0, u "Ljava/util/Properties;"), (2, u "lineSeparator"), (0, u "Ljava/lang/String;"), (96, .class_ 321), (1, u "java/lang/System$LoggerFinder"), (5, .class_ 328), (0, u "java/lang/System$Logger"), (67, u "err"), (2, u "out"), (91, u "notSupportedJnuEncoding"), (15, u "in"), (17, u "initialIn"), (0, u "Ljava/io/InputStream;"), (35, u "bootLayer"), (0, u "Ljava/lang/ModuleLayer;"), (99, .class_ 664), (0, u "java/lang/System$2"), (9, u "NEVER"), (2, u "MAYBE"), (49, u "arraycopy"), (0, u "(Ljava/lang/Object;ILjava/lang/Object;II)V"), (72, .class_ 802), (0, u "java/lang/System$Logger$Level")] 31

def k13m0 : Method := { name := "<init>", desc := "()V", sig := { parameters := [], returnType := none }, accessFlags := 2, code := none }
def k13m1 : Method := { name := "arraycopy", desc := "(Ljava/lang/Object;ILjava/lang/Object;II)V", sig := { parameters := [(.object "java/lang/Object"), .int, (.object "java/lang/Object"), .int, .int], returnType := none }, accessFlags := 265, code := none }
/-- java/lang/System -/
def k13 : Class := { plain "java/lang/System" (some 0) with
  accessFlags := 49
  interfaces := #[]
  cf := some (fileOf pool13 8 #[.nestMembers #[319, 327, 801, 108, 663, 208]] #[{ accessFlags := 2, nameIndex := 5, descriptorIndex := 6, attributes := #[] }, { accessFlags := 265, nameIndex := 727, descriptorIndex := 728, attributes := #[] }] 49 2 #[] #[{ accessFlags := 25, nameIndex := 507, descriptorIndex := 526, attributes := #[] }, { accessFlags := 25, nameIndex := 399, descriptorIndex := 155, attributes := #[] }, { accessFlags := 25, nameIndex := 396, descriptorIndex := 155, attributes := #[] }, { accessFlags := 10, nameIndex := 525, descriptorIndex := 526, attributes := #[] }, { accessFlags := 26, nameIndex := 674, descriptorIndex := 12, attributes := #[] }, { accessFlags := 26, nameIndex := 677, descriptorIndex := 12, attributes := #[] }, { accessFlags := 10, nameIndex := 11, descriptorIndex := 12, attributes := #[] }, { accessFlags := 74, nameIndex := 175, descriptorIndex := 176, attributes := #[] }, { accessFlags := 10, nameIndex := 491, descriptorIndex := 222, attributes := #[] }, { accessFlags := 74, nameIndex := 29, descriptorIndex := 30, attributes := #[] }, { accessFlags := 74, nameIndex := 154, descriptorIndex := 155, attributes := #[] }, { accessFlags := 10, nameIndex := 217, descriptorIndex := 218, attributes := #[] }, { accessFlags := 10, nameIndex := 221, descriptorIndex := 222, attributes := #[] }, { accessFlags := 8, nameIndex := 562, descriptorIndex := 563, attributes := #[] }])
  fields := #[{ name := "in", type := (.object "java/io/InputStream"), accessFlags := 25, slot := 0, constantValue := 0 }, { name := "out", type := (.object "java/io/PrintStream"), accessFlags := 25, slot := 1, constantValue := 0 }, { name := "err", type := (.object "java/io/PrintStream"), accessFlags := 25, slot := 2, constantValue := 0 }, { name := "initialIn", type := (.object "java/io/InputStream"), accessFlags := 10, slot := 3, constantValue := 0 }, { name := "NEVER", type := .int, accessFlags := 26, slot := 4, constantValue := 0 }, { name := "MAYBE", type := .int, accessFlags := 26, slot := 5, constantValue := 0 }, { name := "allowSecurityManager", type := .int, accessFlags := 10, slot := 6, constantValue := 0 }, { name := "security", type := (.object "java/lang/SecurityManager"), accessFlags := 74, slot := 7, constantValue := 0 }, { name := "notSupportedJnuEncoding", type := (.object "java/lang/String"), accessFlags := 10, slot := 8, constantValue := 0 }, { name := "cons", type := (.object "java/io/Console"), accessFlags := 74, slot := 9, constantValue := 0 }, { name := "initialErrStream", type := (.object "java/io/PrintStream"), accessFlags := 74, slot := 10, constantValue := 0 }, { name := "props", type := (.object "java/util/Properties"), accessFlags := 10, slot := 11, constantValue := 0 }, { name := "lineSeparator", type := (.object "java/lang/String"), accessFlags := 10, slot := 12, constantValue := 0 }, { name := "bootLayer", type := (.object "java/lang/ModuleLayer"), accessFlags := 8, slot := 13, constantValue := 0 }]
  methods := #[k13m0, k13m1]
  instanceTypes := #[]
  staticTypes := #[(.object "java/io/InputStream"), (.object "java/io/PrintStream"), (.object "java/io/PrintStream"), (.object "java/io/InputStream"), .int, .int, .int, (.object "java/lang/SecurityManager"), (.object "java/lang/String"), (.object "java/io/Console"), (.object "java/io/PrintStream"), (.object "java/util/Properties"), (.object "java/lang/String"), (.object "java/lang/ModuleLayer")]
  resolved := Array.replicate 834 none
  statics := none }

def pool14 : Array CpInfo := pool [(2, .class_ 4), (1, u "java/lang/Object"), (0, u "<init>"), (0, u "()V"), (7, .class_ 16), (1, u "java/util/Arrays"), (57, .class_ 76), (1, u "java/util/Arrays$NaturalOrder"), (32, u "()Ljava/lang/Object;"), (3, .class_ 115), (1, u "java/util/Arrays$LegacyMergeSort"), (1, u "Z"), (10, .nameAndType 129 109), (0, u "clone"), (9, u "copyOfRange"), (10, .methodref 151 152), (0, .class_ 153), (0, .nameAndType 154 155), (0, u "java/lang/System"), (0, u "arraycopy"), (0, u "(Ljava/lang/Object;ILjava/lang/Object;II)V"), (146, u "copyOf"), (1, .methodref 305 306), (0, .class_ 307), (0, .nameAndType 308 309), (0, u "java/lang/Math"), (0, u "min"), (0, u "(II)I"), (0, .methodref 311 128), (0, .class_ 312), (0, u "[B"), (26, .methodref 14 340), (0, .nameAndType 341 342), (0, u "copyOfRangeByte"), (0, u "([BII)[B"), (0, .methodref 14 344), (0, .nameAndType 345 346), (0, u "checkLength"), (0, u "(II)V"), (28, .class_ 376), (0, u "java/util/Arrays$ArrayList"), (68, u "$assertionsDisabled"), (269, u "MIN_ARRAY_SORT_GRAN"), (0, u "I"), (2, u "INSERTIONSORT_THRESHOLD"), (149, u "([BI)[B"), (105, .class_ 976), (0, u "java/util/Arrays$ArrayItr")] 52

def k14m0 : Method := { name := "<init>", desc := "()V", sig := { parameters := [], returnType := none }, accessFlags := 2, code := none }
def k14c1 : Code := { maxStack := 6, maxLocals := 3, code := jdk_65_method_121_code, exceptionTable := #[], attributes := #[] }
def k14m1 : Method := { name := "copyOf", desc := "([BI)[B", sig := { parameters := [(.array .byte), .int], returnType := some (.array .byte) }, accessFlags := 9, code := some k14c1 }
def k14c2 : Code := { maxStack := 4, maxLocals := 2, code := jdk_65_method_131_code, exceptionTable := #[], attributes := #[] }
def k14m2 : Method := { name := "checkLength", desc := "(II)V", sig := { parameters := [.int, .int], returnType := none }, accessFlags := 10, code := some k14c2 }
def k14c3 : Code := { maxStack := 3, maxLocals := 3, code := jdk_65_method_132_code, exceptionTable := #[], attributes := #[] }
def k14m3 : Method := { name := "copyOfRange", desc := "([BII)[B", sig := { parameters := [(.array .byte), .int, .int], returnType := some (.array .byte) }, accessFlags := 9, code := some k14c3 }
def k14c4 : Code := { maxStack := 6, maxLocals := 5, code := jdk_65_method_133_code, exceptionTable := #[], attributes := #[] }
def k14m4 : Method := { name := "copyOfRangeByte", desc := "([BII)[B", sig := { parameters := [(.array .byte), .int, .int], returnType := some (.array .byte) }, accessFlags := 10, code := some k14c4 }
/-- java/util/Arrays -/
def k14 : Class := { plain "java/util/Arrays" (some 0) with
  accessFlags := 49
  interfaces := #[]
  cf := some (fileOf pool14 14 #[.nestMembers #[975, 375, 113, 74]] #[{ accessFlags := 2, nameIndex := 5, descriptorIndex := 6, attributes := #[] }, { accessFlags := 9, nameIndex := 302, descriptorIndex := 869, attributes := #[] }, { accessFlags := 10, nameIndex := 345, descriptorIndex := 346, attributes := #[] }, { accessFlags := 9, nameIndex := 139, descriptorIndex := 342, attributes := #[] }, { accessFlags := 10, nameIndex := 341, descriptorIndex := 342, attributes := #[] }] 49 2 #[] #[{ accessFlags := 26, nameIndex := 715, descriptorIndex := 716, attributes := #[] }, { accessFlags := 26, nameIndex := 719, descriptorIndex := 716, attributes := #[] }, { accessFlags := 4120, nameIndex := 445, descriptorIndex := 117, attributes := #[] }])
  fields := #[{ name := "MIN_ARRAY_SORT_GRAN", type := .int, accessFlags := 26, slot := 0, constantValue := 0 }, { name := "INSERTIONSORT_THRESHOLD", type := .int, accessFlags := 26, slot := 1, constantValue := 0 }, { name := "$assertionsDisabled", type := .boolean, accessFlags := 4120, slot := 2, constantValue := 0 }]
  methods := #[k14m0, k14m1, k14m2, k14m3, k14m4]
  instanceTypes := #[]
  staticTypes := #[.int, .int, .boolean]
  resolved := Array.replicate 1029 none
  statics := none }

def pool15 : Array CpInfo := pool [(1, .class_ 2), (0, u "java/lang/Math"), (1, .class_ 6), (1, u "java/lang/Object"), (0, u "<init>"), (0, u "()V"), (89, .class_ 100), (1, u "java/lang/Math$RandomNumberGeneratorHolder"), (71, u "negativeZeroFloatBits"), (0, u "J"), (2, u "negativeZeroDoubleBits"), (21, u "max"), (2, u "min"), (43, u "$assertionsDisabled"), (0, u "Z"), (88, u "(II)I"), (2, u "twoToTheDoubleScaleDown"), (0, u "D"), (4, u "twoToTheDoubleScaleUp"), (9, u "E"), (3, u "PI"), (2, u "TAU"), (2, u "DEGREES_TO_RADIANS"), (0, u "RADIANS_TO_DEGREES")] 94

def k15m0 : Method := { name := "<init>", desc := "()V", sig := { parameters := [], returnType := none }, accessFlags := 2, code := none }
def k15c1 : Code := { maxStack := 2, maxLocals := 2, code := jdk_29_method_65_code, exceptionTable := #[], attributes := #[] }
def k15m1 : Method := { name := "max", desc := "(II)I", sig := { parameters := [.int, .int], returnType := some .int }, accessFlags := 9, code := some k15c1 }
def k15c2 : Code := { maxStack := 2, maxLocals := 2, code := jdk_29_method_69_code, exceptionTable := #[], attributes := #[] }
def k15m2 : Method := { name := "min", desc := "(II)I", sig := { parameters := [.int, .int], returnType := some .int }, accessFlags := 9, code := some k15c2 }
/-- java/lang/Math -/
def k15 : Class := { plain "java/lang/Math" (some 0) with
  accessFlags := 49
  interfaces := #[]
  cf := some (fileOf pool15 1 #[.nestMembers #[98]] #[{ accessFlags := 2, nameIndex := 7, descriptorIndex := 8, attributes := #[] }, { accessFlags := 9, nameIndex := 198, descriptorIndex := 335, attributes := #[] }, { accessFlags := 9, nameIndex := 201, descriptorIndex := 335, attributes := #[] }] 49 4 #[] #[{ accessFlags := 25, nameIndex := 354, descriptorIndex := 339, attributes := #[] }, { accessFlags := 25, nameIndex := 358, descriptorIndex := 339, attributes := #[] }, { accessFlags := 25, nameIndex := 361, descriptorIndex := 339, attributes := #[] }, { accessFlags := 26, nameIndex := 364, descriptorIndex := 339, attributes := #[] }, { accessFlags := 26, nameIndex := 365, descriptorIndex := 339, attributes := #[] }, { accessFlags := 26, nameIndex := 172, descriptorIndex := 173, attributes := #[] }, { accessFlags := 26, nameIndex := 176, descriptorIndex := 173, attributes := #[] }, { accessFlags := 8, nameIndex := 344, descriptorIndex := 339, attributes := #[] }, { accessFlags := 8, nameIndex := 338, descriptorIndex := 339, attributes := #[] }, { accessFlags := 4120, nameIndex := 245, descriptorIndex := 246, attributes := #[] }])
  fields := #[{ name := "E", type := .double, accessFlags := 25, slot := 0, constantValue := 0 }, { name := "PI", type := .double, accessFlags := 25, slot := 1, constantValue := 0 }, { name := "TAU", type := .double, accessFlags := 25, slot := 2, constantValue := 0 }, { name := "DEGREES_TO_RADIANS", type := .double, accessFlags := 26, slot := 3, constantValue := 0 }, { name := "RADIANS_TO_DEGREES", type := .double, accessFlags := 26, slot := 4, constantValue := 0 }, { name := "negativeZeroFloatBits", type := .long, accessFlags := 26, slot := 5, constantValue := 0 }, { name := "negativeZeroDoubleBits", type := .long, accessFlags := 26, slot := 6, constantValue := 0 }, { name := "twoToTheDoubleScaleUp", type := .double, accessFlags := 8, slot := 7, constantValue := 0 }, { name := "twoToTheDoubleScaleDown", type := .double, accessFlags := 8, slot := 8, constantValue := 0 }, { name := "$assertionsDisabled", type := .boolean, accessFlags := 4120, slot := 9, constantValue := 0 }]
  methods := #[k15m0, k15m1, k15m2]
  instanceTypes := #[]
  staticTypes := #[.double, .double, .double, .double, .double, .long, .long, .double, .double, .boolean]
  resolved := Array.replicate 460 none
  statics := none }

def pool16 : Array CpInfo := pool [(1, .class_ 2), (0, u "java/lang/String"), (1, .class_ 6), (1, u "java/lang/Object"), (0, u "<init>"), (0, u "()V"), (0, .methodref 1 10), (0, .nameAndType 11 12), (0, u "checkIndex"), (0, u "(II)V"), (1, .class_ 16), (1, u "java/lang/StringLatin1"), (36, u "([BI)C"), (67, u "$assertionsDisabled"), (0, u "Z"), (98, .class_ 223), (1, u "java/lang/StringLatin1$LinesSpliterator"), (28, u "charAt"), (137, .class_ 391), (0, u "java/lang/StringLatin1$CharsSpliterator")] 3

def k16m0 : Method := { name := "<init>", desc := "()V", sig := { parameters := [], returnType := none }, accessFlags := 0, code := none }
def k16c1 : Code := { maxStack := 2, maxLocals := 2, code := jdk_43_method_2_code, exceptionTable := #[], attributes := #[] }
def k16m1 : Method := { name := "charAt", desc := "([BI)C", sig := { parameters := [(.array .byte), .int], returnType := some .char }, accessFlags := 9, code := some k16c1 }
/-- java/lang/StringLatin1 -/
def k16 : Class := { plain "java/lang/StringLatin1" (some 0) with
  accessFlags := 48
  interfaces := #[]
  cf := some (fileOf pool16 14 #[.nestMembers #[390, 221]] #[{ accessFlags := 0, nameIndex := 7, descriptorIndex := 8, attributes := #[] }, { accessFlags := 9, nameIndex := 252, descriptorIndex := 53, attributes := #[] }] 48 4 #[] #[{ accessFlags := 4120, nameIndex := 121, descriptorIndex := 122, attributes := #[] }])
  fields := #[{ name := "$assertionsDisabled", type := .boolean, accessFlags := 4120, slot := 0, constantValue := 0 }]
  methods := #[k16m0, k16m1]
  instanceTypes := #[]
  staticTypes := #[.boolean]
  resolved := Array.replicate 395 none
  statics := none }

def pool17 : Array CpInfo := pool [(2, .class_ 4), (1, u "java/lang/Object"), (0, u "<init>"), (0, u "()V"), (17, .class_ 26), (1, u "jdk/internal/util/Preconditions"), (6, u "checkIndex"), (21, .class_ 56), (0, u "jdk/internal/util/Preconditions$4"), (57, .class_ 115), (0, u "jdk/internal/util/Preconditions$1"), (7, u "SIOOBE_FORMATTER"), (0, u "Ljava/util/function/BiFunction;"), (0, .class_ 126), (0, u "jdk/internal/util/Preconditions$2"), (3, u "AIOOBE_FORMATTER"), (0, .class_ 132), (0, u "jdk/internal/util/Preconditions$3"), (3, u "IOOBE_FORMATTER"), (41, u "(IILjava/util/function/BiFunction;)I")] 15

def k17m0 : Method := { name := "<init>", desc := "()V", sig := { parameters := [], returnType := none }, accessFlags := 1, code := none }
def k17c1 : Code := { maxStack := 3, maxLocals := 3, code := jdk_41_method_11_code, exceptionTable := #[], attributes := #[] }
def k17m1 : Method := { name := "checkIndex", desc := "(IILjava/util/function/BiFunction;)I", sig := { parameters := [.int, .int, (.object "java/util/function/BiFunction")], returnType := some .int }, accessFlags := 9, code := some k17c1 }
/-- jdk/internal/util/Preconditions -/
def k17 : Class := { plain "jdk/internal/util/Preconditions" (some 0) with
  accessFlags := 33
  interfaces := #[]
  cf := some (fileOf pool17 24 #[.nestMembers #[55, 131, 125, 114]] #[{ accessFlags := 1, nameIndex := 5, descriptorIndex := 6, attributes := #[] }, { accessFlags := 9, nameIndex := 33, descriptorIndex := 178, attributes := #[] }] 33 2 #[] #[{ accessFlags := 25, nameIndex := 123, descriptorIndex := 124, attributes := #[] }, { accessFlags := 25, nameIndex := 130, descriptorIndex := 124, attributes := #[] }, { accessFlags := 25, nameIndex := 136, descriptorIndex := 124, attributes := #[] }])
  fields := #[{ name := "SIOOBE_FORMATTER", type := (.object "java/util/function/BiFunction"), accessFlags := 25, slot := 0, constantValue := 0 }, { name := "AIOOBE_FORMATTER", type := (.object "java/util/function/BiFunction"), accessFlags := 25, slot := 1, constantValue := 0 }, { name := "IOOBE_FORMATTER", type := (.object "java/util/function/BiFunction"), accessFlags := 25, slot := 2, constantValue := 0 }]
  methods := #[k17m0, k17m1]
  instanceTypes := #[]
  staticTypes := #[(.object "java/util/function/BiFunction"), (.object "java/util/function/BiFunction"), (.object "java/util/function/BiFunction")]
  resolved := Array.replicate 194 none
  statics := some 1 }

def pool18 : Array CpInfo := pool [(6, .class_ 8), (1, u "java/lang/Object"), (0, u "<init>"), (0, u "()V"), (1, .class_ 14), (1, u "java/lang/StringUTF16"), (31, u "$assertionsDisabled"), (0, u "Z"), (13, u "HI_BYTE_SHIFT"), (0, u "I"), (2, u "LO_BYTE_SHIFT"), (49, .methodref 12 116), (0, .nameAndType 117 118), (0, u "compress"), (0, u "([CI[BII)I"), (3, u "([CII)[B"), (138, u "coderFromArrayLen"), (0, u "([BI)B"), (106, .class_ 371), (1, u "java/lang/StringUTF16$LinesSpliterator"), (58, u "MAX_LENGTH"), (196, .class_ 628), (0, u "java/lang/StringUTF16$CodePointsSpliterator"), (0, .class_ 630), (0, u "java/lang/StringUTF16$CharsSpliterator")] 4

def k18m0 : Method := { name := "<init>", desc := "()V", sig := { parameters := [], returnType := none }, accessFlags := 0, code := none }
def k18c1 : Code := { maxStack := 2, maxLocals := 2, code := jdk_52_method_15_code, exceptionTable := #[], attributes := #[] }
def k18m1 : Method := { name := "coderFromArrayLen", desc := "([BI)B", sig := { parameters := [(.array .byte), .int], returnType := some .byte }, accessFlags := 8, code := some k18c1 }
def k18c2 : Code := { maxStack := 5, maxLocals := 6, code := jdk_52_method_16_code, exceptionTable := #[], attributes := #[] }
def k18m2 : Method := { name := "compress", desc := "([CII)[B", sig := { parameters := [(.array .char), .int, .int], returnType := some (.array .byte) }, accessFlags := 9, code := some k18c2 }
def k18c3 : Code := { maxStack := 3, maxLocals := 7, code := jdk_52_method_21_code, exceptionTable := #[], attributes := #[] }
def k18m3 : Method := { name := "compress", desc := "([CI[BII)I", sig := { parameters := [(.array .char), .int, (.array .byte), .int, .int], returnType := some .int }, accessFlags := 9, code := some k18c3 }
/-- java/lang/StringUTF16 -/
def k18 : Class := { plain "java/lang/StringUTF16" (some 0) with
  accessFlags := 48
  interfaces := #[]
  cf := some (fileOf pool18 12 #[.nestMembers #[627, 629, 369]] #[{ accessFlags := 0, nameIndex := 9, descriptorIndex := 10, attributes := #[] }, { accessFlags := 8, nameIndex := 261, descriptorIndex := 262, attributes := #[] }, { accessFlags := 9, nameIndex := 117, descriptorIndex := 122, attributes := #[] }, { accessFlags := 9, nameIndex := 117, descriptorIndex := 118, attributes := #[] }] 48 6 #[] #[{ accessFlags := 26, nameIndex := 61, descriptorIndex := 62, attributes := #[] }, { accessFlags := 26, nameIndex := 65, descriptorIndex := 62, attributes := #[] }, { accessFlags := 24, nameIndex := 430, descriptorIndex := 62, attributes := #[] }, { accessFlags := 4120, nameIndex := 46, descriptorIndex := 47, attributes := #[] }])
  fields := #[{ name := "HI_BYTE_SHIFT", type := .int, accessFlags := 26, slot := 0, constantValue := 0 }, { name := "LO_BYTE_SHIFT", type := .int, accessFlags := 26, slot := 1, constantValue := 0 }, { name := "MAX_LENGTH", type := .int, accessFlags := 24, slot := 2, constantValue := 0 }, { name := "$assertionsDisabled", type := .boolean, accessFlags := 4120, slot := 3, constantValue := 0 }]
  methods := #[k18m0, k18m1, k18m2, k18m3]
  instanceTypes := #[]
  staticTypes := #[.int, .int, .int, .boolean]
  resolved := Array.replicate 635 none
  statics := none }

def pool19 : Array CpInfo := pool [(1, .class_ 2), (0, u "java/lang/Cloneable"), (0, .class_ 4), (0, u "java/lang/Object")] 2

/-- java/lang/Cloneable -/
def k19 : Class := { plain "java/lang/Cloneable" (some 0) with
  accessFlags := 1537
  interfaces := #[]
  cf := some (fileOf pool19 1 #[] #[] 1537 3 #[] #[])
  fields := #[]
  methods := #[]
  instanceTypes := #[]
  staticTypes := #[]
  resolved := Array.replicate 7 none
  statics := none }

def pool20 : Array CpInfo := pool [(9, u "<init>"), (6, .class_ 18), (1, u "java/lang/Object"), (0, u "()V"), (1, .class_ 23), (1, u "jdk/internal/util/ArraysSupport"), (0, u "LOG2_ARRAY_LONG_INDEX_SCALE"), (0, u "I"), (2, u "U"), (0, u "Ljdk/internal/misc/Unsafe;"), (8, u "BIG_ENDIAN"), (0, u "Z"), (8, u "LOG2_BYTE_BIT_SIZE"), (4, u "LOG2_ARRAY_INT_INDEX_SCALE"), (54, u "JLA"), (0, u "Ljdk/internal/access/JavaLangAccess;"), (11, u "LOG2_ARRAY_BOOLEAN_INDEX_SCALE"), (9, u "LOG2_ARRAY_BYTE_INDEX_SCALE"), (5, u "LOG2_ARRAY_CHAR_INDEX_SCALE"), (5, u "LOG2_ARRAY_SHORT_INDEX_SCALE"), (18, u "LOG2_ARRAY_FLOAT_INDEX_SCALE"), (24, u "LOG2_ARRAY_DOUBLE_INDEX_SCALE"), (6, .methodref 195 196), (0, .class_ 197), (0, .nameAndType 198 199), (0, u "java/lang/Math"), (0, u "max"), (0, u "(II)I"), (0, .integer 2147483639), (76, u "T_BOOLEAN"), (2, u "T_CHAR"), (1, u "T_FLOAT"), (1, u "T_DOUBLE"), (1, u "T_BYTE"), (1, u "T_SHORT"), (1, u "T_INT"), (1, u "T_LONG"), (1, u "SOFT_MAX_ARRAY_LENGTH"), (56, u "newLength"), (0, u "(III)I")] 25

def k20m0 : Method := { name := "<init>", desc := "()V", sig := { parameters := [], returnType := none }, accessFlags := 2, code := none }
def k20c1 : Code := { maxStack := 3, maxLocals := 4, code := jdk_48_method_27_code, exceptionTable := #[], attributes := #[] }
def k20m1 : Method := { name := "newLength", desc := "(III)I", sig := { parameters := [.int, .int, .int], returnType := some .int }, accessFlags := 9, code := some k20c1 }
/-- jdk/internal/util/ArraysSupport -/
def k20 : Class := { plain "jdk/internal/util/ArraysSupport" (some 0) with
  accessFlags := 33
  interfaces := #[]
  cf := some (fileOf pool20 21 #[] #[{ accessFlags := 2, nameIndex := 9, descriptorIndex := 19, attributes := #[] }, { accessFlags := 9, nameIndex := 351, descriptorIndex := 352, attributes := #[] }] 33 16 #[] #[{ accessFlags := 24, nameIndex := 28, descriptorIndex := 29, attributes := #[] }, { accessFlags := 26, nameIndex := 38, descriptorIndex := 39, attributes := #[] }, { accessFlags := 25, nameIndex := 121, descriptorIndex := 25, attributes := #[] }, { accessFlags := 25, nameIndex := 131, descriptorIndex := 25, attributes := #[] }, { accessFlags := 25, nameIndex := 137, descriptorIndex := 25, attributes := #[] }, { accessFlags := 25, nameIndex := 143, descriptorIndex := 25, attributes := #[] }, { accessFlags := 25, nameIndex := 53, descriptorIndex := 25, attributes := #[] }, { accessFlags := 25, nameIndex := 24, descriptorIndex := 25, attributes := #[] }, { accessFlags := 25, nameIndex := 162, descriptorIndex := 25, attributes := #[] }, { accessFlags := 25, nameIndex := 187, descriptorIndex := 25, attributes := #[] }, { accessFlags := 26, nameIndex := 48, descriptorIndex := 25, attributes := #[] }, { accessFlags := 25, nameIndex := 277, descriptorIndex := 25, attributes := #[] }, { accessFlags := 25, nameIndex := 280, descriptorIndex := 25, attributes := #[] }, { accessFlags := 25, nameIndex := 282, descriptorIndex := 25, attributes := #[] }, { accessFlags := 25, nameIndex := 284, descriptorIndex := 25, attributes := #[] }, { accessFlags := 25, nameIndex := 286, descriptorIndex := 25, attributes := #[] }, { accessFlags := 25, nameIndex := 288, descriptorIndex := 25, attributes := #[] }, { accessFlags := 25, nameIndex := 290, descriptorIndex := 25, attributes := #[] }, { accessFlags := 25, nameIndex := 292, descriptorIndex := 25, attributes := #[] }, { accessFlags := 26, nameIndex := 108, descriptorIndex := 109, attributes := #[] }, { accessFlags := 25, nameIndex := 294, descriptorIndex := 25, attributes := #[] }])
  fields := #[{ name := "U", type := (.object "jdk/internal/misc/Unsafe"), accessFlags := 24, slot := 0, constantValue := 0 }, { name := "BIG_ENDIAN", type := .boolean, accessFlags := 26, slot := 1, constantValue := 0 }, { name := "LOG2_ARRAY_BOOLEAN_INDEX_SCALE", type := .int, accessFlags := 25, slot := 2, constantValue := 0 }, { name := "LOG2_ARRAY_BYTE_INDEX_SCALE", type := .int, accessFlags := 25, slot := 3, constantValue := 0 }, { name := "LOG2_ARRAY_CHAR_INDEX_SCALE", type := .int, accessFlags := 25, slot := 4, constantValue := 0 }, { name := "LOG2_ARRAY_SHORT_INDEX_SCALE", type := .int, accessFlags := 25, slot := 5, constantValue := 0 }, { name := "LOG2_ARRAY_INT_INDEX_SCALE", type := .int, accessFlags := 25, slot := 6, constantValue := 0 }, { name := "LOG2_ARRAY_LONG_INDEX_SCALE", type := .int, accessFlags := 25, slot := 7, constantValue := 0 }, { name := "LOG2_ARRAY_FLOAT_INDEX_SCALE", type := .int, accessFlags := 25, slot := 8, constantValue := 0 }, { name := "LOG2_ARRAY_DOUBLE_INDEX_SCALE", type := .int, accessFlags := 25, slot := 9, constantValue := 0 }, { name := "LOG2_BYTE_BIT_SIZE", type := .int, accessFlags := 26, slot := 10, constantValue := 0 }, { name := "T_BOOLEAN", type := .int, accessFlags := 25, slot := 11, constantValue := 0 }, { name := "T_CHAR", type := .int, accessFlags := 25, slot := 12, constantValue := 0 }, { name := "T_FLOAT", type := .int, accessFlags := 25, slot := 13, constantValue := 0 }, { name := "T_DOUBLE", type := .int, accessFlags := 25, slot := 14, constantValue := 0 }, { name := "T_BYTE", type := .int, accessFlags := 25, slot := 15, constantValue := 0 }, { name := "T_SHORT", type := .int, accessFlags := 25, slot := 16, constantValue := 0 }, { name := "T_INT", type := .int, accessFlags := 25, slot := 17, constantValue := 0 }, { name := "T_LONG", type := .int, accessFlags := 25, slot := 18, constantValue := 0 }, { name := "JLA", type := (.object "jdk/internal/access/JavaLangAccess"), accessFlags := 26, slot := 19, constantValue := 0 }, { name := "SOFT_MAX_ARRAY_LENGTH", type := .int, accessFlags := 25, slot := 20, constantValue := 0 }]
  methods := #[k20m0, k20m1]
  instanceTypes := #[]
  staticTypes := #[(.object "jdk/internal/misc/Unsafe"), .boolean, .int, .int, .int, .int, .int, .int, .int, .int, .int, .int, .int, .int, .int, .int, .int, .int, .int, (.object "jdk/internal/access/JavaLangAccess"), .int]
  resolved := Array.replicate 378 none
  statics := none }

/-- the primitive byte -/
def k21 : Class := { plain "byte" none with kind := .primitive 'B', accessFlags := 0x411 }
/-- [B -/
def k22 : Class := { plain "[B" (some 0) with kind := .array 21 .byte, interfaces := #[19, 2], accessFlags := 1041 }

/-- the primitive char -/
def k23 : Class := { plain "char" none with kind := .primitive 'C', accessFlags := 0x411 }
/-- [C -/
def k24 : Class := { plain "[C" (some 0) with kind := .array 23 .char, interfaces := #[19, 2], accessFlags := 1041 }

/-- the primitive int -/
def k25 : Class := { plain "int" none with kind := .primitive 'I', accessFlags := 0x411 }
/-- [I -/
def k26 : Class := { plain "[I" (some 0) with kind := .array 25 .int, interfaces := #[19, 2], accessFlags := 1041 }

def heap : Heap := #[{ cls := 7, slots := #[.long 0, .int 1, .null, .int 0, .null, .int 0, .int 0], vm := .statics 7 },
  { cls := 17, slots := #[.null, .null, .null], vm := .statics 17 }]
def classes : Array Class := #[k0, k1, k2, k3, k4, k5, k6, k7, k8, k9, k10, k11, k12, k13, k14, k15, k16, k17, k18, k19, k20, k21, k22, k23, k24, k25, k26]
def interned : List (Array UInt16 × Addr) := []
def slotsUsed : Nat := 10
def theMethod : MethodId := ⟨1, 3⟩
def args0 : Array Value := #[.int 66051, .int 1181443, .int 131587]
def aboutOver (below : List Frame) : State where
  vm := { classes := classes, interned := interned.toArray }
  heap := heap
  slotsUsed := slotsUsed
  threads := #[{ frames := .invoking theMethod args0 :: below }]
def below0 : List Frame := [.native { method := ⟨0, 0⟩, args := #[] }]
def about1 : State := aboutOver below0
def p0 : Program := .bare "" "" ""
def e0 : Env := launch0.env 0 0 0
theorem w_frames : about1.frames = Frame.invoking theMethod args0 :: below0 := rfl
set_option maxRecDepth 65536 in
theorem w_args : argsFit about1.vm theMethod args0 = true := by decide +kernel
set_option maxRecDepth 65536 in
theorem w_heap : heapFits about1 = true := by decide +kernel
set_option maxRecDepth 65536 in
theorem w_runnable : about1.curStatus? = some .runnable := by decide +kernel
set_option maxRecDepth 65536 in
theorem w_alone : about1.alone = true := by decide +kernel
set_option maxRecDepth 65536 in
theorem w_named : about1.methodNamed? x = some theMethod := by decide +kernel
set_option maxRecDepth 65536 in
theorem w_hears : about1.hears theMethod below0 = true := by decide +kernel
set_option maxRecDepth 65536 in
theorem w_ripe : about1.ripe theMethod args0 below0 = true := by decide +kernel
theorem w_running : about1.status = .running := rfl
set_option maxRecDepth 65536 in
theorem w_room : about1.hasRoom e0.platform room_1 = true :=
  launch0.hasRoom_least _ room_1 (by decide +kernel) (by decide +kernel) (by decide +kernel) (by decide +kernel) (by decide +kernel) (by decide +kernel)
theorem allAtoms_all (ts : List Jvm.Cond) (a : Array Jvm.Value) (st : Jvm.State) : (allAtoms ts).before a st = ts.all (fun c => c.before a st) := by
  induction ts with
  | nil => rfl
  | cons c t ih =>
    show (Jvm.Cond.and c (allAtoms t)).before a st = _
    rw [Jvm.Cond.before_and, ih, List.all_cons]
def words1 : List Jvm.Cond := Jvm.Cond.code x code maxLocals ret :: tables_1
/-- a 'code' word, met by the world's own term for the bytes: nothing is compared byte by byte -/
theorem code_word {y : MethodName} {bytes : ByteArray} {mx : Nat} {rt : Option FieldType} {a : Array Value} {s : State} {m : MethodId} {meth : Method} {c : Code} (h1 : s.methodNamed? y = some m) (h2 : s.vm.method? m = some meth) (h3 : meth.code = some c) (h4 : c.code = bytes)
    (h5 : (c.maxLocals == mx && c.exceptionTable.isEmpty && decide (c.maxStack ≤ mostOperands) && decide (meth.sig.returnType = rt) && !meth.locks && decide (parseMethodDescriptor y.desc = some meth.sig)) = true) : (Jvm.Cond.code y bytes mx rt).before a s = true := by
  simp only [Bool.and_eq_true, beq_iff_eq, Bool.not_eq_true', decide_eq_true_eq] at h5
  obtain ⟨⟨⟨⟨⟨g1, g2⟩, g3⟩, g4⟩, g5⟩, g6⟩ := h5
  simp [Cond.before, Cond.holds, Cond.value, h1, h2, h3, h4, g1, g2, g3, g4, g5, g6]
def isCode : Jvm.Cond → Bool
  | .code _ _ _ _ => true
  | _ => false
theorem all_split {L : List Jvm.Cond} {P : Jvm.Cond → Bool} (h1 : L.all (fun c => isCode c || P c) = true) (h2 : ∀ c ∈ L.filter isCode, P c = true) : L.all P = true := by
  refine List.all_eq_true.mpr fun c hc => ?_
  have h := List.all_eq_true.mp h1 c hc
  rcases Bool.eq_false_or_eq_true (isCode c) with hi | hi
  · exact h2 c (List.mem_filter.mpr ⟨hc, hi⟩)
  · simpa [hi] using h
set_option maxRecDepth 65536 in
theorem w_c0 : (Jvm.Cond.code x code maxLocals ret).before args0 about1 = true := code_word (m := ⟨1, 3⟩) (meth := k1m3) (c := k1c3) (by decide +kernel) rfl rfl rfl (by decide +kernel)
set_option maxRecDepth 65536 in
theorem w_c1 : (Jvm.Cond.code ({ cls := "com/example/cadi/cadi/OriginSaysPinLaw", name := "mk", desc := "(ICC)Ljava/lang/String;" } : Jvm.MethodName) method_2_code (3 : Nat) (Option.some (Jvm.ClassFile.FieldType.object "java/lang/String"))).before args0 about1 = true := code_word (m := ⟨1, 1⟩) (meth := k1m1) (c := k1c1) (by decide +kernel) rfl rfl rfl (by decide +kernel)
set_option maxRecDepth 65536 in
theorem w_c2 : (Jvm.Cond.code ({ cls := "java/lang/String", name := "<init>", desc := "([C)V" } : Jvm.MethodName) jdk_42_method_3_code (2 : Nat) (Option.none : Option Jvm.ClassFile.FieldType)).before args0 about1 = true := code_word (m := ⟨7, 1⟩) (meth := k7m1) (c := k7c1) (by decide +kernel) rfl rfl rfl (by decide +kernel)
set_option maxRecDepth 65536 in
theorem w_c3 : (Jvm.Cond.code ({ cls := "java/lang/String", name := "<init>", desc := "([CIILjava/lang/Void;)V" } : Jvm.MethodName) jdk_42_method_149_code (6 : Nat) (Option.none : Option Jvm.ClassFile.FieldType)).before args0 about1 = true := code_word (m := ⟨7, 7⟩) (meth := k7m7) (c := k7c7) (by decide +kernel) rfl rfl rfl (by decide +kernel)
set_option maxRecDepth 65536 in
theorem w_c4 : (Jvm.Cond.code ({ cls := "java/lang/Object", name := "<init>", desc := "()V" } : Jvm.MethodName) object_method_1_code (1 : Nat) (Option.none : Option Jvm.ClassFile.FieldType)).before args0 about1 = true := code_word (m := ⟨0, 0⟩) (meth := k0m0) (c := k0c0) (by decide +kernel) rfl rfl rfl (by decide +kernel)
set_option maxRecDepth 65536 in
theorem w_c5 : (Jvm.Cond.code ({ cls := "com/example/cadi/cadi/Origin", name := "<init>", desc := "(Ljava/lang/String;)V" } : Jvm.MethodName) prog_34_method_1_code (2 : Nat) (Option.none : Option Jvm.ClassFile.FieldType)).before args0 about1 = true := code_word (m := ⟨9, 0⟩) (meth := k9m0) (c := k9c0) (by decide +kernel) rfl rfl rfl (by decide +kernel)
set_option maxRecDepth 65536 in
theorem w_c6 : (Jvm.Cond.code ({ cls := "java/lang/Record", name := "<init>", desc := "()V" } : Jvm.MethodName) jdk_30_method_1_code (1 : Nat) (Option.none : Option Jvm.ClassFile.FieldType)).before args0 about1 = true := code_word (m := ⟨8, 0⟩) (meth := k8m0) (c := k8c0) (by decide +kernel) rfl rfl rfl (by decide +kernel)
set_option maxRecDepth 65536 in
theorem w_c7 : (Jvm.Cond.code ({ cls := "com/example/cadi/cadi/Origin", name := "says", desc := "(Ljava/lang/String;Ljava/lang/String;)Ljava/lang/String;" } : Jvm.MethodName) prog_34_method_7_code (3 : Nat) (Option.some (Jvm.ClassFile.FieldType.object "java/lang/String"))).before args0 about1 = true := code_word (m := ⟨9, 1⟩) (meth := k9m1) (c := k9c1) (by decide +kernel) rfl rfl rfl (by decide +kernel)
set_option maxRecDepth 65536 in
theorem w_c8 : (Jvm.Cond.code ({ cls := "java/lang/StringBuilder", name := "<init>", desc := "()V" } : Jvm.MethodName) jdk_67_method_1_code (1 : Nat) (Option.none : Option Jvm.ClassFile.FieldType)).before args0 about1 = true := code_word (m := ⟨12, 0⟩) (meth := k12m0) (c := k12c0) (by decide +kernel) rfl rfl rfl (by decide +kernel)
set_option maxRecDepth 65536 in
theorem w_c9 : (Jvm.Cond.code ({ cls := "java/lang/AbstractStringBuilder", name := "<init>", desc := "(I)V" } : Jvm.MethodName) jdk_68_method_2_code (2 : Nat) (Option.none : Option Jvm.ClassFile.FieldType)).before args0 about1 = true := code_word (m := ⟨11, 1⟩) (meth := k11m1) (c := k11c1) (by decide +kernel) rfl rfl rfl (by decide +kernel)
set_option maxRecDepth 65536 in
theorem w_c10 : (Jvm.Cond.code ({ cls := "java/lang/StringBuilder", name := "append", desc := "(Ljava/lang/Object;)Ljava/lang/StringBuilder;" } : Jvm.MethodName) jdk_67_method_6_code (2 : Nat) (Option.some (Jvm.ClassFile.FieldType.object "java/lang/StringBuilder"))).before args0 about1 = true := code_word (m := ⟨12, 1⟩) (meth := k12m1) (c := k12c1) (by decide +kernel) rfl rfl rfl (by decide +kernel)
set_option maxRecDepth 65536 in
theorem w_c11 : (Jvm.Cond.code ({ cls := "java/lang/String", name := "valueOf", desc := "(Ljava/lang/Object;)Ljava/lang/String;" } : Jvm.MethodName) jdk_42_method_133_code (1 : Nat) (Option.some (Jvm.ClassFile.FieldType.object "java/lang/String"))).before args0 about1 = true := code_word (m := ⟨7, 5⟩) (meth := k7m5) (c := k7c5) (by decide +kernel) rfl rfl rfl (by decide +kernel)
set_option maxRecDepth 65536 in
theorem w_c12 : (Jvm.Cond.code ({ cls := "com/example/cadi/cadi/Origin", name := "toString", desc := "()Ljava/lang/String;" } : Jvm.MethodName) prog_34_method_8_code (1 : Nat) (Option.some (Jvm.ClassFile.FieldType.object "java/lang/String"))).before args0 about1 = true := code_word (m := ⟨9, 2⟩) (meth := k9m2) (c := k9c2) (by decide +kernel) rfl rfl rfl (by decide +kernel)
set_option maxRecDepth 65536 in
theorem w_c13 : (Jvm.Cond.code ({ cls := "java/lang/StringBuilder", name := "append", desc := "(Ljava/lang/String;)Ljava/lang/StringBuilder;" } : Jvm.MethodName) jdk_67_method_7_code (2 : Nat) (Option.some (Jvm.ClassFile.FieldType.object "java/lang/StringBuilder"))).before args0 about1 = true := code_word (m := ⟨12, 2⟩) (meth := k12m2) (c := k12c2) (by decide +kernel) rfl rfl rfl (by decide +kernel)
set_option maxRecDepth 65536 in
theorem w_c14 : (Jvm.Cond.code ({ cls := "java/lang/AbstractStringBuilder", name := "append", desc := "(Ljava/lang/String;)Ljava/lang/AbstractStringBuilder;" } : Jvm.MethodName) jdk_68_method_22_code (3 : Nat) (Option.some (Jvm.ClassFile.FieldType.object "java/lang/AbstractStringBuilder"))).before args0 about1 = true := code_word (m := ⟨11, 5⟩) (meth := k11m5) (c := k11c5) (by decide +kernel) rfl rfl rfl (by decide +kernel)
set_option maxRecDepth 65536 in
theorem w_c15 : (Jvm.Cond.code ({ cls := "java/lang/String", name := "length", desc := "()I" } : Jvm.MethodName) jdk_42_method_54_code (1 : Nat) (Option.some Jvm.ClassFile.FieldType.int)).before args0 about1 = true := code_word (m := ⟨7, 3⟩) (meth := k7m3) (c := k7c3) (by decide +kernel) rfl rfl rfl (by decide +kernel)
set_option maxRecDepth 65536 in
theorem w_c16 : (Jvm.Cond.code ({ cls := "java/lang/String", name := "coder", desc := "()B" } : Jvm.MethodName) jdk_42_method_152_code (1 : Nat) (Option.some Jvm.ClassFile.FieldType.byte)).before args0 about1 = true := code_word (m := ⟨7, 9⟩) (meth := k7m9) (c := k7c9) (by decide +kernel) rfl rfl rfl (by decide +kernel)
set_option maxRecDepth 65536 in
theorem w_c17 : (Jvm.Cond.code ({ cls := "java/lang/AbstractStringBuilder", name := "ensureCapacityInternal", desc := "(I)V" } : Jvm.MethodName) jdk_68_method_9_code (3 : Nat) (Option.none : Option Jvm.ClassFile.FieldType)).before args0 about1 = true := code_word (m := ⟨11, 3⟩) (meth := k11m3) (c := k11c3) (by decide +kernel) rfl rfl rfl (by decide +kernel)
set_option maxRecDepth 65536 in
theorem w_c18 : (Jvm.Cond.code ({ cls := "java/lang/AbstractStringBuilder", name := "putStringAt", desc := "(ILjava/lang/String;)V" } : Jvm.MethodName) jdk_68_method_73_code (3 : Nat) (Option.none : Option Jvm.ClassFile.FieldType)).before args0 about1 = true := code_word (m := ⟨11, 9⟩) (meth := k11m9) (c := k11c9) (by decide +kernel) rfl rfl rfl (by decide +kernel)
set_option maxRecDepth 65536 in
theorem w_c19 : (Jvm.Cond.code ({ cls := "java/lang/AbstractStringBuilder", name := "inflateIfNeededFor", desc := "(Ljava/lang/String;)V" } : Jvm.MethodName) jdk_68_method_71_code (2 : Nat) (Option.none : Option Jvm.ClassFile.FieldType)).before args0 about1 = true := code_word (m := ⟨11, 8⟩) (meth := k11m8) (c := k11c8) (by decide +kernel) rfl rfl rfl (by decide +kernel)
set_option maxRecDepth 65536 in
theorem w_c20 : (Jvm.Cond.code ({ cls := "java/lang/String", name := "getBytes", desc := "([BIB)V" } : Jvm.MethodName) jdk_42_method_147_code (4 : Nat) (Option.none : Option Jvm.ClassFile.FieldType)).before args0 about1 = true := code_word (m := ⟨7, 6⟩) (meth := k7m6) (c := k7c6) (by decide +kernel) rfl rfl rfl (by decide +kernel)
set_option maxRecDepth 65536 in
theorem w_c21 : (Jvm.Cond.code ({ cls := "java/lang/StringBuilder", name := "toString", desc := "()Ljava/lang/String;" } : Jvm.MethodName) jdk_67_method_42_code (1 : Nat) (Option.some (Jvm.ClassFile.FieldType.object "java/lang/String"))).before args0 about1 = true := code_word (m := ⟨12, 3⟩) (meth := k12m3) (c := k12c3) (by decide +kernel) rfl rfl rfl (by decide +kernel)
set_option maxRecDepth 65536 in
theorem w_c22 : (Jvm.Cond.code ({ cls := "java/lang/String", name := "<init>", desc := "(Ljava/lang/StringBuilder;)V" } : Jvm.MethodName) jdk_42_method_53_code (2 : Nat) (Option.none : Option Jvm.ClassFile.FieldType)).before args0 about1 = true := code_word (m := ⟨7, 2⟩) (meth := k7m2) (c := k7c2) (by decide +kernel) rfl rfl rfl (by decide +kernel)
set_option maxRecDepth 65536 in
theorem w_c23 : (Jvm.Cond.code ({ cls := "java/lang/String", name := "<init>", desc := "(Ljava/lang/AbstractStringBuilder;Ljava/lang/Void;)V" } : Jvm.MethodName) jdk_42_method_150_code (5 : Nat) (Option.none : Option Jvm.ClassFile.FieldType)).before args0 about1 = true := code_word (m := ⟨7, 8⟩) (meth := k7m8) (c := k7c8) (by decide +kernel) rfl rfl rfl (by decide +kernel)
set_option maxRecDepth 65536 in
theorem w_c24 : (Jvm.Cond.code ({ cls := "java/lang/AbstractStringBuilder", name := "getValue", desc := "()[B" } : Jvm.MethodName) jdk_68_method_64_code (1 : Nat) (Option.some (Jvm.ClassFile.FieldType.array Jvm.ClassFile.FieldType.byte))).before args0 about1 = true := code_word (m := ⟨11, 6⟩) (meth := k11m6) (c := k11c6) (by decide +kernel) rfl rfl rfl (by decide +kernel)
set_option maxRecDepth 65536 in
theorem w_c25 : (Jvm.Cond.code ({ cls := "java/lang/StringBuilder", name := "length", desc := "()I" } : Jvm.MethodName) jdk_67_method_93_code (1 : Nat) (Option.some Jvm.ClassFile.FieldType.int)).before args0 about1 = true := code_word (m := ⟨12, 4⟩) (meth := k12m4) (c := k12c4) (by decide +kernel) rfl rfl rfl (by decide +kernel)
set_option maxRecDepth 65536 in
theorem w_c26 : (Jvm.Cond.code ({ cls := "java/lang/AbstractStringBuilder", name := "length", desc := "()I" } : Jvm.MethodName) jdk_68_method_6_code (1 : Nat) (Option.some Jvm.ClassFile.FieldType.int)).before args0 about1 = true := code_word (m := ⟨11, 2⟩) (meth := k11m2) (c := k11c2) (by decide +kernel) rfl rfl rfl (by decide +kernel)
set_option maxRecDepth 65536 in
theorem w_c27 : (Jvm.Cond.code ({ cls := "java/lang/AbstractStringBuilder", name := "isLatin1", desc := "()Z" } : Jvm.MethodName) jdk_68_method_68_code (1 : Nat) (Option.some Jvm.ClassFile.FieldType.boolean)).before args0 about1 = true := code_word (m := ⟨11, 7⟩) (meth := k11m7) (c := k11c7) (by decide +kernel) rfl rfl rfl (by decide +kernel)
set_option maxRecDepth 65536 in
theorem w_c28 : (Jvm.Cond.code ({ cls := "java/util/Arrays", name := "copyOfRange", desc := "([BII)[B" } : Jvm.MethodName) jdk_65_method_132_code (3 : Nat) (Option.some (Jvm.ClassFile.FieldType.array Jvm.ClassFile.FieldType.byte))).before args0 about1 = true := code_word (m := ⟨14, 3⟩) (meth := k14m3) (c := k14c3) (by decide +kernel) rfl rfl rfl (by decide +kernel)
set_option maxRecDepth 65536 in
theorem w_c29 : (Jvm.Cond.code ({ cls := "java/util/Arrays", name := "copyOfRangeByte", desc := "([BII)[B" } : Jvm.MethodName) jdk_65_method_133_code (5 : Nat) (Option.some (Jvm.ClassFile.FieldType.array Jvm.ClassFile.FieldType.byte))).before args0 about1 = true := code_word (m := ⟨14, 4⟩) (meth := k14m4) (c := k14c4) (by decide +kernel) rfl rfl rfl (by decide +kernel)
set_option maxRecDepth 65536 in
theorem w_c30 : (Jvm.Cond.code ({ cls := "java/util/Arrays", name := "checkLength", desc := "(II)V" } : Jvm.MethodName) jdk_65_method_131_code (2 : Nat) (Option.none : Option Jvm.ClassFile.FieldType)).before args0 about1 = true := code_word (m := ⟨14, 2⟩) (meth := k14m2) (c := k14c2) (by decide +kernel) rfl rfl rfl (by decide +kernel)
set_option maxRecDepth 65536 in
theorem w_c31 : (Jvm.Cond.code ({ cls := "java/lang/Math", name := "min", desc := "(II)I" } : Jvm.MethodName) jdk_29_method_69_code (2 : Nat) (Option.some Jvm.ClassFile.FieldType.int)).before args0 about1 = true := code_word (m := ⟨15, 2⟩) (meth := k15m2) (c := k15c2) (by decide +kernel) rfl rfl rfl (by decide +kernel)
set_option maxRecDepth 65536 in
theorem w_c32 : (Jvm.Cond.code ({ cls := "com/example/cadi/cadi/OriginSaysPinLaw", name := "at", desc := "(Ljava/lang/String;IC)Z" } : Jvm.MethodName) method_3_code (3 : Nat) (Option.some Jvm.ClassFile.FieldType.boolean)).before args0 about1 = true := code_word (m := ⟨1, 2⟩) (meth := k1m2) (c := k1c2) (by decide +kernel) rfl rfl rfl (by decide +kernel)
set_option maxRecDepth 65536 in
theorem w_c33 : (Jvm.Cond.code ({ cls := "java/lang/String", name := "charAt", desc := "(I)C" } : Jvm.MethodName) jdk_42_method_56_code (2 : Nat) (Option.some Jvm.ClassFile.FieldType.char)).before args0 about1 = true := code_word (m := ⟨7, 4⟩) (meth := k7m4) (c := k7c4) (by decide +kernel) rfl rfl rfl (by decide +kernel)
set_option maxRecDepth 65536 in
theorem w_c34 : (Jvm.Cond.code ({ cls := "java/lang/String", name := "isLatin1", desc := "()Z" } : Jvm.MethodName) jdk_42_method_154_code (1 : Nat) (Option.some Jvm.ClassFile.FieldType.boolean)).before args0 about1 = true := code_word (m := ⟨7, 10⟩) (meth := k7m10) (c := k7c10) (by decide +kernel) rfl rfl rfl (by decide +kernel)
set_option maxRecDepth 65536 in
theorem w_c35 : (Jvm.Cond.code ({ cls := "java/lang/StringLatin1", name := "charAt", desc := "([BI)C" } : Jvm.MethodName) jdk_43_method_2_code (2 : Nat) (Option.some Jvm.ClassFile.FieldType.char)).before args0 about1 = true := code_word (m := ⟨16, 1⟩) (meth := k16m1) (c := k16c1) (by decide +kernel) rfl rfl rfl (by decide +kernel)
set_option maxRecDepth 65536 in
theorem w_c36 : (Jvm.Cond.code ({ cls := "java/lang/String", name := "checkIndex", desc := "(II)V" } : Jvm.MethodName) jdk_42_method_155_code (2 : Nat) (Option.none : Option Jvm.ClassFile.FieldType)).before args0 about1 = true := code_word (m := ⟨7, 11⟩) (meth := k7m11) (c := k7c11) (by decide +kernel) rfl rfl rfl (by decide +kernel)
set_option maxRecDepth 65536 in
theorem w_c37 : (Jvm.Cond.code ({ cls := "jdk/internal/util/Preconditions", name := "checkIndex", desc := "(IILjava/util/function/BiFunction;)I" } : Jvm.MethodName) jdk_41_method_11_code (3 : Nat) (Option.some Jvm.ClassFile.FieldType.int)).before args0 about1 = true := code_word (m := ⟨17, 1⟩) (meth := k17m1) (c := k17c1) (by decide +kernel) rfl rfl rfl (by decide +kernel)
set_option maxRecDepth 65536 in
theorem w_c38 : (Jvm.Cond.code ({ cls := "java/lang/StringUTF16", name := "compress", desc := "([CII)[B" } : Jvm.MethodName) jdk_52_method_16_code (6 : Nat) (Option.some (Jvm.ClassFile.FieldType.array Jvm.ClassFile.FieldType.byte))).before args0 about1 = true := code_word (m := ⟨18, 2⟩) (meth := k18m2) (c := k18c2) (by decide +kernel) rfl rfl rfl (by decide +kernel)
set_option maxRecDepth 65536 in
theorem w_c39 : (Jvm.Cond.code ({ cls := "java/lang/StringUTF16", name := "compress", desc := "([CI[BII)I" } : Jvm.MethodName) jdk_52_method_21_code (7 : Nat) (Option.some Jvm.ClassFile.FieldType.int)).before args0 about1 = true := code_word (m := ⟨18, 3⟩) (meth := k18m3) (c := k18c3) (by decide +kernel) rfl rfl rfl (by decide +kernel)
set_option maxRecDepth 65536 in
theorem w_c40 : (Jvm.Cond.code ({ cls := "java/lang/StringUTF16", name := "coderFromArrayLen", desc := "([BI)B" } : Jvm.MethodName) jdk_52_method_15_code (2 : Nat) (Option.some Jvm.ClassFile.FieldType.byte)).before args0 about1 = true := code_word (m := ⟨18, 1⟩) (meth := k18m1) (c := k18c1) (by decide +kernel) rfl rfl rfl (by decide +kernel)
set_option maxRecDepth 65536 in
theorem w_c41 : (Jvm.Cond.code ({ cls := "java/lang/AbstractStringBuilder", name := "newCapacity", desc := "(I)I" } : Jvm.MethodName) jdk_68_method_10_code (6 : Nat) (Option.some Jvm.ClassFile.FieldType.int)).before args0 about1 = true := code_word (m := ⟨11, 4⟩) (meth := k11m4) (c := k11c4) (by decide +kernel) rfl rfl rfl (by decide +kernel)
set_option maxRecDepth 65536 in
theorem w_c42 : (Jvm.Cond.code ({ cls := "jdk/internal/util/ArraysSupport", name := "newLength", desc := "(III)I" } : Jvm.MethodName) jdk_48_method_27_code (4 : Nat) (Option.some Jvm.ClassFile.FieldType.int)).before args0 about1 = true := code_word (m := ⟨20, 1⟩) (meth := k20m1) (c := k20c1) (by decide +kernel) rfl rfl rfl (by decide +kernel)
set_option maxRecDepth 65536 in
theorem w_c43 : (Jvm.Cond.code ({ cls := "java/lang/Math", name := "max", desc := "(II)I" } : Jvm.MethodName) jdk_29_method_65_code (2 : Nat) (Option.some Jvm.ClassFile.FieldType.int)).before args0 about1 = true := code_word (m := ⟨15, 1⟩) (meth := k15m1) (c := k15c1) (by decide +kernel) rfl rfl rfl (by decide +kernel)
set_option maxRecDepth 65536 in
theorem w_c44 : (Jvm.Cond.code ({ cls := "java/util/Arrays", name := "copyOf", desc := "([BI)[B" } : Jvm.MethodName) jdk_65_method_121_code (3 : Nat) (Option.some (Jvm.ClassFile.FieldType.array Jvm.ClassFile.FieldType.byte))).before args0 about1 = true := code_word (m := ⟨14, 1⟩) (meth := k14m1) (c := k14c1) (by decide +kernel) rfl rfl rfl (by decide +kernel)
def codes1 : List Jvm.Cond := [Jvm.Cond.code x code maxLocals ret, Jvm.Cond.code ({ cls := "com/example/cadi/cadi/OriginSaysPinLaw", name := "mk", desc := "(ICC)Ljava/lang/String;" } : Jvm.MethodName) method_2_code (3 : Nat) (Option.some (Jvm.ClassFile.FieldType.object "java/lang/String")), Jvm.Cond.code ({ cls := "java/lang/String", name := "<init>", desc := "([C)V" } : Jvm.MethodName) jdk_42_method_3_code (2 : Nat) (Option.none : Option Jvm.ClassFile.FieldType), Jvm.Cond.code ({ cls := "java/lang/String", name := "<init>", desc := "([CIILjava/lang/Void;)V" } : Jvm.MethodName) jdk_42_method_149_code (6 : Nat) (Option.none : Option Jvm.ClassFile.FieldType), Jvm.Cond.code ({ cls := "java/lang/Object", name := "<init>", desc := "()V" } : Jvm.MethodName) object_method_1_code (1 : Nat) (Option.none : Option Jvm.ClassFile.FieldType), Jvm.Cond.code ({ cls := "com/example/cadi/cadi/Origin", name := "<init>", desc := "(Ljava/lang/String;)V" } : Jvm.MethodName) prog_34_method_1_code (2 : Nat) (Option.none : Option Jvm.ClassFile.FieldType), Jvm.Cond.code ({ cls := "java/lang/Record", name := "<init>", desc := "()V" } : Jvm.MethodName) jdk_30_method_1_code (1 : Nat) (Option.none : Option Jvm.ClassFile.FieldType), Jvm.Cond.code ({ cls := "com/example/cadi/cadi/Origin", name := "says", desc := "(Ljava/lang/String;Ljava/lang/String;)Ljava/lang/String;" } : Jvm.MethodName) prog_34_method_7_code (3 : Nat) (Option.some (Jvm.ClassFile.FieldType.object "java/lang/String")), Jvm.Cond.code ({ cls := "java/lang/StringBuilder", name := "<init>", desc := "()V" } : Jvm.MethodName) jdk_67_method_1_code (1 : Nat) (Option.none : Option Jvm.ClassFile.FieldType), Jvm.Cond.code ({ cls := "java/lang/AbstractStringBuilder", name := "<init>", desc := "(I)V" } : Jvm.MethodName) jdk_68_method_2_code (2 : Nat) (Option.none : Option Jvm.ClassFile.FieldType), Jvm.Cond.code ({ cls := "java/lang/StringBuilder", name := "append", desc := "(Ljava/lang/Object;)Ljava/lang/StringBuilder;" } : Jvm.MethodName) jdk_67_method_6_code (2 : Nat) (Option.some (Jvm.ClassFile.FieldType.object "java/lang/StringBuilder")), Jvm.Cond.code ({ cls := "java/lang/String", name := "valueOf", desc := "(Ljava/lang/Object;)Ljava/lang/String;" } : Jvm.MethodName) jdk_42_method_133_code (1 : Nat) (Option.some (Jvm.ClassFile.FieldType.object "java/lang/String")), Jvm.Cond.code ({ cls := "com/example/cadi/cadi/Origin", name := "toString", desc := "()Ljava/lang/String;" } : Jvm.MethodName) prog_34_method_8_code (1 : Nat) (Option.some (Jvm.ClassFile.FieldType.object "java/lang/String")), Jvm.Cond.code ({ cls := "java/lang/StringBuilder", name := "append", desc := "(Ljava/lang/String;)Ljava/lang/StringBuilder;" } : Jvm.MethodName) jdk_67_method_7_code (2 : Nat) (Option.some (Jvm.ClassFile.FieldType.object "java/lang/StringBuilder")), Jvm.Cond.code ({ cls := "java/lang/AbstractStringBuilder", name := "append", desc := "(Ljava/lang/String;)Ljava/lang/AbstractStringBuilder;" } : Jvm.MethodName) jdk_68_method_22_code (3 : Nat) (Option.some (Jvm.ClassFile.FieldType.object "java/lang/AbstractStringBuilder")), Jvm.Cond.code ({ cls := "java/lang/String", name := "length", desc := "()I" } : Jvm.MethodName) jdk_42_method_54_code (1 : Nat) (Option.some Jvm.ClassFile.FieldType.int), Jvm.Cond.code ({ cls := "java/lang/String", name := "coder", desc := "()B" } : Jvm.MethodName) jdk_42_method_152_code (1 : Nat) (Option.some Jvm.ClassFile.FieldType.byte), Jvm.Cond.code ({ cls := "java/lang/AbstractStringBuilder", name := "ensureCapacityInternal", desc := "(I)V" } : Jvm.MethodName) jdk_68_method_9_code (3 : Nat) (Option.none : Option Jvm.ClassFile.FieldType), Jvm.Cond.code ({ cls := "java/lang/AbstractStringBuilder", name := "putStringAt", desc := "(ILjava/lang/String;)V" } : Jvm.MethodName) jdk_68_method_73_code (3 : Nat) (Option.none : Option Jvm.ClassFile.FieldType), Jvm.Cond.code ({ cls := "java/lang/AbstractStringBuilder", name := "inflateIfNeededFor", desc := "(Ljava/lang/String;)V" } : Jvm.MethodName) jdk_68_method_71_code (2 : Nat) (Option.none : Option Jvm.ClassFile.FieldType), Jvm.Cond.code ({ cls := "java/lang/String", name := "getBytes", desc := "([BIB)V" } : Jvm.MethodName) jdk_42_method_147_code (4 : Nat) (Option.none : Option Jvm.ClassFile.FieldType), Jvm.Cond.code ({ cls := "java/lang/StringBuilder", name := "toString", desc := "()Ljava/lang/String;" } : Jvm.MethodName) jdk_67_method_42_code (1 : Nat) (Option.some (Jvm.ClassFile.FieldType.object "java/lang/String")), Jvm.Cond.code ({ cls := "java/lang/String", name := "<init>", desc := "(Ljava/lang/StringBuilder;)V" } : Jvm.MethodName) jdk_42_method_53_code (2 : Nat) (Option.none : Option Jvm.ClassFile.FieldType), Jvm.Cond.code ({ cls := "java/lang/String", name := "<init>", desc := "(Ljava/lang/AbstractStringBuilder;Ljava/lang/Void;)V" } : Jvm.MethodName) jdk_42_method_150_code (5 : Nat) (Option.none : Option Jvm.ClassFile.FieldType), Jvm.Cond.code ({ cls := "java/lang/AbstractStringBuilder", name := "getValue", desc := "()[B" } : Jvm.MethodName) jdk_68_method_64_code (1 : Nat) (Option.some (Jvm.ClassFile.FieldType.array Jvm.ClassFile.FieldType.byte)), Jvm.Cond.code ({ cls := "java/lang/StringBuilder", name := "length", desc := "()I" } : Jvm.MethodName) jdk_67_method_93_code (1 : Nat) (Option.some Jvm.ClassFile.FieldType.int), Jvm.Cond.code ({ cls := "java/lang/AbstractStringBuilder", name := "length", desc := "()I" } : Jvm.MethodName) jdk_68_method_6_code (1 : Nat) (Option.some Jvm.ClassFile.FieldType.int), Jvm.Cond.code ({ cls := "java/lang/AbstractStringBuilder", name := "isLatin1", desc := "()Z" } : Jvm.MethodName) jdk_68_method_68_code (1 : Nat) (Option.some Jvm.ClassFile.FieldType.boolean), Jvm.Cond.code ({ cls := "java/util/Arrays", name := "copyOfRange", desc := "([BII)[B" } : Jvm.MethodName) jdk_65_method_132_code (3 : Nat) (Option.some (Jvm.ClassFile.FieldType.array Jvm.ClassFile.FieldType.byte)), Jvm.Cond.code ({ cls := "java/util/Arrays", name := "copyOfRangeByte", desc := "([BII)[B" } : Jvm.MethodName) jdk_65_method_133_code (5 : Nat) (Option.some (Jvm.ClassFile.FieldType.array Jvm.ClassFile.FieldType.byte)), Jvm.Cond.code ({ cls := "java/util/Arrays", name := "checkLength", desc := "(II)V" } : Jvm.MethodName) jdk_65_method_131_code (2 : Nat) (Option.none : Option Jvm.ClassFile.FieldType), Jvm.Cond.code ({ cls := "java/lang/Math", name := "min", desc := "(II)I" } : Jvm.MethodName) jdk_29_method_69_code (2 : Nat) (Option.some Jvm.ClassFile.FieldType.int), Jvm.Cond.code ({ cls := "com/example/cadi/cadi/OriginSaysPinLaw", name := "at", desc := "(Ljava/lang/String;IC)Z" } : Jvm.MethodName) method_3_code (3 : Nat) (Option.some Jvm.ClassFile.FieldType.boolean), Jvm.Cond.code ({ cls := "java/lang/String", name := "charAt", desc := "(I)C" } : Jvm.MethodName) jdk_42_method_56_code (2 : Nat) (Option.some Jvm.ClassFile.FieldType.char), Jvm.Cond.code ({ cls := "java/lang/String", name := "isLatin1", desc := "()Z" } : Jvm.MethodName) jdk_42_method_154_code (1 : Nat) (Option.some Jvm.ClassFile.FieldType.boolean), Jvm.Cond.code ({ cls := "java/lang/StringLatin1", name := "charAt", desc := "([BI)C" } : Jvm.MethodName) jdk_43_method_2_code (2 : Nat) (Option.some Jvm.ClassFile.FieldType.char), Jvm.Cond.code ({ cls := "java/lang/String", name := "checkIndex", desc := "(II)V" } : Jvm.MethodName) jdk_42_method_155_code (2 : Nat) (Option.none : Option Jvm.ClassFile.FieldType), Jvm.Cond.code ({ cls := "jdk/internal/util/Preconditions", name := "checkIndex", desc := "(IILjava/util/function/BiFunction;)I" } : Jvm.MethodName) jdk_41_method_11_code (3 : Nat) (Option.some Jvm.ClassFile.FieldType.int), Jvm.Cond.code ({ cls := "java/lang/StringUTF16", name := "compress", desc := "([CII)[B" } : Jvm.MethodName) jdk_52_method_16_code (6 : Nat) (Option.some (Jvm.ClassFile.FieldType.array Jvm.ClassFile.FieldType.byte)), Jvm.Cond.code ({ cls := "java/lang/StringUTF16", name := "compress", desc := "([CI[BII)I" } : Jvm.MethodName) jdk_52_method_21_code (7 : Nat) (Option.some Jvm.ClassFile.FieldType.int), Jvm.Cond.code ({ cls := "java/lang/StringUTF16", name := "coderFromArrayLen", desc := "([BI)B" } : Jvm.MethodName) jdk_52_method_15_code (2 : Nat) (Option.some Jvm.ClassFile.FieldType.byte), Jvm.Cond.code ({ cls := "java/lang/AbstractStringBuilder", name := "newCapacity", desc := "(I)I" } : Jvm.MethodName) jdk_68_method_10_code (6 : Nat) (Option.some Jvm.ClassFile.FieldType.int), Jvm.Cond.code ({ cls := "jdk/internal/util/ArraysSupport", name := "newLength", desc := "(III)I" } : Jvm.MethodName) jdk_48_method_27_code (4 : Nat) (Option.some Jvm.ClassFile.FieldType.int), Jvm.Cond.code ({ cls := "java/lang/Math", name := "max", desc := "(II)I" } : Jvm.MethodName) jdk_29_method_65_code (2 : Nat) (Option.some Jvm.ClassFile.FieldType.int), Jvm.Cond.code ({ cls := "java/util/Arrays", name := "copyOf", desc := "([BI)[B" } : Jvm.MethodName) jdk_65_method_121_code (3 : Nat) (Option.some (Jvm.ClassFile.FieldType.array Jvm.ClassFile.FieldType.byte))]
set_option maxRecDepth 65536 in
theorem codes_eq : words1.filter isCode = codes1 := rfl
theorem w_codes : ∀ c ∈ words1.filter isCode, c.before args0 about1 = true := by
  rw [codes_eq]
  intro c hc
  simp only [codes1, List.mem_cons, List.not_mem_nil, or_false] at hc
  rcases hc with rfl | rfl | rfl | rfl | rfl | rfl | rfl | rfl | rfl | rfl | rfl | rfl | rfl | rfl | rfl | rfl | rfl | rfl | rfl | rfl | rfl | rfl | rfl | rfl | rfl | rfl | rfl | rfl | rfl | rfl | rfl | rfl | rfl | rfl | rfl | rfl | rfl | rfl | rfl | rfl | rfl | rfl | rfl | rfl | rfl
  · exact w_c0
  · exact w_c1
  · exact w_c2
  · exact w_c3
  · exact w_c4
  · exact w_c5
  · exact w_c6
  · exact w_c7
  · exact w_c8
  · exact w_c9
  · exact w_c10
  · exact w_c11
  · exact w_c12
  · exact w_c13
  · exact w_c14
  · exact w_c15
  · exact w_c16
  · exact w_c17
  · exact w_c18
  · exact w_c19
  · exact w_c20
  · exact w_c21
  · exact w_c22
  · exact w_c23
  · exact w_c24
  · exact w_c25
  · exact w_c26
  · exact w_c27
  · exact w_c28
  · exact w_c29
  · exact w_c30
  · exact w_c31
  · exact w_c32
  · exact w_c33
  · exact w_c34
  · exact w_c35
  · exact w_c36
  · exact w_c37
  · exact w_c38
  · exact w_c39
  · exact w_c40
  · exact w_c41
  · exact w_c42
  · exact w_c43
  · exact w_c44
set_option maxRecDepth 65536 in
theorem w_t1 : (words1.take 24).all (fun c => isCode c || c.before args0 about1) = true := by decide +kernel
set_option maxRecDepth 65536 in
theorem w_t2 : ((words1.drop 24).take 24).all (fun c => isCode c || c.before args0 about1) = true := by decide +kernel
set_option maxRecDepth 65536 in
theorem w_t3 : (((words1.drop 24).drop 24).take 24).all (fun c => isCode c || c.before args0 about1) = true := by decide +kernel
set_option maxRecDepth 65536 in
theorem w_t4 : ((((words1.drop 24).drop 24).drop 24).take 24).all (fun c => isCode c || c.before args0 about1) = true := by decide +kernel
set_option maxRecDepth 65536 in
theorem w_t5 : (((((words1.drop 24).drop 24).drop 24).drop 24).take 24).all (fun c => isCode c || c.before args0 about1) = true := by decide +kernel
set_option maxRecDepth 65536 in
theorem w_t6 : ((((((words1.drop 24).drop 24).drop 24).drop 24).drop 24).take 24).all (fun c => isCode c || c.before args0 about1) = true := by decide +kernel
set_option maxRecDepth 65536 in
theorem w_t7 : (((((((words1.drop 24).drop 24).drop 24).drop 24).drop 24).drop 24).take 24).all (fun c => isCode c || c.before args0 about1) = true := by decide +kernel
set_option maxRecDepth 65536 in
theorem w_t8 : ((((((((words1.drop 24).drop 24).drop 24).drop 24).drop 24).drop 24).drop 24).take 24).all (fun c => isCode c || c.before args0 about1) = true := by decide +kernel
set_option maxRecDepth 65536 in
theorem w_t9 : (((((((((words1.drop 24).drop 24).drop 24).drop 24).drop 24).drop 24).drop 24).drop 24).take 24).all (fun c => isCode c || c.before args0 about1) = true := by decide +kernel
set_option maxRecDepth 65536 in
theorem w_t10 : (((((((((words1.drop 24).drop 24).drop 24).drop 24).drop 24).drop 24).drop 24).drop 24).drop 24).all (fun c => isCode c || c.before args0 about1) = true := by decide +kernel
theorem w_tables : (allAtoms (Jvm.Cond.code x code maxLocals ret :: tables_1)).before args0 about1 = true := by
  rw [allAtoms_all]
  show words1.all (fun c => c.before args0 about1) = true
  refine all_split ?_ w_codes
  rw [← List.take_append_drop 24 words1, List.all_append, w_t1, ← List.take_append_drop 24 (words1.drop 24), List.all_append, w_t2, ← List.take_append_drop 24 ((words1.drop 24).drop 24), List.all_append, w_t3, ← List.take_append_drop 24 (((words1.drop 24).drop 24).drop 24), List.all_append, w_t4, ← List.take_append_drop 24 ((((words1.drop 24).drop 24).drop 24).drop 24), List.all_append, w_t5, ← List.take_append_drop 24 (((((words1.drop 24).drop 24).drop 24).drop 24).drop 24), List.all_append, w_t6, ← List.take_append_drop 24 ((((((words1.drop 24).drop 24).drop 24).drop 24).drop 24).drop 24), List.all_append, w_t7, ← List.take_append_drop 24 (((((((words1.drop 24).drop 24).drop 24).drop 24).drop 24).drop 24).drop 24), List.all_append, w_t8, ← List.take_append_drop 24 ((((((((words1.drop 24).drop 24).drop 24).drop 24).drop 24).drop 24).drop 24).drop 24), List.all_append, w_t9, w_t10]
  rfl
set_option maxRecDepth 65536 in
theorem w_rest : rest_1_c.before args0 about1 = true := by decide +kernel
set_option maxRecDepth 65536 in
theorem w_case : (Jvm.Cond.and given_1 narrow_1).before args0 about1 = true := by decide +kernel
set_option maxRecDepth 65536 in
theorem w_consts : constsHeld consts_1 about1 := Jvm.Lit.constsHeldB_iff.mp (by decide +kernel)
theorem w_applies : (headSpec (Jvm.Cond.code x code maxLocals ret :: tables_1) room_1).applies x e0.platform about1 = true :=
  (Spec.applies_iff w_frames).mpr ⟨w_running, w_runnable, w_alone, w_named, w_hears, w_ripe, w_room, w_tables⟩
theorem atStart : AtStart classFile x code maxLocals ret World_1 tables_1 room_1 Calls_1 rest_1 Pre_1 launch0 p0 e0 about1 theMethod args0 below0 :=
  ⟨lists_1, trivial, launch0.admits_env _ _ _, launch0.least_env, fairChoices_fair.cas, fairChoices_fair.clock, w_frames, w_args, w_heap, w_applies, ⟨w_consts, trivial⟩, w_rest, w_case⟩
end start1
theorem witness_1 : WitnessClaimed_1 := ⟨start1.p0, start1.e0, start1.about1, start1.theMethod, start1.args0, start1.below0, start1.atStart⟩
end Jvm.Pilot.@@N@@
