import JvmDerived
import JvmDerived.Pilot.@@N@@Statement
import JvmDerived.Pilot.@@N@@Code
set_option linter.unusedVariables false
set_option linter.unusedSimpArgs false
namespace Jvm.OwnKit
open Jvm Jvm.ClassFile Sem Op Lib Jvm.Free Jvm.Stand Jvm.LawKit Jvm.RoadKit Bundle
/-- what is known of the body at hand -/
def Me (p : Program) (meth : Method) (c : Code) (nm : String) (bytes : ByteArray) (maxL : Nat) (ret : Option FieldType) : Prop :=
  p.tables.exec = Jvm.exec ∧ c.code = bytes ∧ c.maxLocals = maxL ∧ meth.sig.returnType = ret ∧ meth.locks = false ∧ meth.name = nm
/-- the walk stands at T, whose heap is h; ss: addresses that are no booked constant's -/
def Wk (p : Program) (l : Launch) (e : Env) (R : Room) (s : State) (m : MethodId) (args : Array Value) (below : List Frame) (meth : Method) (c : Code)
    (Z : State) (EL : List (String × Nat)) (kn : Bool) (own : String) (T : State) (h : Heap) (ss : List Addr) (cells slots : Nat) : Prop :=
  ∃ (vm0 : Vm) (locs : List Loc) (k0 : Nat), Stand p l e R (s.setVm vm0) m args below meth c T locs cells slots ∧ T.heap = h ∧ Z.Warmed39 vm0 ∧ s.Since vm0 k0 ∧ k0 ≤ h.size ∧
    vm0.findClass own = some m.cls ∧ Fr Z.heap.size locs ∧ Old Z Z.heap.size h ∧ CHr Z EL s.vm s.heap vm0 h ∧ (∀ x ∈ ss, x < h.size ∧ Safe Z EL vm0 h x) ∧ (kn = true → vm0.MethodsKnown ∧ vm0.FramesKnown below)
/-- what may be written at U -/
def SF (Z : State) (EL : List (String × Nat)) (U : State) : Addr → Prop := fun x => x < U.heap.size ∧ Safe Z EL U.vm U.heap x
/-- from T at g the body comes to its end, with P of what it returns and of the heap -/
def Fi (p : Program) (e : Env) (below : List Frame) (s Z : State) (EL : List (String × Nat)) (kc ks : Nat) (P : Option Value → Heap → (Addr → Prop) → Prop) (T : State) (g : JFrame) : Prop :=
  ∃ (s₂ : State) (v : Option Value) (L : List Loc), Steps p.tables e below (T.setTop g) s₂ ∧ s₂.status = .running ∧ Ended s₂ below (.returned v) ∧ P v s₂.heap (SF Z EL s₂) ∧ Fr Z.heap.size L ∧
    Old Z Z.heap.size s₂.heap ∧ CHr Z EL s.vm s.heap s₂.vm s₂.heap ∧ ReturnedEndW s (.returned v) s₂ L kc ks
/-- a method's contract at given arguments and heap -/
def Con (l : Launch) (Z : State) (EL : List (String × Nat)) (kn : Bool) (ws : List Cond) (y : MethodName) (bytes : ByteArray) (maxL : Nat) (ret : Option FieldType) (rm : Room) (as' : Array Value) (h0 : Heap) (ss : List Addr)
    (P : Option Value → Heap → (Addr → Prop) → Prop) : Prop :=
  MetFree l y (head1 (Cond.code y bytes maxL ret :: ws) rm) (fun a U => a = as' ∧ Z.Warmed39 U.vm ∧ U.heap = h0 ∧ CHv Z EL U.vm h0 ∧ (∀ x ∈ ss, x < h0.size ∧ Safe Z EL U.vm h0 x))
    (fun _ _ bl U _ => kn = true → U.vm.MethodsKnown ∧ U.vm.FramesKnown bl)
    (fun _ U o U' => ∃ v L, o = .returned v ∧ (P v U'.heap (SF Z EL U') ∧ Fr Z.heap.size L ∧ Old Z Z.heap.size U'.heap) ∧ CHr Z EL U.vm U.heap U'.vm U'.heap ∧ ReturnedEndW U o U' L rm.cells rm.slots)
def rV (P : Value → Heap → Prop) : Option Value → Heap → (Addr → Prop) → Prop := fun v h _ => ∃ w, v = some w ∧ P w h
def rU (P : Heap → Prop) : Option Value → Heap → (Addr → Prop) → Prop := fun v h _ => v = none ∧ P h
/-- the same, with what may be written behind it -/
def rVs (P : Value → Heap → (Addr → Prop) → Prop) : Option Value → Heap → (Addr → Prop) → Prop := fun v h sf => ∃ w, v = some w ∧ P w h sf
def rUs (P : Heap → (Addr → Prop) → Prop) : Option Value → Heap → (Addr → Prop) → Prop := fun v h sf => v = none ∧ P h sf
/-- an address that may be written -/
def Sf (Z : State) (h : Heap) (ss : List Addr) (a : Addr) : Prop :=
  a ∈ ss ∨ (∃ C, Exa Z h a C ∧ C ≠ "java/lang/String" ∧ C ≠ "[B") ∨ (∃ cl ty, Arr Z h a cl ty ∧ ty ≠ .byte)
section Kit
variable {p : Program} {l : Launch} {e : Env} {R : Room} {s : State} {m : MethodId} {args : Array Value} {below : List Frame} {meth : Method} {c : Code} {Z : State} {a0 : Array Value} {EL : List (String × Nat)} {kn : Bool} {own : String}
  {T : State} {h h' h2 : Heap} {ss : List Addr} {cells slots : Nat} {nm : String} {bytes : ByteArray} {maxL : Nat} {ret : Option FieldType} {kc ks : Nat} {P : Option Value → Heap → (Addr → Prop) → Prop} {pc : Nat} {Ls : Array Slot} {st : List Value}
theorem Me.x (me : Me p meth c nm bytes maxL ret) : p.tables.exec = Jvm.exec := me.1
theorem Me.b (me : Me p meth c nm bytes maxL ret) : c.code = bytes := me.2.1
theorem Me.ml (me : Me p meth c nm bytes maxL ret) : c.maxLocals = maxL := me.2.2.1
theorem Me.r (me : Me p meth c nm bytes maxL ret) : meth.sig.returnType = ret := me.2.2.2.1
theorem Me.k (me : Me p meth c nm bytes maxL ret) : meth.locks = false := me.2.2.2.2.1
theorem Me.n (me : Me p meth c nm bytes maxL ret) : meth.name = nm := me.2.2.2.2.2
theorem Fi.step {T' : State} {g g' : JFrame} (k : ∀ t, Steps p.tables e below (T'.setTop g') t → Steps p.tables e below (T.setTop g) t) (F : Fi p e below s Z EL kc ks P T' g') : Fi p e below s Z EL kc ks P T g := by
  obtain ⟨s₂, v, L, h1, r⟩ := F
  exact ⟨s₂, v, L, k _ h1, r⟩
theorem Fi.mono {P' : Option Value → Heap → (Addr → Prop) → Prop} {g : JFrame} (F : Fi p e below s Z EL kc ks P T g) (q : ∀ v h sf, P v h sf → P' v h sf) : Fi p e below s Z EL kc ks P' T g := by
  obtain ⟨s₂, v, L, h1, h2, h3, h4, r⟩ := F
  exact ⟨s₂, v, L, h1, h2, h3, q _ _ _ h4, r⟩
theorem Wk.heap (W : Wk p l e R s m args below meth c Z EL kn own T h ss cells slots) : T.heap = h := by obtain ⟨_, _, _, -, e, -⟩ := W; exact e
theorem Wk.here (W : Wk p l e R s m args below meth c Z EL kn own T h ss cells slots) : At T m c below := by obtain ⟨_, _, _, X, -⟩ := W; exact X.here
theorem Wk.old (W : Wk p l e R s m args below meth c Z EL kn own T h ss cells slots) : Old Z Z.heap.size h := by obtain ⟨_, _, _, -, -, -, -, -, -, -, O, -⟩ := W; exact O
theorem Wk.more {cells' slots' : Nat} (W : Wk p l e R s m args below meth c Z EL kn own T h ss cells slots) (hc : cells ≤ cells') (hs : slots ≤ slots') : Wk p l e R s m args below meth c Z EL kn own T h ss cells' slots' := by
  obtain ⟨vm0, locs, k0, X, r⟩ := W; exact ⟨vm0, locs, k0, X.more hc hs, r⟩
theorem Wk.less {ss' : List Addr} (W : Wk p l e R s m args below meth c Z EL kn own T h ss cells slots) (q : ∀ x ∈ ss', x ∈ ss) : Wk p l e R s m args below meth c Z EL kn own T h ss' cells slots := by
  obtain ⟨vm0, locs, k0, h1, h2, h3, h4, h5, h6, h7, h8, h9, h10, h11⟩ := W; exact ⟨vm0, locs, k0, h1, h2, h3, h4, h5, h6, h7, h8, h9, fun x hx => h10 x (q x hx), h11⟩
theorem ReturnedEndW.mono {s t : State} {o : Outcome} {L : List Loc} {k n k' n' : Nat} (q : ReturnedEndW s o t L k n) (hk : k ≤ k') (hn : n ≤ n') : ReturnedEndW s o t L k' n' := ⟨q.1, q.2.1, q.2.2.1, q.2.2.2.mono hk hn⟩
theorem Wk.leave (W : Wk p l e R s m args below meth c Z EL kn own T h ss cells slots) (hEL : EW Z a0 EL) (me : Me p meth c nm bytes maxL ret) (hc : cells ≤ kc) (hs : slots ≤ ks) {v : Option Value} (hv : ret = none → v = none) {g : JFrame}
    (hst : ∀ {vm0 : Vm} {locs : List Loc} (X : Stand p l e R (s.setVm vm0) m args below meth c T locs cells slots) {fs : List Frame}, (∀ (f : JFrame) (acts : List Action), f.method = m → f.locked = none → f.entered = [] → (doReturn e (T.setTop f) acts v).1 = T.setFrames fs) → Steps p.tables e below (T.setTop g) (T.setFrames fs))
    (hP : ∀ sf : Addr → Prop, (∀ x ∈ ss, sf x) → P v h sf) : Fi p e below s Z EL kc ks P T g := by
  obtain ⟨vm0, locs, k0, X, eT, hZ, hS, hk, hown, N, O, C, hss, -⟩ := W
  have hk' := me.k
  obtain ⟨fs, hr, hrun, hend, hR⟩ := X.leaveW hS (by rw [eT]; exact hk) (v := v) (fun q => hv (me.r ▸ q)) hk'
  subst eT
  have C1 := CHv.at X hZ hEL C.1
  exact ⟨T.setFrames fs, v, locs, hst X hr, hrun, hend, hP _ (fun x hx => ⟨(hss x hx).1, C1.safe (hss x hx).1 (hss x hx).2⟩), N, O, C.trans C1, ReturnedEndW.mono hR hc hs⟩
theorem Wk.retU (W : Wk p l e R s m args below meth c Z EL kn own T h ss cells slots) (hEL : EW Z a0 EL) (me : Me p meth c nm bytes maxL none) (hd : decode bytes pc = .ok (.return_, 1)) {P : Heap → Prop} (hP : P h) (hc : cells ≤ kc) (hs : slots ≤ ks) :
    Fi p e below s Z EL kc ks (rU P) T (mkF m pc Ls []) :=
  W.leave hEL me hc hs (v := none) (fun _ => rfl) (fun X _ hr => X.returnOut me.x me.r (hb me.b hd) hr) (fun _ _ => ⟨rfl, hP⟩)
theorem Wk.retV {t : FieldType} {w : Value} {i : Instr} (W : Wk p l e R s m args below meth c Z EL kn own T h ss cells slots) (hEL : EW Z a0 EL) (me : Me p meth c nm bytes maxL (some t)) (hd : decode bytes pc = .ok (i, 1)) {P : Value → Heap → Prop} (hP : P w h) (hc : cells ≤ kc) (hs : slots ≤ ks) (hn : narrow t w = w)
    (hi : (i = .ireturn ∧ (t = .int ∨ t = .boolean ∨ t = .byte ∨ t = .char ∨ t = .short) ∧ ∃ z, w = .int z) ∨ (i = .lreturn ∧ t = .long ∧ ∃ z, w = .long z) ∨ (i = .dreturn ∧ t = .double ∧ ∃ z, w = .double z) ∨ (i = .freturn ∧ t = .float ∧ ∃ z, w = .float z) ∨ (i = .areturn ∧ t.isReference = true ∧ w.isRef = true)) :
    Fi p e below s Z EL kc ks (rV P) T (mkF m pc Ls (w :: st)) :=
  W.leave hEL me hc hs (v := some w) (fun q => nomatch q) (fun X _ hr => retOut X me.x me.r hn hi (hb me.b hd) hr) (fun _ _ => ⟨w, rfl, hP⟩)
theorem Wk.retI {z : Int32} (W : Wk p l e R s m args below meth c Z EL kn own T h ss cells slots) (hEL : EW Z a0 EL) (me : Me p meth c nm bytes maxL (some .int)) (hd : decode bytes pc = .ok (.ireturn, 1)) {P : Value → Heap → Prop} (hP : P (.int z) h) (hc : cells ≤ kc) (hs : slots ≤ ks) :
    Fi p e below s Z EL kc ks (rV P) T (mkF m pc Ls (.int z :: st)) := W.retV hEL me hd hP hc hs rfl (Or.inl ⟨rfl, Or.inl rfl, z, rfl⟩)
theorem Wk.retA {w : Value} {t : FieldType} (W : Wk p l e R s m args below meth c Z EL kn own T h ss cells slots) (hEL : EW Z a0 EL) (me : Me p meth c nm bytes maxL (some t)) (hd : decode bytes pc = .ok (.areturn, 1)) {P : Value → Heap → Prop} (hP : P w h) (hc : cells ≤ kc) (hs : slots ≤ ks) (hw : w.isRef = true) (ht : t.isReference = true) (hn : narrow t w = w) :
    Fi p e below s Z EL kc ks (rV P) T (mkF m pc Ls (w :: st)) := W.retV hEL me hd hP hc hs hn (Or.inr (Or.inr (Or.inr (Or.inr ⟨rfl, ht, hw⟩))))
/-- a small int returned: boolean, byte, char, short, as 'nar' keeps it -/
theorem Wk.retN {z : Int32} {t : FieldType} (W : Wk p l e R s m args below meth c Z EL kn own T h ss cells slots) (hEL : EW Z a0 EL) (me : Me p meth c nm bytes maxL (some t)) (ht : t = .boolean ∨ t = .byte ∨ t = .char ∨ t = .short) (hd : decode bytes pc = .ok (.ireturn, 1)) {P : Value → Heap → Prop} (hP : P (.int (nar t z)) h) (hc : cells ≤ kc) (hs : slots ≤ ks) :
    Fi p e below s Z EL kc ks (rV P) T (mkF m pc Ls (.int z :: st)) :=
  W.leave hEL me hc hs (v := some (.int (nar t z))) (fun q => nomatch q) (fun X _ hr => Jvm.RoadKit.retN X me.x me.r ht (hb me.b hd) hr) (fun _ _ => ⟨_, rfl, hP⟩)
theorem Wk.retUs (W : Wk p l e R s m args below meth c Z EL kn own T h ss cells slots) (hEL : EW Z a0 EL) (me : Me p meth c nm bytes maxL none) (hd : decode bytes pc = .ok (.return_, 1)) {P : Heap → (Addr → Prop) → Prop} (hP : ∀ sf : Addr → Prop, (∀ x ∈ ss, sf x) → P h sf) (hc : cells ≤ kc) (hs : slots ≤ ks) :
    Fi p e below s Z EL kc ks (rUs P) T (mkF m pc Ls []) :=
  W.leave hEL me hc hs (v := none) (fun _ => rfl) (fun X _ hr => X.returnOut me.x me.r (hb me.b hd) hr) (fun sf q => ⟨rfl, hP sf q⟩)
theorem Wk.retAs {w : Value} {t : FieldType} (W : Wk p l e R s m args below meth c Z EL kn own T h ss cells slots) (hEL : EW Z a0 EL) (me : Me p meth c nm bytes maxL (some t)) (hd : decode bytes pc = .ok (.areturn, 1)) {P : Value → Heap → (Addr → Prop) → Prop} (hP : ∀ sf : Addr → Prop, (∀ x ∈ ss, sf x) → P w h sf) (hc : cells ≤ kc) (hs : slots ≤ ks) (hw : w.isRef = true) (ht : t.isReference = true) (hn : narrow t w = w) :
    Fi p e below s Z EL kc ks (rVs P) T (mkF m pc Ls (w :: st)) :=
  W.leave hEL me hc hs (v := some w) (fun q => nomatch q) (fun X _ hr => retOut X me.x me.r hn (Or.inr (Or.inr (Or.inr (Or.inr ⟨rfl, ht, hw⟩)))) (hb me.b hd) hr) (fun sf q => ⟨w, rfl, hP sf q⟩)
/-- the contract by its body -/
theorem Con.of {ws : List Cond} {y : MethodName} {rm : Room} {as' : Array Value} (hp : plainFor y = true) (hO : Old Z Z.heap.size h)
    (body : ∀ (p : Program) (e : Env) (s : State) (m : MethodId) (below : List Frame) (meth : Method) (c : Code) (T : State), Me p meth c y.name bytes maxL ret → Wk p l e rm s m as' below meth c Z EL kn y.cls T h ss 0 0 → Fi p e below s Z EL rm.cells rm.slots P T (entryFrame m as' maxL)) :
    Con l Z EL kn ws y bytes maxL ret rm as' h ss P := by
  refine MetFree.of_bodySF hp hisR ?_
  intro p e s m args below meth c s₁ Bd hml0 hP hK
  obtain ⟨rfl, hZ, hh, hC, hS⟩ := hP
  have X0 : Stand p l e rm s m args below meth c s₁ [] 0 0 := Stand.of_body Bd
  have e0 : s₁.heap = h := by rw [← hh, Bd.state]; rfl
  have hown : s.vm.findClass y.cls = some m.cls := findClass_of_methodNamed Bd.named
  have hnm := (name_of_methodNamed Bd.named Bd.method).1
  have W : Wk p l e rm s m args below meth c Z EL kn y.cls s₁ h ss 0 0 := ⟨s.vm, [], 0, X0, e0, hZ, (State.WarmedH.refl s).since 0, Nat.zero_le _, hown, Fr.nil _, hO, by rw [hh]; exact CHr.refl hC, hS, hK⟩
  obtain ⟨s₂, v, L, q1, q2, q3, q4, q5, q6, q7, q8⟩ := body p e s m below meth c s₁ ⟨Bd.exec, Bd.bytes, hml0, Bd.returns, Bd.notSynchronized, hnm⟩ W
  exact ⟨s₂, _, q1, q2, q3, v, L, rfl, ⟨q4, q5, q6⟩, q7, q8⟩
theorem Con.back {y : MethodName} {rm : Room} {as' : Array Value} {vm0 : Vm} {len Wt : Nat} (hM : Con l Z EL kn [] y bytes maxL ret rm as' h ss P) (hZ : Z.Warmed39 vm0) (wc : (Cond.code y bytes maxL ret).before a0 Z = true) (wz : (Cond.initialized y.cls).before a0 Z = true)
    (hf : rm.frames + 1 ≤ R.frames) (hl : Wt + (maxL + 11) + rm.locals ≤ R.locals) (hEL : EW Z a0 EL) (H : CHv Z EL vm0 h) (hS : ∀ x ∈ ss, x < h.size ∧ Safe Z EL vm0 h x) (hK : kn = true → vm0.MethodsKnown ∧ vm0.FramesKnown below) :
    BackS l R p e below (s.setVm vm0) args y len Wt (fun A a => a = as' ∧ A.U.heap = h ∧ A.cells + rm.cells ≤ R.cells ∧ A.slots + rm.slots ≤ R.slots)
      (fun A _ v B => ∃ L, (P v B.U.heap (SF Z EL B.U) ∧ Fr Z.heap.size L ∧ Old Z Z.heap.size B.U.heap) ∧ B.locs = A.locs ++ L ∧ B.cells = A.cells + rm.cells ∧ B.slots = A.slots + rm.slots ∧ CHr Z EL vm0 h B.U.vm B.U.heap) := by
  refine BackS.of_freeWG (bytes := bytes) (maxL := maxL) (ret := ret) (E := fun _ first o t L k n => k = rm.cells ∧ n = rm.slots ∧ (∃ v, o = .returned v ∧ P v t.heap (SF Z EL t) ∧ Fr Z.heap.size L ∧ Old Z Z.heap.size t.heap) ∧ CHr Z EL first.vm first.heap t.vm t.heap) hM hf hl ?_ ?_ ?_ ?_ ?_
  · intro m meth c A a Y hp
    have hU : Z.Warmed39 A.U.vm := wtrans (s := s.setVm vm0) hZ Y.warmed
    exact ⟨by show (Cond.and _ .tt).before a A.U = true; rw [Cond.before_and, mv hU wc]; rfl, mv hU wc, mv hU wz, hp.2.2.1, hp.2.2.2⟩
  · intro m meth c A a g mk Y hp
    have q := CHv.at Y hZ hEL H
    exact ⟨hp.1, wtrans (s := s.setVm vm0) hZ Y.warmed, hp.2.1, q.1, fun x hx => ⟨(hS x hx).1, q.safe (hS x hx).1 (hS x hx).2⟩⟩
  · intro m meth c A a g mk Y _ hg k
    exact known_frames Y hg (hK k).1 (hK k).2
  · rintro _ _ _ _ ⟨v, L, h1, h2, h3, h4⟩
    exact ⟨L, _, _, h4, rfl, rfl, ⟨v, h1, h2⟩, h3⟩
  · rintro m meth c A a g mk v t L k n Y hp _ _ ⟨e1, e2, ⟨v', e3, e4⟩, e5⟩
    cases e3; subst e1 e2
    refine ⟨L, e4, rfl, rfl, rfl, (CHv.at Y hZ hEL H).trans ?_⟩
    rw [← hp.2.1]; exact e5
/-- the walk behind a call that may intern -/
theorem Wk.behind {B : Pt} {vm0 : Vm} {locs L : List Loc} {k0 k n : Nat} (X : Stand p l e R ((s.setVm vm0).setVm B.U.vm) m args below meth c B.U B.locs B.cells B.slots) (hZ : Z.Warmed39 vm0) (hS : s.Since vm0 k0) (hk : k0 ≤ h.size) (hown : vm0.findClass own = some m.cls) (N : Fr Z.heap.size locs) (C : CHr Z EL s.vm s.heap vm0 h)
    (hss : ∀ x ∈ ss, x < h.size ∧ Safe Z EL vm0 h x) (hK : kn = true → vm0.MethodsKnown ∧ vm0.FramesKnown below) (hS2 : (s.setVm vm0).Since B.U.vm B.U.heap.size) (hg : h.size ≤ B.U.heap.size)
    (NL : Fr Z.heap.size L) (O : Old Z Z.heap.size B.U.heap) (e1 : B.locs = locs ++ L) (e2 : B.cells = cells + k) (e3 : B.slots = slots + n) (C2 : CHr Z EL vm0 h B.U.vm B.U.heap) :
    ∀ xs : List Addr, (∀ x ∈ xs, SF Z EL B.U x) → Wk p l e R s m args below meth c Z EL kn own B.U B.U.heap (xs ++ ss) (cells + k) (slots + n) := by
  intro xs hxs
  have hZ' : Z.Warmed39 B.U.vm := State.Warmed39.trans (t := s.setVm vm0) hZ hS2.1
  have hal : vm0.Alike B.U.vm := hS2.1.alike
  refine ⟨B.U.vm, B.locs, _, e3 ▸ e2 ▸ X, rfl, hZ', hS.trans hS2 (Nat.le_trans hk hg), Nat.le_refl _, by rw [hal.findClass]; exact hown, e1 ▸ N.app NL, O, C.trans C2, fun x hx => (List.mem_append.mp hx).elim (hxs x) (fun hx => ⟨Nat.lt_of_lt_of_le (hss x hx).1 hg, C2.safe (hss x hx).1 (hss x hx).2⟩), fun k => ?_⟩
  refine ⟨Vm.MethodsKnown.alikeC hal (hK k).1, ?_⟩
  exact Vm.FramesKnown.alikeC hal (hK k).2
end Kit
end Jvm.OwnKit
namespace Jvm.OwnKit
open Jvm Jvm.ClassFile Sem Op Lib Jvm.Free Jvm.Stand Jvm.LawKit Jvm.RoadKit Bundle
section Steps2
variable {p : Program} {l : Launch} {e : Env} {R : Room} {s : State} {m : MethodId} {args : Array Value} {below : List Frame} {meth : Method} {c : Code} {Z : State} {a0 : Array Value} {EL : List (String × Nat)} {kn : Bool} {own : String}
  {T : State} {h h' h2 : Heap} {ss : List Addr} {cells slots : Nat} {nm : String} {bytes : ByteArray} {maxL : Nat} {ret : Option FieldType} {kc ks : Nat} {P : Option Value → Heap → (Addr → Prop) → Prop} {pc : Nat} {Ls : Array Slot} {st : List Value}
theorem Wk.aloadN (W : Wk p l e R s m args below meth c Z EL kn own T h ss cells slots) (me : Me p meth c nm bytes maxL ret) {k : Fin 4} {v : Value} (hd : decode bytes pc = .ok (.aload_n k, 1)) (hl : Ls[k.val]? = some (.val v)) (hv : v.isRef = true) (F : Fi p e below s Z EL kc ks P T (mkF m (pc + 1) Ls (v :: st))) : Fi p e below s Z EL kc ks P T (mkF m pc Ls st) :=
  F.step fun _ => XS.aloadN W.here me.x rfl (hb me.b hd) hl hv
theorem Wk.aload (W : Wk p l e R s m args below meth c Z EL kn own T h ss cells slots) (me : Me p meth c nm bytes maxL ret) {k : Nat} {v : Value} (hd : decode bytes pc = .ok (.aload k, 2)) (hl : Ls[k]? = some (.val v)) (hv : v.isRef = true) (F : Fi p e below s Z EL kc ks P T (mkF m (pc + 2) Ls (v :: st))) : Fi p e below s Z EL kc ks P T (mkF m pc Ls st) :=
  F.step fun _ => XS.aload W.here me.x rfl (hb me.b hd) hl hv
theorem Wk.iloadN (W : Wk p l e R s m args below meth c Z EL kn own T h ss cells slots) (me : Me p meth c nm bytes maxL ret) {k : Fin 4} {v : Int32} (hd : decode bytes pc = .ok (.iload_n k, 1)) (hl : Ls[k.val]? = some (.val (.int v))) (F : Fi p e below s Z EL kc ks P T (mkF m (pc + 1) Ls (.int v :: st))) : Fi p e below s Z EL kc ks P T (mkF m pc Ls st) :=
  F.step fun _ => XS.iloadN W.here me.x rfl (hb me.b hd) hl
theorem Wk.iload (W : Wk p l e R s m args below meth c Z EL kn own T h ss cells slots) (me : Me p meth c nm bytes maxL ret) {k : Nat} {v : Int32} (hd : decode bytes pc = .ok (.iload k, 2)) (hl : Ls[k]? = some (.val (.int v))) (F : Fi p e below s Z EL kc ks P T (mkF m (pc + 2) Ls (.int v :: st))) : Fi p e below s Z EL kc ks P T (mkF m pc Ls st) :=
  F.step fun _ => XS.iload W.here me.x rfl (hb me.b hd) hl
theorem Wk.lloadN (W : Wk p l e R s m args below meth c Z EL kn own T h ss cells slots) (me : Me p meth c nm bytes maxL ret) {k : Fin 4} {v : Int64} (hd : decode bytes pc = .ok (.lload_n k, 1)) (hl : Ls[k.val]? = some (.val (.long v))) (F : Fi p e below s Z EL kc ks P T (mkF m (pc + 1) Ls (.long v :: st))) : Fi p e below s Z EL kc ks P T (mkF m pc Ls st) :=
  F.step fun _ => XT.lloadN W.here me.x rfl (hb me.b hd) hl
theorem Wk.lload (W : Wk p l e R s m args below meth c Z EL kn own T h ss cells slots) (me : Me p meth c nm bytes maxL ret) {k : Nat} {v : Int64} (hd : decode bytes pc = .ok (.lload k, 2)) (hl : Ls[k]? = some (.val (.long v))) (F : Fi p e below s Z EL kc ks P T (mkF m (pc + 2) Ls (.long v :: st))) : Fi p e below s Z EL kc ks P T (mkF m pc Ls st) :=
  F.step fun _ => XT.lload W.here me.x rfl (hb me.b hd) hl
theorem Wk.istoreN (W : Wk p l e R s m args below meth c Z EL kn own T h ss cells slots) (me : Me p meth c nm bytes maxL ret) {k : Fin 4} {x : Int32} {l' : Array Slot} (hd : decode bytes pc = .ok (.istore_n k, 1)) (hl : storeLocals Ls k.val (.int x) = some l') (F : Fi p e below s Z EL kc ks P T (mkF m (pc + 1) l' st)) : Fi p e below s Z EL kc ks P T (mkF m pc Ls (.int x :: st)) :=
  F.step fun _ => XS.istoreN W.here me.x rfl (hb me.b hd) rfl hl
theorem Wk.istore (W : Wk p l e R s m args below meth c Z EL kn own T h ss cells slots) (me : Me p meth c nm bytes maxL ret) {k : Nat} {x : Int32} {l' : Array Slot} (hd : decode bytes pc = .ok (.istore k, 2)) (hl : storeLocals Ls k (.int x) = some l') (F : Fi p e below s Z EL kc ks P T (mkF m (pc + 2) l' st)) : Fi p e below s Z EL kc ks P T (mkF m pc Ls (.int x :: st)) :=
  F.step fun _ => XS.istore W.here me.x rfl (hb me.b hd) rfl hl
theorem Wk.astoreN (W : Wk p l e R s m args below meth c Z EL kn own T h ss cells slots) (me : Me p meth c nm bytes maxL ret) {k : Fin 4} {x : Value} {l' : Array Slot} (hd : decode bytes pc = .ok (.astore_n k, 1)) (hv : x.isRef = true) (hl : storeLocals Ls k.val x = some l') (F : Fi p e below s Z EL kc ks P T (mkF m (pc + 1) l' st)) : Fi p e below s Z EL kc ks P T (mkF m pc Ls (x :: st)) :=
  F.step fun _ => XS.astoreN W.here me.x rfl (hb me.b hd) rfl hv hl
theorem Wk.astore (W : Wk p l e R s m args below meth c Z EL kn own T h ss cells slots) (me : Me p meth c nm bytes maxL ret) {k : Nat} {x : Value} {l' : Array Slot} (hd : decode bytes pc = .ok (.astore k, 2)) (hv : x.isRef = true) (hl : storeLocals Ls k x = some l') (F : Fi p e below s Z EL kc ks P T (mkF m (pc + 2) l' st)) : Fi p e below s Z EL kc ks P T (mkF m pc Ls (x :: st)) :=
  F.step fun _ => XS.astore W.here me.x rfl (hb me.b hd) rfl hv hl
theorem Wk.lstoreN (W : Wk p l e R s m args below meth c Z EL kn own T h ss cells slots) (me : Me p meth c nm bytes maxL ret) {k : Fin 4} {x : Int64} {l' : Array Slot} (hd : decode bytes pc = .ok (.lstore_n k, 1)) (hl : storeLocals Ls k.val (.long x) = some l') (F : Fi p e below s Z EL kc ks P T (mkF m (pc + 1) l' st)) : Fi p e below s Z EL kc ks P T (mkF m pc Ls (.long x :: st)) :=
  F.step fun _ => XT.lstoreN W.here me.x rfl (hb me.b hd) rfl hl
theorem Wk.lstore (W : Wk p l e R s m args below meth c Z EL kn own T h ss cells slots) (me : Me p meth c nm bytes maxL ret) {k : Nat} {x : Int64} {l' : Array Slot} (hd : decode bytes pc = .ok (.lstore k, 2)) (hl : storeLocals Ls k (.long x) = some l') (F : Fi p e below s Z EL kc ks P T (mkF m (pc + 2) l' st)) : Fi p e below s Z EL kc ks P T (mkF m pc Ls (.long x :: st)) :=
  F.step fun _ => XT.lstore W.here me.x rfl (hb me.b hd) rfl hl
theorem Wk.iconst (W : Wk p l e R s m args below meth c Z EL kn own T h ss cells slots) (me : Me p meth c nm bytes maxL ret) {i : Int} {v : Int32} (hd : decode bytes pc = .ok (.iconst i, 1)) (hv : Int32.ofInt i = v) (F : Fi p e below s Z EL kc ks P T (mkF m (pc + 1) Ls (.int v :: st))) : Fi p e below s Z EL kc ks P T (mkF m pc Ls st) :=
  F.step fun _ => XT.iconstV W.here me.x rfl v (hb me.b hd) hv
theorem Wk.bipush (W : Wk p l e R s m args below meth c Z EL kn own T h ss cells slots) (me : Me p meth c nm bytes maxL ret) {i : Int} {v : Int32} (hd : decode bytes pc = .ok (.bipush i, 2)) (hv : (Int8.ofInt i).toInt32 = v) (F : Fi p e below s Z EL kc ks P T (mkF m (pc + 2) Ls (.int v :: st))) : Fi p e below s Z EL kc ks P T (mkF m pc Ls st) :=
  F.step fun _ => XT.bipushV W.here me.x rfl v (hb me.b hd) hv
theorem Wk.sipush (W : Wk p l e R s m args below meth c Z EL kn own T h ss cells slots) (me : Me p meth c nm bytes maxL ret) {i : Int} {v : Int32} (hd : decode bytes pc = .ok (.sipush i, 3)) (hv : (Int16.ofInt i).toInt32 = v) (F : Fi p e below s Z EL kc ks P T (mkF m (pc + 3) Ls (.int v :: st))) : Fi p e below s Z EL kc ks P T (mkF m pc Ls st) :=
  F.step fun _ => XT.sipushV W.here me.x rfl v (hb me.b hd) hv
theorem Wk.aconstNull (W : Wk p l e R s m args below meth c Z EL kn own T h ss cells slots) (me : Me p meth c nm bytes maxL ret)  (hd : decode bytes pc = .ok (.aconst_null, 1))  (F : Fi p e below s Z EL kc ks P T (mkF m (pc + 1) Ls (.null :: st))) : Fi p e below s Z EL kc ks P T (mkF m pc Ls st) :=
  F.step fun _ => XS.aconstNull W.here me.x rfl (hb me.b hd) 
theorem Wk.iadd (W : Wk p l e R s m args below meth c Z EL kn own T h ss cells slots) (me : Me p meth c nm bytes maxL ret) {x y : Int32} (hd : decode bytes pc = .ok (.iadd, 1))  (F : Fi p e below s Z EL kc ks P T (mkF m (pc + 1) Ls (.int (x + y) :: st))) : Fi p e below s Z EL kc ks P T (mkF m pc Ls (.int y :: .int x :: st)) :=
  F.step fun _ => XS.iadd W.here me.x rfl (hb me.b hd) rfl
theorem Wk.isub (W : Wk p l e R s m args below meth c Z EL kn own T h ss cells slots) (me : Me p meth c nm bytes maxL ret) {x y : Int32} (hd : decode bytes pc = .ok (.isub, 1))  (F : Fi p e below s Z EL kc ks P T (mkF m (pc + 1) Ls (.int (x - y) :: st))) : Fi p e below s Z EL kc ks P T (mkF m pc Ls (.int y :: .int x :: st)) :=
  F.step fun _ => XS.isub W.here me.x rfl (hb me.b hd) rfl
theorem Wk.imul (W : Wk p l e R s m args below meth c Z EL kn own T h ss cells slots) (me : Me p meth c nm bytes maxL ret) {x y : Int32} (hd : decode bytes pc = .ok (.imul, 1))  (F : Fi p e below s Z EL kc ks P T (mkF m (pc + 1) Ls (.int (x * y) :: st))) : Fi p e below s Z EL kc ks P T (mkF m pc Ls (.int y :: .int x :: st)) :=
  F.step fun _ => XS.imul W.here me.x rfl (hb me.b hd) rfl
theorem Wk.iand (W : Wk p l e R s m args below meth c Z EL kn own T h ss cells slots) (me : Me p meth c nm bytes maxL ret) {x y : Int32} (hd : decode bytes pc = .ok (.iand, 1))  (F : Fi p e below s Z EL kc ks P T (mkF m (pc + 1) Ls (.int (x &&& y) :: st))) : Fi p e below s Z EL kc ks P T (mkF m pc Ls (.int y :: .int x :: st)) :=
  F.step fun _ => XS.iand W.here me.x rfl (hb me.b hd) rfl
theorem Wk.ior (W : Wk p l e R s m args below meth c Z EL kn own T h ss cells slots) (me : Me p meth c nm bytes maxL ret) {x y : Int32} (hd : decode bytes pc = .ok (.ior, 1))  (F : Fi p e below s Z EL kc ks P T (mkF m (pc + 1) Ls (.int (x ||| y) :: st))) : Fi p e below s Z EL kc ks P T (mkF m pc Ls (.int y :: .int x :: st)) :=
  F.step fun _ => XT.ior W.here me.x rfl (hb me.b hd) rfl
theorem Wk.ixor (W : Wk p l e R s m args below meth c Z EL kn own T h ss cells slots) (me : Me p meth c nm bytes maxL ret) {x y : Int32} (hd : decode bytes pc = .ok (.ixor, 1))  (F : Fi p e below s Z EL kc ks P T (mkF m (pc + 1) Ls (.int (x ^^^ y) :: st))) : Fi p e below s Z EL kc ks P T (mkF m pc Ls (.int y :: .int x :: st)) :=
  F.step fun _ => XT.ixor W.here me.x rfl (hb me.b hd) rfl
theorem Wk.ishl (W : Wk p l e R s m args below meth c Z EL kn own T h ss cells slots) (me : Me p meth c nm bytes maxL ret) {x y : Int32} (hd : decode bytes pc = .ok (.ishl, 1))  (F : Fi p e below s Z EL kc ks P T (mkF m (pc + 1) Ls (.int (x <<< (y &&& 31)) :: st))) : Fi p e below s Z EL kc ks P T (mkF m pc Ls (.int y :: .int x :: st)) :=
  F.step fun _ => XT.ishl W.here me.x rfl (hb me.b hd) rfl
theorem Wk.ishr (W : Wk p l e R s m args below meth c Z EL kn own T h ss cells slots) (me : Me p meth c nm bytes maxL ret) {x y : Int32} (hd : decode bytes pc = .ok (.ishr, 1))  (F : Fi p e below s Z EL kc ks P T (mkF m (pc + 1) Ls (.int (x >>> (y &&& 31)) :: st))) : Fi p e below s Z EL kc ks P T (mkF m pc Ls (.int y :: .int x :: st)) :=
  F.step fun _ => XT.ishr W.here me.x rfl (hb me.b hd) rfl
theorem Wk.iushr (W : Wk p l e R s m args below meth c Z EL kn own T h ss cells slots) (me : Me p meth c nm bytes maxL ret) {x y : Int32} (hd : decode bytes pc = .ok (.iushr, 1))  (F : Fi p e below s Z EL kc ks P T (mkF m (pc + 1) Ls (.int (XT.ushr x y) :: st))) : Fi p e below s Z EL kc ks P T (mkF m pc Ls (.int y :: .int x :: st)) :=
  F.step fun _ => XT.iushr W.here me.x rfl (hb me.b hd) rfl
theorem Wk.irem (W : Wk p l e R s m args below meth c Z EL kn own T h ss cells slots) (me : Me p meth c nm bytes maxL ret) {x y : Int32} (hd : decode bytes pc = .ok (.irem, 1)) (hy : y ≠ 0) (F : Fi p e below s Z EL kc ks P T (mkF m (pc + 1) Ls (.int (x % y) :: st))) : Fi p e below s Z EL kc ks P T (mkF m pc Ls (.int y :: .int x :: st)) := by
  obtain ⟨vm0, locs, k0, X, -⟩ := W
  exact F.step fun _ => iremM X me.x rfl (hb me.b hd) rfl hy
theorem Wk.ladd (W : Wk p l e R s m args below meth c Z EL kn own T h ss cells slots) (me : Me p meth c nm bytes maxL ret) {x y : Int64} (hd : decode bytes pc = .ok (.ladd, 1))  (F : Fi p e below s Z EL kc ks P T (mkF m (pc + 1) Ls (.long (x + y) :: st))) : Fi p e below s Z EL kc ks P T (mkF m pc Ls (.long y :: .long x :: st)) :=
  F.step fun _ => XT.ladd W.here me.x rfl (hb me.b hd) rfl
theorem Wk.lsub (W : Wk p l e R s m args below meth c Z EL kn own T h ss cells slots) (me : Me p meth c nm bytes maxL ret) {x y : Int64} (hd : decode bytes pc = .ok (.lsub, 1))  (F : Fi p e below s Z EL kc ks P T (mkF m (pc + 1) Ls (.long (x - y) :: st))) : Fi p e below s Z EL kc ks P T (mkF m pc Ls (.long y :: .long x :: st)) :=
  F.step fun _ => XT.lsub W.here me.x rfl (hb me.b hd) rfl
theorem Wk.lmul (W : Wk p l e R s m args below meth c Z EL kn own T h ss cells slots) (me : Me p meth c nm bytes maxL ret) {x y : Int64} (hd : decode bytes pc = .ok (.lmul, 1))  (F : Fi p e below s Z EL kc ks P T (mkF m (pc + 1) Ls (.long (x * y) :: st))) : Fi p e below s Z EL kc ks P T (mkF m pc Ls (.long y :: .long x :: st)) :=
  F.step fun _ => XT.lmul W.here me.x rfl (hb me.b hd) rfl
theorem Wk.lcmp (W : Wk p l e R s m args below meth c Z EL kn own T h ss cells slots) (me : Me p meth c nm bytes maxL ret) {x y : Int64} (hd : decode bytes pc = .ok (.lcmp, 1))  (F : Fi p e below s Z EL kc ks P T (mkF m (pc + 1) Ls (.int (XT.cmpL x y) :: st))) : Fi p e below s Z EL kc ks P T (mkF m pc Ls (.long y :: .long x :: st)) :=
  F.step fun _ => XT.lcmp W.here me.x rfl (hb me.b hd) rfl
theorem Wk.i2l (W : Wk p l e R s m args below meth c Z EL kn own T h ss cells slots) (me : Me p meth c nm bytes maxL ret) {x : Int32} (hd : decode bytes pc = .ok (.i2l, 1))  (F : Fi p e below s Z EL kc ks P T (mkF m (pc + 1) Ls (.long x.toInt64 :: st))) : Fi p e below s Z EL kc ks P T (mkF m pc Ls (.int x :: st)) :=
  F.step fun _ => XT.i2l W.here me.x rfl (hb me.b hd) rfl
theorem Wk.l2i (W : Wk p l e R s m args below meth c Z EL kn own T h ss cells slots) (me : Me p meth c nm bytes maxL ret) {x : Int64} (hd : decode bytes pc = .ok (.l2i, 1))  (F : Fi p e below s Z EL kc ks P T (mkF m (pc + 1) Ls (.int x.toInt32 :: st))) : Fi p e below s Z EL kc ks P T (mkF m pc Ls (.long x :: st)) :=
  F.step fun _ => XT.l2i W.here me.x rfl (hb me.b hd) rfl
theorem Wk.i2b (W : Wk p l e R s m args below meth c Z EL kn own T h ss cells slots) (me : Me p meth c nm bytes maxL ret) {x : Int32} (hd : decode bytes pc = .ok (.i2b, 1))  (F : Fi p e below s Z EL kc ks P T (mkF m (pc + 1) Ls (.int x.toInt8.toInt32 :: st))) : Fi p e below s Z EL kc ks P T (mkF m pc Ls (.int x :: st)) :=
  F.step fun _ => XT.i2b W.here me.x rfl (hb me.b hd) rfl
theorem Wk.i2c (W : Wk p l e R s m args below meth c Z EL kn own T h ss cells slots) (me : Me p meth c nm bytes maxL ret) {x : Int32} (hd : decode bytes pc = .ok (.i2c, 1))  (F : Fi p e below s Z EL kc ks P T (mkF m (pc + 1) Ls (.int x.toUInt32.toUInt16.toUInt32.toInt32 :: st))) : Fi p e below s Z EL kc ks P T (mkF m pc Ls (.int x :: st)) :=
  F.step fun _ => XT.i2c W.here me.x rfl (hb me.b hd) rfl
theorem Wk.dup (W : Wk p l e R s m args below meth c Z EL kn own T h ss cells slots) (me : Me p meth c nm bytes maxL ret) {x : Value} (hd : decode bytes pc = .ok (.dup, 1)) (hc : x.category = 1) (F : Fi p e below s Z EL kc ks P T (mkF m (pc + 1) Ls (x :: x :: st))) : Fi p e below s Z EL kc ks P T (mkF m pc Ls (x :: st)) :=
  F.step fun _ => XS.dup W.here me.x rfl (hb me.b hd) rfl hc
theorem Wk.pop (W : Wk p l e R s m args below meth c Z EL kn own T h ss cells slots) (me : Me p meth c nm bytes maxL ret) {x : Value} (hd : decode bytes pc = .ok (.pop, 1)) (hc : x.category = 1) (F : Fi p e below s Z EL kc ks P T (mkF m (pc + 1) Ls st)) : Fi p e below s Z EL kc ks P T (mkF m pc Ls (x :: st)) :=
  F.step fun _ => XT.pop W.here me.x rfl (hb me.b hd) rfl hc
theorem Wk.dupX1 (W : Wk p l e R s m args below meth c Z EL kn own T h ss cells slots) (me : Me p meth c nm bytes maxL ret) {x y : Value} (hd : decode bytes pc = .ok (.dup_x1, 1)) (hc : x.category = 1) (hc' : y.category = 1) (F : Fi p e below s Z EL kc ks P T (mkF m (pc + 1) Ls (x :: y :: x :: st))) : Fi p e below s Z EL kc ks P T (mkF m pc Ls (x :: y :: st)) :=
  F.step fun _ => XT.dupX1 W.here me.x rfl (hb me.b hd) rfl hc hc'
theorem Wk.dup2 (W : Wk p l e R s m args below meth c Z EL kn own T h ss cells slots) (me : Me p meth c nm bytes maxL ret) {x y : Value} (hd : decode bytes pc = .ok (.dup2, 1)) (hc : x.category = 1) (hc' : y.category = 1) (F : Fi p e below s Z EL kc ks P T (mkF m (pc + 1) Ls (x :: y :: x :: y :: st))) : Fi p e below s Z EL kc ks P T (mkF m pc Ls (x :: y :: st)) :=
  F.step fun _ => XT.dup2 W.here me.x rfl (hb me.b hd) rfl hc hc'
theorem Wk.iinc (W : Wk p l e R s m args below meth c Z EL kn own T h ss cells slots) (me : Me p meth c nm bytes maxL ret) {k : Nat} {cst : Int} {x v : Int32} {l' : Array Slot} (hd : decode bytes pc = .ok (.iinc k cst, 3)) (hv : Int32.ofInt cst = v) (hl : Ls[k]? = some (.val (.int x))) (hl' : storeLocals Ls k (.int (x + v)) = some l') (F : Fi p e below s Z EL kc ks P T (mkF m (pc + 3) l' st)) : Fi p e below s Z EL kc ks P T (mkF m pc Ls st) :=
  F.step fun _ => XT.iincV W.here me.x rfl v (hb me.b hd) hv hl hl'
theorem Wk.goto (W : Wk p l e R s m args below meth c Z EL kn own T h ss cells slots) (me : Me p meth c nm bytes maxL ret) {o : Int} {pc' : Nat} (hd : decode bytes pc = .ok (.goto o, 3)) (ho : 0 ≤ (pc : Int) + o) (hp : ((pc : Int) + o).toNat = pc') (F : Fi p e below s Z EL kc ks P T (mkF m pc' Ls st)) : Fi p e below s Z EL kc ks P T (mkF m pc Ls st) :=
  F.step fun _ => XS.goto W.here me.x rfl rfl (hb me.b hd) ho hp
theorem Wk.ifY (W : Wk p l e R s m args below meth c Z EL kn own T h ss cells slots) (me : Me p meth c nm bytes maxL ret) {cd : ClassFile.Cond} {x : Int32} {o : Int} {pc' : Nat} (hd : decode bytes pc = .ok (.ifCond cd o, 3)) (hc : ifCond.holds cd x = true) (ho : 0 ≤ (pc : Int) + o) (hp : ((pc : Int) + o).toNat = pc') (F : Fi p e below s Z EL kc ks P T (mkF m pc' Ls st)) : Fi p e below s Z EL kc ks P T (mkF m pc Ls (.int x :: st)) :=
  F.step fun _ => XS.ifYes W.here me.x rfl rfl (hb me.b hd) rfl hc ho hp
theorem Wk.ifN (W : Wk p l e R s m args below meth c Z EL kn own T h ss cells slots) (me : Me p meth c nm bytes maxL ret) {cd : ClassFile.Cond} {x : Int32} {o : Int} (hd : decode bytes pc = .ok (.ifCond cd o, 3)) (hc : ifCond.holds cd x = false) (F : Fi p e below s Z EL kc ks P T (mkF m (pc + 3) Ls st)) : Fi p e below s Z EL kc ks P T (mkF m pc Ls (.int x :: st)) :=
  F.step fun _ => XS.ifNo W.here me.x rfl (hb me.b hd) rfl hc
theorem Wk.icY (W : Wk p l e R s m args below meth c Z EL kn own T h ss cells slots) (me : Me p meth c nm bytes maxL ret) {cd : ClassFile.Cond} {x y : Int32} {o : Int} {pc' : Nat} (hd : decode bytes pc = .ok (.if_icmp cd o, 3)) (hc : if_icmp.holds cd x y = true) (ho : 0 ≤ (pc : Int) + o) (hp : ((pc : Int) + o).toNat = pc') (F : Fi p e below s Z EL kc ks P T (mkF m pc' Ls st)) : Fi p e below s Z EL kc ks P T (mkF m pc Ls (.int y :: .int x :: st)) :=
  F.step fun _ => XS.icmpYes W.here me.x rfl rfl (hb me.b hd) rfl hc ho hp
theorem Wk.icN (W : Wk p l e R s m args below meth c Z EL kn own T h ss cells slots) (me : Me p meth c nm bytes maxL ret) {cd : ClassFile.Cond} {x y : Int32} {o : Int} (hd : decode bytes pc = .ok (.if_icmp cd o, 3)) (hc : if_icmp.holds cd x y = false) (F : Fi p e below s Z EL kc ks P T (mkF m (pc + 3) Ls st)) : Fi p e below s Z EL kc ks P T (mkF m pc Ls (.int y :: .int x :: st)) :=
  F.step fun _ => XS.icmpNo W.here me.x rfl (hb me.b hd) rfl hc
theorem Wk.ic_eq (W : Wk p l e R s m args below meth c Z EL kn own T h ss cells slots) (me : Me p meth c nm bytes maxL ret) {x y : Int32} {o : Int} {pc' : Nat} (hd : decode bytes pc = .ok (.if_icmp .eq o, 3)) (ho : 0 ≤ (pc : Int) + o) (hp : ((pc : Int) + o).toNat = pc') (F : x = y → Fi p e below s Z EL kc ks P T (mkF m pc' Ls st)) (G : ¬ x = y → Fi p e below s Z EL kc ks P T (mkF m (pc + 3) Ls st)) : Fi p e below s Z EL kc ks P T (mkF m pc Ls (.int y :: .int x :: st)) := by
  by_cases q : x = y
  · exact W.icY me hd (teq q).1 ho hp (F q)
  · exact W.icN me hd (feq (by first | exact q | exact Decidable.not_not.mp q)).1 (G (by first | exact q | exact Decidable.not_not.mp q))
theorem Wk.if_eq (W : Wk p l e R s m args below meth c Z EL kn own T h ss cells slots) (me : Me p meth c nm bytes maxL ret) {x : Int32} {o : Int} {pc' : Nat} (hd : decode bytes pc = .ok (.ifCond .eq o, 3)) (ho : 0 ≤ (pc : Int) + o) (hp : ((pc : Int) + o).toNat = pc') (F : x = 0 → Fi p e below s Z EL kc ks P T (mkF m pc' Ls st)) (G : ¬ x = 0 → Fi p e below s Z EL kc ks P T (mkF m (pc + 3) Ls st)) : Fi p e below s Z EL kc ks P T (mkF m pc Ls (.int x :: st)) := by
  by_cases q : x = 0
  · exact W.ifY me hd ((if0 _ _).trans (teq q).1) ho hp (F q)
  · exact W.ifN me hd ((if0 _ _).trans (feq (by first | exact q | exact Decidable.not_not.mp q)).1) (G (by first | exact q | exact Decidable.not_not.mp q))
theorem Wk.icY_eq (W : Wk p l e R s m args below meth c Z EL kn own T h ss cells slots) (me : Me p meth c nm bytes maxL ret) {x y : Int32} {o : Int} {pc' : Nat} (hd : decode bytes pc = .ok (.if_icmp .eq o, 3)) (q : x = y) (ho : 0 ≤ (pc : Int) + o) (hp : ((pc : Int) + o).toNat = pc') (F : Fi p e below s Z EL kc ks P T (mkF m pc' Ls st)) : Fi p e below s Z EL kc ks P T (mkF m pc Ls (.int y :: .int x :: st)) := W.icY me hd (teq q).1 ho hp F
theorem Wk.icN_eq (W : Wk p l e R s m args below meth c Z EL kn own T h ss cells slots) (me : Me p meth c nm bytes maxL ret) {x y : Int32} {o : Int} (hd : decode bytes pc = .ok (.if_icmp .eq o, 3)) (q : ¬ x = y) (F : Fi p e below s Z EL kc ks P T (mkF m (pc + 3) Ls st)) : Fi p e below s Z EL kc ks P T (mkF m pc Ls (.int y :: .int x :: st)) := W.icN me hd (feq q).1 F
theorem Wk.ifY_eq (W : Wk p l e R s m args below meth c Z EL kn own T h ss cells slots) (me : Me p meth c nm bytes maxL ret) {x : Int32} {o : Int} {pc' : Nat} (hd : decode bytes pc = .ok (.ifCond .eq o, 3)) (q : x = 0) (ho : 0 ≤ (pc : Int) + o) (hp : ((pc : Int) + o).toNat = pc') (F : Fi p e below s Z EL kc ks P T (mkF m pc' Ls st)) : Fi p e below s Z EL kc ks P T (mkF m pc Ls (.int x :: st)) := W.ifY me hd ((if0 _ _).trans (teq q).1) ho hp F
theorem Wk.ifN_eq (W : Wk p l e R s m args below meth c Z EL kn own T h ss cells slots) (me : Me p meth c nm bytes maxL ret) {x : Int32} {o : Int} (hd : decode bytes pc = .ok (.ifCond .eq o, 3)) (q : ¬ x = 0) (F : Fi p e below s Z EL kc ks P T (mkF m (pc + 3) Ls st)) : Fi p e below s Z EL kc ks P T (mkF m pc Ls (.int x :: st)) := W.ifN me hd ((if0 _ _).trans (feq q).1) F
theorem Wk.ic_ne (W : Wk p l e R s m args below meth c Z EL kn own T h ss cells slots) (me : Me p meth c nm bytes maxL ret) {x y : Int32} {o : Int} {pc' : Nat} (hd : decode bytes pc = .ok (.if_icmp .ne o, 3)) (ho : 0 ≤ (pc : Int) + o) (hp : ((pc : Int) + o).toNat = pc') (F : ¬ x = y → Fi p e below s Z EL kc ks P T (mkF m pc' Ls st)) (G : x = y → Fi p e below s Z EL kc ks P T (mkF m (pc + 3) Ls st)) : Fi p e below s Z EL kc ks P T (mkF m pc Ls (.int y :: .int x :: st)) := by
  by_cases q : ¬ x = y
  · exact W.icY me hd (feq q).2 ho hp (F q)
  · exact W.icN me hd (teq (by first | exact q | exact Decidable.not_not.mp q)).2 (G (by first | exact q | exact Decidable.not_not.mp q))
theorem Wk.if_ne (W : Wk p l e R s m args below meth c Z EL kn own T h ss cells slots) (me : Me p meth c nm bytes maxL ret) {x : Int32} {o : Int} {pc' : Nat} (hd : decode bytes pc = .ok (.ifCond .ne o, 3)) (ho : 0 ≤ (pc : Int) + o) (hp : ((pc : Int) + o).toNat = pc') (F : ¬ x = 0 → Fi p e below s Z EL kc ks P T (mkF m pc' Ls st)) (G : x = 0 → Fi p e below s Z EL kc ks P T (mkF m (pc + 3) Ls st)) : Fi p e below s Z EL kc ks P T (mkF m pc Ls (.int x :: st)) := by
  by_cases q : ¬ x = 0
  · exact W.ifY me hd ((if0 _ _).trans (feq q).2) ho hp (F q)
  · exact W.ifN me hd ((if0 _ _).trans (teq (by first | exact q | exact Decidable.not_not.mp q)).2) (G (by first | exact q | exact Decidable.not_not.mp q))
theorem Wk.icY_ne (W : Wk p l e R s m args below meth c Z EL kn own T h ss cells slots) (me : Me p meth c nm bytes maxL ret) {x y : Int32} {o : Int} {pc' : Nat} (hd : decode bytes pc = .ok (.if_icmp .ne o, 3)) (q : ¬ x = y) (ho : 0 ≤ (pc : Int) + o) (hp : ((pc : Int) + o).toNat = pc') (F : Fi p e below s Z EL kc ks P T (mkF m pc' Ls st)) : Fi p e below s Z EL kc ks P T (mkF m pc Ls (.int y :: .int x :: st)) := W.icY me hd (feq q).2 ho hp F
theorem Wk.icN_ne (W : Wk p l e R s m args below meth c Z EL kn own T h ss cells slots) (me : Me p meth c nm bytes maxL ret) {x y : Int32} {o : Int} (hd : decode bytes pc = .ok (.if_icmp .ne o, 3)) (q : x = y) (F : Fi p e below s Z EL kc ks P T (mkF m (pc + 3) Ls st)) : Fi p e below s Z EL kc ks P T (mkF m pc Ls (.int y :: .int x :: st)) := W.icN me hd (teq q).2 F
theorem Wk.ifY_ne (W : Wk p l e R s m args below meth c Z EL kn own T h ss cells slots) (me : Me p meth c nm bytes maxL ret) {x : Int32} {o : Int} {pc' : Nat} (hd : decode bytes pc = .ok (.ifCond .ne o, 3)) (q : ¬ x = 0) (ho : 0 ≤ (pc : Int) + o) (hp : ((pc : Int) + o).toNat = pc') (F : Fi p e below s Z EL kc ks P T (mkF m pc' Ls st)) : Fi p e below s Z EL kc ks P T (mkF m pc Ls (.int x :: st)) := W.ifY me hd ((if0 _ _).trans (feq q).2) ho hp F
theorem Wk.ifN_ne (W : Wk p l e R s m args below meth c Z EL kn own T h ss cells slots) (me : Me p meth c nm bytes maxL ret) {x : Int32} {o : Int} (hd : decode bytes pc = .ok (.ifCond .ne o, 3)) (q : x = 0) (F : Fi p e below s Z EL kc ks P T (mkF m (pc + 3) Ls st)) : Fi p e below s Z EL kc ks P T (mkF m pc Ls (.int x :: st)) := W.ifN me hd ((if0 _ _).trans (teq q).2) F
theorem Wk.ic_lt (W : Wk p l e R s m args below meth c Z EL kn own T h ss cells slots) (me : Me p meth c nm bytes maxL ret) {x y : Int32} {o : Int} {pc' : Nat} (hd : decode bytes pc = .ok (.if_icmp .lt o, 3)) (ho : 0 ≤ (pc : Int) + o) (hp : ((pc : Int) + o).toNat = pc') (F : x < y → Fi p e below s Z EL kc ks P T (mkF m pc' Ls st)) (G : ¬ x < y → Fi p e below s Z EL kc ks P T (mkF m (pc + 3) Ls st)) : Fi p e below s Z EL kc ks P T (mkF m pc Ls (.int y :: .int x :: st)) := by
  by_cases q : x < y
  · exact W.icY me hd (tlt q).1 ho hp (F q)
  · exact W.icN me hd (flt (by first | exact q | exact Decidable.not_not.mp q)).1 (G (by first | exact q | exact Decidable.not_not.mp q))
theorem Wk.if_lt (W : Wk p l e R s m args below meth c Z EL kn own T h ss cells slots) (me : Me p meth c nm bytes maxL ret) {x : Int32} {o : Int} {pc' : Nat} (hd : decode bytes pc = .ok (.ifCond .lt o, 3)) (ho : 0 ≤ (pc : Int) + o) (hp : ((pc : Int) + o).toNat = pc') (F : x < 0 → Fi p e below s Z EL kc ks P T (mkF m pc' Ls st)) (G : ¬ x < 0 → Fi p e below s Z EL kc ks P T (mkF m (pc + 3) Ls st)) : Fi p e below s Z EL kc ks P T (mkF m pc Ls (.int x :: st)) := by
  by_cases q : x < 0
  · exact W.ifY me hd ((if0 _ _).trans (tlt q).1) ho hp (F q)
  · exact W.ifN me hd ((if0 _ _).trans (flt (by first | exact q | exact Decidable.not_not.mp q)).1) (G (by first | exact q | exact Decidable.not_not.mp q))
theorem Wk.icY_lt (W : Wk p l e R s m args below meth c Z EL kn own T h ss cells slots) (me : Me p meth c nm bytes maxL ret) {x y : Int32} {o : Int} {pc' : Nat} (hd : decode bytes pc = .ok (.if_icmp .lt o, 3)) (q : x < y) (ho : 0 ≤ (pc : Int) + o) (hp : ((pc : Int) + o).toNat = pc') (F : Fi p e below s Z EL kc ks P T (mkF m pc' Ls st)) : Fi p e below s Z EL kc ks P T (mkF m pc Ls (.int y :: .int x :: st)) := W.icY me hd (tlt q).1 ho hp F
theorem Wk.icN_lt (W : Wk p l e R s m args below meth c Z EL kn own T h ss cells slots) (me : Me p meth c nm bytes maxL ret) {x y : Int32} {o : Int} (hd : decode bytes pc = .ok (.if_icmp .lt o, 3)) (q : ¬ x < y) (F : Fi p e below s Z EL kc ks P T (mkF m (pc + 3) Ls st)) : Fi p e below s Z EL kc ks P T (mkF m pc Ls (.int y :: .int x :: st)) := W.icN me hd (flt q).1 F
theorem Wk.ifY_lt (W : Wk p l e R s m args below meth c Z EL kn own T h ss cells slots) (me : Me p meth c nm bytes maxL ret) {x : Int32} {o : Int} {pc' : Nat} (hd : decode bytes pc = .ok (.ifCond .lt o, 3)) (q : x < 0) (ho : 0 ≤ (pc : Int) + o) (hp : ((pc : Int) + o).toNat = pc') (F : Fi p e below s Z EL kc ks P T (mkF m pc' Ls st)) : Fi p e below s Z EL kc ks P T (mkF m pc Ls (.int x :: st)) := W.ifY me hd ((if0 _ _).trans (tlt q).1) ho hp F
theorem Wk.ifN_lt (W : Wk p l e R s m args below meth c Z EL kn own T h ss cells slots) (me : Me p meth c nm bytes maxL ret) {x : Int32} {o : Int} (hd : decode bytes pc = .ok (.ifCond .lt o, 3)) (q : ¬ x < 0) (F : Fi p e below s Z EL kc ks P T (mkF m (pc + 3) Ls st)) : Fi p e below s Z EL kc ks P T (mkF m pc Ls (.int x :: st)) := W.ifN me hd ((if0 _ _).trans (flt q).1) F
theorem Wk.ic_ge (W : Wk p l e R s m args below meth c Z EL kn own T h ss cells slots) (me : Me p meth c nm bytes maxL ret) {x y : Int32} {o : Int} {pc' : Nat} (hd : decode bytes pc = .ok (.if_icmp .ge o, 3)) (ho : 0 ≤ (pc : Int) + o) (hp : ((pc : Int) + o).toNat = pc') (F : ¬ x < y → Fi p e below s Z EL kc ks P T (mkF m pc' Ls st)) (G : x < y → Fi p e below s Z EL kc ks P T (mkF m (pc + 3) Ls st)) : Fi p e below s Z EL kc ks P T (mkF m pc Ls (.int y :: .int x :: st)) := by
  by_cases q : ¬ x < y
  · exact W.icY me hd (flt q).2.1 ho hp (F q)
  · exact W.icN me hd (tlt (by first | exact q | exact Decidable.not_not.mp q)).2.1 (G (by first | exact q | exact Decidable.not_not.mp q))
theorem Wk.if_ge (W : Wk p l e R s m args below meth c Z EL kn own T h ss cells slots) (me : Me p meth c nm bytes maxL ret) {x : Int32} {o : Int} {pc' : Nat} (hd : decode bytes pc = .ok (.ifCond .ge o, 3)) (ho : 0 ≤ (pc : Int) + o) (hp : ((pc : Int) + o).toNat = pc') (F : ¬ x < 0 → Fi p e below s Z EL kc ks P T (mkF m pc' Ls st)) (G : x < 0 → Fi p e below s Z EL kc ks P T (mkF m (pc + 3) Ls st)) : Fi p e below s Z EL kc ks P T (mkF m pc Ls (.int x :: st)) := by
  by_cases q : ¬ x < 0
  · exact W.ifY me hd ((if0 _ _).trans (flt q).2.1) ho hp (F q)
  · exact W.ifN me hd ((if0 _ _).trans (tlt (by first | exact q | exact Decidable.not_not.mp q)).2.1) (G (by first | exact q | exact Decidable.not_not.mp q))
theorem Wk.icY_ge (W : Wk p l e R s m args below meth c Z EL kn own T h ss cells slots) (me : Me p meth c nm bytes maxL ret) {x y : Int32} {o : Int} {pc' : Nat} (hd : decode bytes pc = .ok (.if_icmp .ge o, 3)) (q : ¬ x < y) (ho : 0 ≤ (pc : Int) + o) (hp : ((pc : Int) + o).toNat = pc') (F : Fi p e below s Z EL kc ks P T (mkF m pc' Ls st)) : Fi p e below s Z EL kc ks P T (mkF m pc Ls (.int y :: .int x :: st)) := W.icY me hd (flt q).2.1 ho hp F
theorem Wk.icN_ge (W : Wk p l e R s m args below meth c Z EL kn own T h ss cells slots) (me : Me p meth c nm bytes maxL ret) {x y : Int32} {o : Int} (hd : decode bytes pc = .ok (.if_icmp .ge o, 3)) (q : x < y) (F : Fi p e below s Z EL kc ks P T (mkF m (pc + 3) Ls st)) : Fi p e below s Z EL kc ks P T (mkF m pc Ls (.int y :: .int x :: st)) := W.icN me hd (tlt q).2.1 F
theorem Wk.ifY_ge (W : Wk p l e R s m args below meth c Z EL kn own T h ss cells slots) (me : Me p meth c nm bytes maxL ret) {x : Int32} {o : Int} {pc' : Nat} (hd : decode bytes pc = .ok (.ifCond .ge o, 3)) (q : ¬ x < 0) (ho : 0 ≤ (pc : Int) + o) (hp : ((pc : Int) + o).toNat = pc') (F : Fi p e below s Z EL kc ks P T (mkF m pc' Ls st)) : Fi p e below s Z EL kc ks P T (mkF m pc Ls (.int x :: st)) := W.ifY me hd ((if0 _ _).trans (flt q).2.1) ho hp F
theorem Wk.ifN_ge (W : Wk p l e R s m args below meth c Z EL kn own T h ss cells slots) (me : Me p meth c nm bytes maxL ret) {x : Int32} {o : Int} (hd : decode bytes pc = .ok (.ifCond .ge o, 3)) (q : x < 0) (F : Fi p e below s Z EL kc ks P T (mkF m (pc + 3) Ls st)) : Fi p e below s Z EL kc ks P T (mkF m pc Ls (.int x :: st)) := W.ifN me hd ((if0 _ _).trans (tlt q).2.1) F
theorem Wk.ic_gt (W : Wk p l e R s m args below meth c Z EL kn own T h ss cells slots) (me : Me p meth c nm bytes maxL ret) {x y : Int32} {o : Int} {pc' : Nat} (hd : decode bytes pc = .ok (.if_icmp .gt o, 3)) (ho : 0 ≤ (pc : Int) + o) (hp : ((pc : Int) + o).toNat = pc') (F : y < x → Fi p e below s Z EL kc ks P T (mkF m pc' Ls st)) (G : ¬ y < x → Fi p e below s Z EL kc ks P T (mkF m (pc + 3) Ls st)) : Fi p e below s Z EL kc ks P T (mkF m pc Ls (.int y :: .int x :: st)) := by
  by_cases q : y < x
  · exact W.icY me hd (tlt q).2.2.1 ho hp (F q)
  · exact W.icN me hd (flt (by first | exact q | exact Decidable.not_not.mp q)).2.2.1 (G (by first | exact q | exact Decidable.not_not.mp q))
theorem Wk.if_gt (W : Wk p l e R s m args below meth c Z EL kn own T h ss cells slots) (me : Me p meth c nm bytes maxL ret) {x : Int32} {o : Int} {pc' : Nat} (hd : decode bytes pc = .ok (.ifCond .gt o, 3)) (ho : 0 ≤ (pc : Int) + o) (hp : ((pc : Int) + o).toNat = pc') (F : 0 < x → Fi p e below s Z EL kc ks P T (mkF m pc' Ls st)) (G : ¬ 0 < x → Fi p e below s Z EL kc ks P T (mkF m (pc + 3) Ls st)) : Fi p e below s Z EL kc ks P T (mkF m pc Ls (.int x :: st)) := by
  by_cases q : 0 < x
  · exact W.ifY me hd ((if0 _ _).trans (tlt q).2.2.1) ho hp (F q)
  · exact W.ifN me hd ((if0 _ _).trans (flt (by first | exact q | exact Decidable.not_not.mp q)).2.2.1) (G (by first | exact q | exact Decidable.not_not.mp q))
theorem Wk.icY_gt (W : Wk p l e R s m args below meth c Z EL kn own T h ss cells slots) (me : Me p meth c nm bytes maxL ret) {x y : Int32} {o : Int} {pc' : Nat} (hd : decode bytes pc = .ok (.if_icmp .gt o, 3)) (q : y < x) (ho : 0 ≤ (pc : Int) + o) (hp : ((pc : Int) + o).toNat = pc') (F : Fi p e below s Z EL kc ks P T (mkF m pc' Ls st)) : Fi p e below s Z EL kc ks P T (mkF m pc Ls (.int y :: .int x :: st)) := W.icY me hd (tlt q).2.2.1 ho hp F
theorem Wk.icN_gt (W : Wk p l e R s m args below meth c Z EL kn own T h ss cells slots) (me : Me p meth c nm bytes maxL ret) {x y : Int32} {o : Int} (hd : decode bytes pc = .ok (.if_icmp .gt o, 3)) (q : ¬ y < x) (F : Fi p e below s Z EL kc ks P T (mkF m (pc + 3) Ls st)) : Fi p e below s Z EL kc ks P T (mkF m pc Ls (.int y :: .int x :: st)) := W.icN me hd (flt q).2.2.1 F
theorem Wk.ifY_gt (W : Wk p l e R s m args below meth c Z EL kn own T h ss cells slots) (me : Me p meth c nm bytes maxL ret) {x : Int32} {o : Int} {pc' : Nat} (hd : decode bytes pc = .ok (.ifCond .gt o, 3)) (q : 0 < x) (ho : 0 ≤ (pc : Int) + o) (hp : ((pc : Int) + o).toNat = pc') (F : Fi p e below s Z EL kc ks P T (mkF m pc' Ls st)) : Fi p e below s Z EL kc ks P T (mkF m pc Ls (.int x :: st)) := W.ifY me hd ((if0 _ _).trans (tlt q).2.2.1) ho hp F
theorem Wk.ifN_gt (W : Wk p l e R s m args below meth c Z EL kn own T h ss cells slots) (me : Me p meth c nm bytes maxL ret) {x : Int32} {o : Int} (hd : decode bytes pc = .ok (.ifCond .gt o, 3)) (q : ¬ 0 < x) (F : Fi p e below s Z EL kc ks P T (mkF m (pc + 3) Ls st)) : Fi p e below s Z EL kc ks P T (mkF m pc Ls (.int x :: st)) := W.ifN me hd ((if0 _ _).trans (flt q).2.2.1) F
theorem Wk.ic_le (W : Wk p l e R s m args below meth c Z EL kn own T h ss cells slots) (me : Me p meth c nm bytes maxL ret) {x y : Int32} {o : Int} {pc' : Nat} (hd : decode bytes pc = .ok (.if_icmp .le o, 3)) (ho : 0 ≤ (pc : Int) + o) (hp : ((pc : Int) + o).toNat = pc') (F : ¬ y < x → Fi p e below s Z EL kc ks P T (mkF m pc' Ls st)) (G : y < x → Fi p e below s Z EL kc ks P T (mkF m (pc + 3) Ls st)) : Fi p e below s Z EL kc ks P T (mkF m pc Ls (.int y :: .int x :: st)) := by
  by_cases q : ¬ y < x
  · exact W.icY me hd (flt q).2.2.2 ho hp (F q)
  · exact W.icN me hd (tlt (by first | exact q | exact Decidable.not_not.mp q)).2.2.2 (G (by first | exact q | exact Decidable.not_not.mp q))
theorem Wk.if_le (W : Wk p l e R s m args below meth c Z EL kn own T h ss cells slots) (me : Me p meth c nm bytes maxL ret) {x : Int32} {o : Int} {pc' : Nat} (hd : decode bytes pc = .ok (.ifCond .le o, 3)) (ho : 0 ≤ (pc : Int) + o) (hp : ((pc : Int) + o).toNat = pc') (F : ¬ 0 < x → Fi p e below s Z EL kc ks P T (mkF m pc' Ls st)) (G : 0 < x → Fi p e below s Z EL kc ks P T (mkF m (pc + 3) Ls st)) : Fi p e below s Z EL kc ks P T (mkF m pc Ls (.int x :: st)) := by
  by_cases q : ¬ 0 < x
  · exact W.ifY me hd ((if0 _ _).trans (flt q).2.2.2) ho hp (F q)
  · exact W.ifN me hd ((if0 _ _).trans (tlt (by first | exact q | exact Decidable.not_not.mp q)).2.2.2) (G (by first | exact q | exact Decidable.not_not.mp q))
theorem Wk.icY_le (W : Wk p l e R s m args below meth c Z EL kn own T h ss cells slots) (me : Me p meth c nm bytes maxL ret) {x y : Int32} {o : Int} {pc' : Nat} (hd : decode bytes pc = .ok (.if_icmp .le o, 3)) (q : ¬ y < x) (ho : 0 ≤ (pc : Int) + o) (hp : ((pc : Int) + o).toNat = pc') (F : Fi p e below s Z EL kc ks P T (mkF m pc' Ls st)) : Fi p e below s Z EL kc ks P T (mkF m pc Ls (.int y :: .int x :: st)) := W.icY me hd (flt q).2.2.2 ho hp F
theorem Wk.icN_le (W : Wk p l e R s m args below meth c Z EL kn own T h ss cells slots) (me : Me p meth c nm bytes maxL ret) {x y : Int32} {o : Int} (hd : decode bytes pc = .ok (.if_icmp .le o, 3)) (q : y < x) (F : Fi p e below s Z EL kc ks P T (mkF m (pc + 3) Ls st)) : Fi p e below s Z EL kc ks P T (mkF m pc Ls (.int y :: .int x :: st)) := W.icN me hd (tlt q).2.2.2 F
theorem Wk.ifY_le (W : Wk p l e R s m args below meth c Z EL kn own T h ss cells slots) (me : Me p meth c nm bytes maxL ret) {x : Int32} {o : Int} {pc' : Nat} (hd : decode bytes pc = .ok (.ifCond .le o, 3)) (q : ¬ 0 < x) (ho : 0 ≤ (pc : Int) + o) (hp : ((pc : Int) + o).toNat = pc') (F : Fi p e below s Z EL kc ks P T (mkF m pc' Ls st)) : Fi p e below s Z EL kc ks P T (mkF m pc Ls (.int x :: st)) := W.ifY me hd ((if0 _ _).trans (flt q).2.2.2) ho hp F
theorem Wk.ifN_le (W : Wk p l e R s m args below meth c Z EL kn own T h ss cells slots) (me : Me p meth c nm bytes maxL ret) {x : Int32} {o : Int} (hd : decode bytes pc = .ok (.ifCond .le o, 3)) (q : 0 < x) (F : Fi p e below s Z EL kc ks P T (mkF m (pc + 3) Ls st)) : Fi p e below s Z EL kc ks P T (mkF m pc Ls (.int x :: st)) := W.ifN me hd ((if0 _ _).trans (tlt q).2.2.2) F
theorem Wk.nullY (W : Wk p l e R s m args below meth c Z EL kn own T h ss cells slots) (me : Me p meth c nm bytes maxL ret) {o : Int} {pc' : Nat} (hd : decode bytes pc = .ok (.ifnull o, 3)) (ho : 0 ≤ (pc : Int) + o) (hp : ((pc : Int) + o).toNat = pc') (F : Fi p e below s Z EL kc ks P T (mkF m pc' Ls st)) : Fi p e below s Z EL kc ks P T (mkF m pc Ls (.null :: st)) :=
  F.step fun _ => XS.ifnullYes W.here me.x rfl rfl (hb me.b hd) rfl ho hp
theorem Wk.nullN (W : Wk p l e R s m args below meth c Z EL kn own T h ss cells slots) (me : Me p meth c nm bytes maxL ret) {o : Int} {b : Addr} (hd : decode bytes pc = .ok (.ifnull o, 3)) (F : Fi p e below s Z EL kc ks P T (mkF m (pc + 3) Ls st)) : Fi p e below s Z EL kc ks P T (mkF m pc Ls (.ref b :: st)) :=
  F.step fun _ => XS.ifnullNo W.here me.x rfl (hb me.b hd) rfl
theorem Wk.nonnullY (W : Wk p l e R s m args below meth c Z EL kn own T h ss cells slots) (me : Me p meth c nm bytes maxL ret) {o : Int} {b : Addr} {pc' : Nat} (hd : decode bytes pc = .ok (.ifnonnull o, 3)) (ho : 0 ≤ (pc : Int) + o) (hp : ((pc : Int) + o).toNat = pc') (F : Fi p e below s Z EL kc ks P T (mkF m pc' Ls st)) : Fi p e below s Z EL kc ks P T (mkF m pc Ls (.ref b :: st)) :=
  F.step fun _ => XT.ifnonnullYes W.here me.x rfl rfl (hb me.b hd) rfl ho hp
theorem Wk.nonnullN (W : Wk p l e R s m args below meth c Z EL kn own T h ss cells slots) (me : Me p meth c nm bytes maxL ret) {o : Int} (hd : decode bytes pc = .ok (.ifnonnull o, 3)) (F : Fi p e below s Z EL kc ks P T (mkF m (pc + 3) Ls st)) : Fi p e below s Z EL kc ks P T (mkF m pc Ls (.null :: st)) :=
  F.step fun _ => XT.ifnonnullNo W.here me.x rfl (hb me.b hd) rfl
theorem Wk.acY (W : Wk p l e R s m args below meth c Z EL kn own T h ss cells slots) (me : Me p meth c nm bytes maxL ret) {cd : ClassFile.ACond} {x y : Value} {o : Int} {pc' : Nat} (hd : decode bytes pc = .ok (.if_acmp cd o, 3)) (hx : x.isRef = true) (hy : y.isRef = true) (hc : XT.acmp cd x y = true) (ho : 0 ≤ (pc : Int) + o) (hp : ((pc : Int) + o).toNat = pc') (F : Fi p e below s Z EL kc ks P T (mkF m pc' Ls st)) : Fi p e below s Z EL kc ks P T (mkF m pc Ls (y :: x :: st)) :=
  F.step fun _ => XT.acmpYes W.here me.x rfl rfl (hb me.b hd) rfl hx hy hc ho hp
theorem Wk.acN (W : Wk p l e R s m args below meth c Z EL kn own T h ss cells slots) (me : Me p meth c nm bytes maxL ret) {cd : ClassFile.ACond} {x y : Value} {o : Int} (hd : decode bytes pc = .ok (.if_acmp cd o, 3)) (hx : x.isRef = true) (hy : y.isRef = true) (hc : XT.acmp cd x y = false) (F : Fi p e below s Z EL kc ks P T (mkF m (pc + 3) Ls st)) : Fi p e below s Z EL kc ks P T (mkF m pc Ls (y :: x :: st)) :=
  F.step fun _ => XT.acmpNo W.here me.x rfl (hb me.b hd) rfl hx hy hc
end Steps2
end Jvm.OwnKit
namespace Jvm.OwnKit
open Jvm Jvm.ClassFile Sem Op Lib Jvm.Free Jvm.Stand Jvm.LawKit Jvm.RoadKit Bundle
section Steps3
variable {p : Program} {l : Launch} {e : Env} {R : Room} {s : State} {m : MethodId} {args : Array Value} {below : List Frame} {meth : Method} {c : Code} {Z : State} {a0 : Array Value} {EL : List (String × Nat)} {kn : Bool} {own : String}
  {T : State} {h h' h2 : Heap} {ss : List Addr} {cells slots : Nat} {nm : String} {bytes : ByteArray} {maxL : Nat} {ret : Option FieldType} {kc ks : Nat} {P : Option Value → Heap → (Addr → Prop) → Prop} {pc : Nat} {Ls : Array Slot} {st : List Value}
theorem own_xr (h : Heap) : Ext h h := ⟨Nat.le_refl _, fun _ _ q => q⟩
theorem own_xt (E : Ext h h') (F : Ext h' h2) : Ext h h2 := ⟨Nat.le_trans E.1 F.1, fun a c q => F.2 a c (E.2 a c q)⟩
theorem own_xw {a : Addr} {sl : Nat} {v : Value} (E : Ext h h') (q : h.size ≤ a) (W : Wr h' h2 a sl v) : Ext h h2 := by
  refine ⟨by rw [W.size]; exact E.1, fun b cb hb => ?_⟩
  obtain ⟨c0, -, -, -, rfl⟩ := W
  have hne : a ≠ b := by
    intro z
    subst z
    have := (Array.getElem?_eq_some_iff.mp hb).1
    omega
  rw [Array.getElem?_setIfInBounds_ne hne]; exact E.2 _ _ hb
theorem own_xk {ws : List Addr} (E : Ext h h') (K : Keep h' h2 ws) (q : ∀ x ∈ ws, h.size ≤ x) : Ext h h2 :=
  ⟨Nat.le_trans E.1 K.1, fun b cb hb => K.2.1 b cb (E.2 b cb hb) fun z => by have := (Array.getElem?_eq_some_iff.mp hb).1; have := q b z; omega⟩
theorem own_le {a b : Nat} (q : Nat.ble a b = true) : a ≤ b := Nat.le_of_ble_eq_true q
theorem own_lt {a b : Nat} (q : a < b) : a < b := q
theorem own_ge {a b : Nat} (q : a ≤ b) : a ≤ b := q
theorem own_ne {a b : Nat} (q : a < b) : a ≠ b := Nat.ne_of_lt q
theorem own_en {a b : Nat} (q : a < b) : b ≠ a := (Nat.ne_of_lt q).symm
theorem own_xK (E : Ext h h') (ws : List Addr) : Keep h h' ws := ⟨E.1, fun x c q _ => E.2 x c q, fun x c q => ⟨c, E.2 x c q, rfl, rfl, rfl⟩⟩
theorem Sf.safe {a : Addr} {vm0 : Vm} (hal : Z.vm.Alike vm0) (S : Sf Z h ss a) (hss : ∀ x ∈ ss, x < h.size ∧ Safe Z EL vm0 h x) : Safe Z EL vm0 h a := by
  rcases S with q | ⟨C, E, h1, h2⟩ | ⟨cl, ty, A, ht⟩
  · exact (hss a q).2
  · exact Safe.exa hal E h1 h2
  · exact Safe.arr hal A ht
/-- a step that moves no heap -/
theorem Wk.quiet {g g' : JFrame} (W : Wk p l e R s m args below meth c Z EL kn own T h ss cells slots)
    (law : ∀ {vm0 : Vm} {locs : List Loc}, Stand p l e R (s.setVm vm0) m args below meth c T locs cells slots → Z.Warmed39 vm0 → vm0.findClass own = some m.cls → ∃ T', Stand p l e R (s.setVm vm0) m args below meth c T' locs cells slots ∧ T'.heap = h ∧ ∀ target, Steps p.tables e below (T'.setTop g') target → Steps p.tables e below (T.setTop g) target)
    (F : ∀ T', Wk p l e R s m args below meth c Z EL kn own T' h ss cells slots → Fi p e below s Z EL kc ks P T' g') : Fi p e below s Z EL kc ks P T g := by
  obtain ⟨vm0, locs, k0, X, eT, hZ, hS, hk, hown, N, O, C, hss, hK⟩ := W
  obtain ⟨T', X', e', st⟩ := law X hZ hown
  exact (F T' ⟨vm0, locs, k0, X', e', hZ, hS, hk, hown, N, O, C, hss, hK⟩).step st
/-- a step that only makes cells -/
theorem Wk.grows {g g' : JFrame} {k n : Nat} {Q : State → Heap → Prop} (W : Wk p l e R s m args below meth c Z EL kn own T h ss cells slots)
    (law : ∀ {vm0 : Vm} {locs : List Loc}, Stand p l e R (s.setVm vm0) m args below meth c T locs cells slots → Z.Warmed39 vm0 → vm0.findClass own = some m.cls → ∃ T' h', Stand p l e R (s.setVm vm0) m args below meth c T' locs (cells + k) (slots + n) ∧ T'.heap = h' ∧ Ext h h' ∧ (h.size < h'.size) ∧ Q T' h' ∧ ∀ target, Steps p.tables e below (T'.setTop g') target → Steps p.tables e below (T.setTop g) target)
    (F : ∀ T' h', Wk p l e R s m args below meth c Z EL kn own T' h' (h.size :: ss) (cells + k) (slots + n) → Ext h h' → Q T' h' → Fi p e below s Z EL kc ks P T' g') : Fi p e below s Z EL kc ks P T g := by
  obtain ⟨vm0, locs, k0, X, eT, hZ, hS, hk, hown, N, O, C, hss, hK⟩ := W
  obtain ⟨T', h', X', e', E, hlt, q, st⟩ := law X hZ hown
  have C2 := CHr.ext E C.1
  refine (F T' h' ⟨vm0, locs, k0, X', e', hZ, hS, Nat.le_trans hk E.1, hown, N, O.ext E, C.trans C2, fun x hx => ?_, hK⟩ E q).step st
  rcases List.mem_cons.mp hx with rfl | hx
  · exact ⟨hlt, Safe.ext E C.1 (Safe.new (Nat.le_refl _))⟩
  · exact ⟨Nat.lt_of_lt_of_le (hss x hx).1 E.1, Safe.ext E C.1 (hss x hx).2⟩
/-- a step that writes one place -/
theorem Wk.writes {g g' : JFrame} {a : Addr} {sl : Nat} {v : Value} (W : Wk p l e R s m args below meth c Z EL kn own T h ss cells slots) (hS : Sf Z h ss a) (hn : Z.heap.size ≤ a)
    (law : ∀ {vm0 : Vm} {locs : List Loc}, Stand p l e R (s.setVm vm0) m args below meth c T locs cells slots → Z.Warmed39 vm0 → vm0.findClass own = some m.cls → ∃ T' h', Stand p l e R (s.setVm vm0) m args below meth c T' (locs ++ [⟨a, sl⟩]) cells slots ∧ T'.heap = h' ∧ Wr h h' a sl v ∧ ∀ target, Steps p.tables e below (T'.setTop g') target → Steps p.tables e below (T.setTop g) target)
    (F : ∀ T' h', Wk p l e R s m args below meth c Z EL kn own T' h' ss cells slots → Wr h h' a sl v → Fi p e below s Z EL kc ks P T' g') : Fi p e below s Z EL kc ks P T g := by
  obtain ⟨vm0, locs, k0, X, eT, hZ, hSi, hk, hown, N, O, C, hss, hK⟩ := W
  obtain ⟨T', h', X', e', q, st⟩ := law X hZ hown
  have S0 := hS.safe hZ.alike hss
  have C2 := CHr.wr q S0 C.1
  exact (F T' h' ⟨vm0, _, k0, X', e', hZ, hSi, by rw [q.size]; exact hk, hown, Fr.snoc X' N hn, O.wr q hn, C.trans C2, fun x hx => ⟨by rw [q.size]; exact (hss x hx).1, Safe.wr q S0 C.1 (hss x hx).2⟩, hK⟩ q).step st
section Fields
variable {R0 O n d C : String} {index kk : Nat} {a : Addr} {v old : Value} {ty : FieldType}
theorem Wk.getF (W : Wk p l e R s m args below meth c Z EL kn own T h ss cells slots) (me : Me p meth c nm bytes maxL ret) (w : (Cond.fieldLink own index R0 n d).before a0 Z = true) (F : Fld Z h a O n d v) (via : Via Z R0 O n d) (hd : decode bytes pc = .ok (.getfield index, 3))
    (k : ∀ T', Wk p l e R s m args below meth c Z EL kn own T' h ss cells slots → Fi p e below s Z EL kc ks P T' (mkF m (pc + 3) Ls (v :: st))) : Fi p e below s Z EL kc ks P T (mkF m pc Ls (.ref a :: st)) :=
  W.quiet (fun X hZ hown => Jvm.RoadKit.getF X me.x hZ hown (host := "") (Or.inl w) via W.heap F rfl rfl (hb me.b hd)) k
theorem Wk.getS (W : Wk p l e R s m args below meth c Z EL kn own T h ss cells slots) (me : Me p meth c nm bytes maxL ret) (w : (Cond.fieldLink own index R0 n d).before a0 Z = true) (F : Sta Z Z.heap O n d v) (via : Via Z R0 O n d) (hd : decode bytes pc = .ok (.getstatic index, 3))
    (k : ∀ T', Wk p l e R s m args below meth c Z EL kn own T' h ss cells slots → Fi p e below s Z EL kc ks P T' (mkF m (pc + 3) Ls (v :: st))) : Fi p e below s Z EL kc ks P T (mkF m pc Ls st) :=
  W.quiet (fun X hZ hown => Jvm.RoadKit.getS X me.x hZ hown (host := "") w via W.heap (F.ext W.old.2) rfl (hb me.b hd)) k
theorem Wk.putF (W : Wk p l e R s m args below meth c Z EL kn own T h ss cells slots) (me : Me p meth c nm bytes maxL ret) (w : (Cond.fieldLink own index R0 n d).before a0 Z = true) (F : Fld Z h a O n d old) (via : Via Z R0 O n d) (E : Exa Z h a C)
    (L : (Cond.lays C O n d).before a0 Z = true ∨ ((Cond.laysFinal C O n d).before a0 Z = true ∧ own = O ∧ nm = "<init>")) (wi : (Cond.instantiable C kk).before a0 Z = true) (hty : parseFieldDescriptor d = some ty) (hn : narrow ty v = v) (hf : fits ty v = true) (hS : Sf Z h ss a) (hz : Z.heap.size ≤ a)
    (hd : decode bytes pc = .ok (.putfield index, 3))
    (k : ∀ T' h', Wk p l e R s m args below meth c Z EL kn own T' h' ss cells slots → Wr h h' a (Jvm.RoadKit.slotOf Z O n d) v → Fi p e below s Z EL kc ks P T' (mkF m (pc + 3) Ls st)) : Fi p e below s Z EL kc ks P T (mkF m pc Ls (v :: .ref a :: st)) :=
  W.writes hS hz (fun X hZ hown => Jvm.RoadKit.putF X me.x hZ hown (host := "") (Or.inl w) via W.heap F E (L.imp id fun q => ⟨q.1, q.2.1, me.n.trans q.2.2⟩) wi hty hn hf rfl rfl (hb me.b hd)) k
theorem Wk.newO (W : Wk p l e R s m args below meth c Z EL kn own T h ss cells slots) (me : Me p meth c nm bytes maxL ret) (w : (Cond.classLink own index C).before a0 Z = true) (wi : (Cond.instantiable C kk).before a0 Z = true) (wz : (Cond.initialized C).before a0 Z = true) (hd : decode bytes pc = .ok (.new index, 3)) (hc : cells + 1 ≤ R.cells) (hl : slots + kk ≤ R.slots)
    (k : ∀ T' h' a, @Eq Nat h.size a → Wk p l e R s m args below meth c Z EL kn own T' h' (a :: ss) (cells + 1) (slots + kk) → Ext h h' → Exa Z h' a C → (∀ {O nm d : String} {ty : FieldType}, Laid Z a0 C O nm d → parseFieldDescriptor d = some ty → Fld Z h' a O nm d (defaultValue ty)) → (∃ cell : Cell, h'[a]? = some cell ∧ cell.vm = .none ∧ cell.monitor = {}) →
      Fi p e below s Z EL kc ks P T' (mkF m (pc + 3) Ls (.ref a :: st))) : Fi p e below s Z EL kc ks P T (mkF m pc Ls st) :=
  W.grows (k := 1) (n := kk) (Q := fun _ h' => Exa Z h' h.size C ∧ (∀ {O nm d : String} {ty : FieldType}, Laid Z a0 C O nm d → parseFieldDescriptor d = some ty → Fld Z h' h.size O nm d (defaultValue ty)) ∧ (∃ cell : Cell, h'[h.size]? = some cell ∧ cell.vm = .none ∧ cell.monitor = {}))
    (fun X hZ hown => by
      obtain ⟨T', h', X', e', E, A, D, U, st⟩ := Jvm.RoadKit.newO X me.x hZ hown w wi wz W.heap (g := mkF m pc Ls st) rfl (hb me.b hd) hc hl
      exact ⟨T', h', X', e', E, A.lt, ⟨A, D, U⟩, st⟩)
    (fun T' h' W' E q => k T' h' h.size rfl W' E q.1 q.2.1 q.2.2)
end Fields
section Arrays
variable {a : Addr} {n j x : Int32} {ka : ClassId} {vs : List Value} {dv : Value}
theorem Wk.newA {aty : ArrayType} {cap : Nat} (W : Wk p l e R s m args below meth c Z EL kn own T h ss cells slots) (me : Me p meth c nm bytes maxL ret) (w : (Cond.arrayClass (newarray.typeOf aty)).before a0 Z = true) (hd : decode bytes pc = .ok (.newarray aty, 2)) (hn : ¬ n < 0) (hcap : n.toNatClampNeg ≤ cap) (hbig : cap * 8 ≤ 536870912) (hc : cells + 1 ≤ R.cells) (hl : slots + cap ≤ R.slots)
    (k : ∀ T' h' a ka, @Eq Nat h.size a → Wk p l e R s m args below meth c Z EL kn own T' h' (a :: ss) (cells + 1) (slots + cap) → Ext h h' → Arv Z h' a ka (newarray.typeOf aty) n [] (defaultValue (newarray.typeOf aty)) → Fi p e below s Z EL kc ks P T' (mkF m (pc + 2) Ls (.ref a :: st))) : Fi p e below s Z EL kc ks P T (mkF m pc Ls (.int n :: st)) :=
  W.grows (k := 1) (n := cap) (Q := fun _ h' => ∃ ka, Arv Z h' h.size ka (newarray.typeOf aty) n [] (defaultValue (newarray.typeOf aty)))
    (fun X hZ hown => by
      obtain ⟨T', h', cA, X', e', E, A, st⟩ := Jvm.RoadKit.newP X me.x hZ w W.heap (g := mkF m pc Ls (.int n :: st)) rfl (hb me.b hd) rfl hn hcap hbig hc hl
      exact ⟨T', h', X', e', E, A.lt, ⟨cA, Arv.new A hn⟩, st⟩)
    (fun T' h' W' E q => by obtain ⟨ka, A⟩ := q; exact k T' h' h.size ka rfl W' E A)
/-- castore at place i of an array whose places are told -/
theorem Wk.castore {i : Nat} (W : Wk p l e R s m args below meth c Z EL kn own T h ss cells slots) (me : Me p meth c nm bytes maxL ret) (A : Arv Z h a ka .char n vs dv) (hd : decode bytes pc = .ok (.castore, 1)) (hj : ¬ j < 0 ∧ j < n) (hi : j.toNatClampNeg = i) (hv : i < vs.length) (hz : Z.heap.size ≤ a)
    (k : ∀ T' h', Wk p l e R s m args below meth c Z EL kn own T' h' ss cells slots → Wr h h' a i (.int (nar .char x)) → Arv Z h' a ka .char n (vs.set i (.int (nar .char x))) dv → Fi p e below s Z EL kc ks P T' (mkF m (pc + 1) Ls st)) : Fi p e below s Z EL kc ks P T (mkF m pc Ls (.int x :: .int j :: .ref a :: st)) := by
  obtain ⟨cl, A1, q, S, M, H, U⟩ := A
  subst hi
  exact W.writes (Or.inr (Or.inr ⟨cl, .char, A1, by decide⟩)) hz (fun X hZ _ => Jvm.RoadKit.stC X me.x hZ W.heap A1 (inb_of S hj) rfl rfl (hb me.b hd))
    (fun T' h' W' q' => k T' h' W' q' (Arv.set A1 q S M H U (fits_nar_char _) q' _ rfl hv))
theorem Wk.bastore {i : Nat} (W : Wk p l e R s m args below meth c Z EL kn own T h ss cells slots) (me : Me p meth c nm bytes maxL ret) (A : Arv Z h a ka .byte n vs dv) (hd : decode bytes pc = .ok (.bastore, 1)) (hj : ¬ j < 0 ∧ j < n) (hi : j.toNatClampNeg = i) (hv : i < vs.length) (hS : a ∈ ss) (hz : Z.heap.size ≤ a)
    (k : ∀ T' h', Wk p l e R s m args below meth c Z EL kn own T' h' ss cells slots → Wr h h' a i (.int (nar .byte x)) → Arv Z h' a ka .byte n (vs.set i (.int (nar .byte x))) dv → Fi p e below s Z EL kc ks P T' (mkF m (pc + 1) Ls st)) : Fi p e below s Z EL kc ks P T (mkF m pc Ls (.int x :: .int j :: .ref a :: st)) := by
  obtain ⟨cl, A1, q, S, M, H, U⟩ := A
  subst hi
  exact W.writes (Or.inl hS) hz (fun X hZ _ => Jvm.RoadKit.stB X me.x hZ W.heap A1 (inb_of S hj) rfl rfl (hb me.b hd))
    (fun T' h' W' q' => k T' h' W' q' (Arv.set A1 q S M H U (fits_nar_byte _) q' _ rfl hv))
theorem Wk.caload {v : Value} (W : Wk p l e R s m args below meth c Z EL kn own T h ss cells slots) (me : Me p meth c nm bytes maxL ret) (A : Arv Z h a ka .char n vs dv) (hd : decode bytes pc = .ok (.caload, 1)) (hj : ¬ j < 0 ∧ j < n) (hv : vs.getD j.toNatClampNeg dv = v)
    (F : Fi p e below s Z EL kc ks P T (mkF m (pc + 1) Ls (v :: st))) : Fi p e below s Z EL kc ks P T (mkF m pc Ls (.int j :: .ref a :: st)) := by
  obtain ⟨cl, A1, q, S, M, H, U⟩ := A
  obtain ⟨vm0, locs, k0, X, eT, hZ, -⟩ := W
  exact F.step fun t F' => X.caload me.x (by rw [eT]; exact A1.1) (State.isArrayOf_alike (s := Z) (T := s.setVm vm0) hZ.alike A1.2.1) A1.2.2 (inb_of S hj) (H.at (inb_of S hj) hv) (g := mkF m pc Ls (.int j :: .ref a :: st)) rfl rfl (hb me.b hd) t F'
theorem Wk.baload {v : Value} (W : Wk p l e R s m args below meth c Z EL kn own T h ss cells slots) (me : Me p meth c nm bytes maxL ret) (A : Arv Z h a ka .byte n vs dv) (hd : decode bytes pc = .ok (.baload, 1)) (hj : ¬ j < 0 ∧ j < n) (hv : vs.getD j.toNatClampNeg dv = v)
    (F : Fi p e below s Z EL kc ks P T (mkF m (pc + 1) Ls (v :: st))) : Fi p e below s Z EL kc ks P T (mkF m pc Ls (.int j :: .ref a :: st)) := by
  obtain ⟨cl, A1, q, S, M, H, U⟩ := A
  obtain ⟨vm0, locs, k0, X, eT, hZ, -⟩ := W
  exact F.step fun t F' => X.baloadBytes me.x (by rw [eT]; exact A1.1) (State.isArrayOf_alike (s := Z) (T := s.setVm vm0) hZ.alike A1.2.1) A1.2.2 (inb_of S hj) (H.at (inb_of S hj) hv) (g := mkF m pc Ls (.int j :: .ref a :: st)) rfl rfl (hb me.b hd) t F'
theorem Wk.alen {ty : FieldType} (W : Wk p l e R s m args below meth c Z EL kn own T h ss cells slots) (me : Me p meth c nm bytes maxL ret) (A : Arv Z h a ka ty n vs dv) (hd : decode bytes pc = .ok (.arraylength, 1))
    (F : Fi p e below s Z EL kc ks P T (mkF m (pc + 1) Ls (.int n :: st))) : Fi p e below s Z EL kc ks P T (mkF m pc Ls (.ref a :: st)) := by
  obtain ⟨cl, A1, q, S, M, H, U⟩ := A
  obtain ⟨vm0, locs, k0, X, eT, hZ, -⟩ := W
  exact F.step fun t F' => X.arraylength me.x (by rw [eT]; exact A1.1) (State.isArrayOf_alike (s := Z) (T := s.setVm vm0) hZ.alike A1.2.1) (g := mkF m pc Ls (.ref a :: st)) rfl rfl (hb me.b hd) t (by rw [len_of S M]; exact F')
end Arrays
section Consts
variable {index : Nat}
theorem Wk.ldc2J {v : Int64} (W : Wk p l e R s m args below meth c Z EL kn own T h ss cells slots) (me : Me p meth c nm bytes maxL ret) (w : (Cond.constantLong own index v).before a0 Z = true) (hd : decode bytes pc = .ok (.ldc2_w index, 3))
    (F : Fi p e below s Z EL kc ks P T (mkF m (pc + 3) Ls (.long v :: st))) : Fi p e below s Z EL kc ks P T (mkF m pc Ls st) := by
  obtain ⟨vm0, locs, k0, X, eT, hZ, -, -, hown, -⟩ := W
  exact F.step fun t F' => X.ldc2Long me.x hown (mvT (s := s.setVm vm0) hZ w) (g := mkF m pc Ls st) rfl (hb me.b hd) t F'
theorem Wk.ldcI {v : Int32} (W : Wk p l e R s m args below meth c Z EL kn own T h ss cells slots) (me : Me p meth c nm bytes maxL ret) (w : (Cond.constant own index v).before a0 Z = true) (hd : decode bytes pc = .ok (.ldc index, 2))
    (F : Fi p e below s Z EL kc ks P T (mkF m (pc + 2) Ls (.int v :: st))) : Fi p e below s Z EL kc ks P T (mkF m pc Ls st) := by
  obtain ⟨vm0, locs, k0, X, eT, hZ, -, -, hown, -⟩ := W
  exact F.step fun t F' => X.ldcInt me.x hown (mvT (s := s.setVm vm0) hZ w) (g := mkF m pc Ls st) rfl (hb me.b hd) t F'
theorem Wk.cast {K : String} {a : Addr} (W : Wk p l e R s m args below meth c Z EL kn own T h ss cells slots) (me : Me p meth c nm bytes maxL ret) (w : (Cond.classLink own index K).before a0 Z = true) (I : Ins Z h a K true) (hd : decode bytes pc = .ok (.checkcast index, 3))
    (k : ∀ T', Wk p l e R s m args below meth c Z EL kn own T' h ss cells slots → Fi p e below s Z EL kc ks P T' (mkF m (pc + 3) Ls (.ref a :: st))) : Fi p e below s Z EL kc ks P T (mkF m pc Ls (.ref a :: st)) :=
  W.quiet (fun X hZ hown => Jvm.RoadKit.castY X me.x hZ hown w W.heap I rfl rfl (hb me.b hd)) k
theorem Wk.instY {K : String} {a : Addr} (W : Wk p l e R s m args below meth c Z EL kn own T h ss cells slots) (me : Me p meth c nm bytes maxL ret) (w : (Cond.classLink own index K).before a0 Z = true) (I : Ins Z h a K true) (hd : decode bytes pc = .ok (.instanceof index, 3))
    (k : ∀ T', Wk p l e R s m args below meth c Z EL kn own T' h ss cells slots → Fi p e below s Z EL kc ks P T' (mkF m (pc + 3) Ls (.int 1 :: st))) : Fi p e below s Z EL kc ks P T (mkF m pc Ls (.ref a :: st)) :=
  W.quiet (fun X hZ hown => Jvm.RoadKit.instY X me.x hZ hown w W.heap I rfl rfl (hb me.b hd)) k
theorem Wk.initO {a : Addr} (W : Wk p l e R s m args below meth c Z EL kn own T h ss cells slots) (me : Me p meth c nm bytes maxL ret) (w1 : (Cond.methodLink own index Lib.objectInit).before a0 Z = true) (w2 : (Cond.instanceMethod Lib.objectInit).before a0 Z = true) (w3 : (Cond.code Lib.objectInit ⟨#[0xb1]⟩ 1 none).before a0 Z = true)
    (hd : decode bytes pc = .ok (.invokespecial index, 3)) (hsz : Ls.size = maxL) (hf : 1 ≤ R.frames) (hl : (st.map fun v => v.category).sum + 12 ≤ R.locals)
    (k : ∀ T', Wk p l e R s m args below meth c Z EL kn own T' h ss cells slots → Fi p e below s Z EL kc ks P T' (mkF m (pc + 3) Ls st)) : Fi p e below s Z EL kc ks P T (mkF m pc Ls (.ref a :: st)) :=
  W.quiet (fun X hZ hown => Jvm.RoadKit.initO X me.x hZ hown w1 w2 w3 W.heap (g := mkF m pc Ls (.ref a :: st)) rfl (hsz.trans me.ml.symm) rfl (hb me.b hd) hf (W := (st.map fun v => v.category).sum) (by show 2 * 0 + _ ≤ _; omega) hl) k
/-- ldc of a String constant that is told, read -/
theorem Wk.ldcS {text : String} {vs : List Value} {z : Int32} {n : Nat} (W : Wk p l e R s m args below meth c Z EL kn own T h ss cells slots) (me : Me p meth c nm bytes maxL ret) (hEL : EW Z a0 EL) (hmem : (own, index) ∈ EL) (w : (Cond.stringLink own index text).before a0 Z = true) (wS : ∀ a ∈ Bundle.stringAtoms, a.before a0 Z = true)
    (ht : (∀ c ∈ text.toList, c.toNat < 256) ∧ text.toList.map (fun c => Value.int (Jvm.Lit.byteI c.toNat.toUInt16)) = vs) (hz : ¬ z < 0) (hl : z.toNatClampNeg = vs.length) (hd : decode bytes pc = .ok (.ldc index, 2)) (hn : 4 * text.toList.length ≤ n) (hbig : n ≤ 536870912) (hc : cells + 2 ≤ R.cells) (hl' : slots + (n + 4) ≤ R.slots)
    (k : ∀ T' h' a b ka, Wk p l e R s m args below meth c Z EL kn own T' h' ss (cells + 2) (slots + (n + 4)) → Ext h h' → Exa Z h' a "java/lang/String" → Fld Z h' a "java/lang/String" "coder" "B" (.int 0) → Fld Z h' a "java/lang/String" "value" "[B" (.ref b) → Arv Z h' b ka .byte z vs (.int 0) → (∀ x ∈ ss, x ≠ a ∧ x ≠ b) →
      Fi p e below s Z EL kc ks P T' (mkF m (pc + 2) Ls (.ref a :: st))) : Fi p e below s Z EL kc ks P T (mkF m pc Ls st) := by
  obtain ⟨vm0, locs, k0, X, eT, hZ, hS, hk, hown, N, O, C, hss, hK⟩ := W
  obtain ⟨a, T', h', k1, b, ka, X', e', E, hS2, hk2, hW, hf, EA, FC, FV, A, -, -, C2, -, hne, stp⟩ := ldcCH X me.x hZ hown w wS eT hS hk hEL hmem C.1 ht hz hl (g := mkF m pc Ls st) rfl (hb me.b hd) hn hbig hc hl'
  have hal : vm0.Alike T'.vm := by
    have q := State.Warmed39.alike hW
    exact (State.Warmed39.alike hZ).symm.trans q
  have ss2 : ∀ x ∈ ss, x < h'.size ∧ Safe Z EL T'.vm h' x := fun x hx => ⟨Nat.lt_of_lt_of_le (hss x hx).1 E.1, C2.safe (hss x hx).1 (hss x hx).2⟩
  refine (k T' h' a b ka ⟨T'.vm, locs, k1, X', e', hW, hS2, hk2, hf, N, O.ext E, C.trans C2, ss2, fun q => ⟨Vm.MethodsKnown.alikeC hal (hK q).1, Vm.FramesKnown.alikeC hal (hK q).2⟩⟩ E EA FC FV A (fun x hx => hne x (ss2 x hx).2)).step stp
end Consts
section Calls
variable {index : Nat} {y y' z : MethodName} {ybytes : ByteArray} {ymaxL : Nat} {yret : Option FieldType} {rm : Room} {ss' : List Addr} {rest : List Value}
theorem Wk.callS {argsL : List Value} {Q : Option Value → Heap → (Addr → Prop) → Prop} (W : Wk p l e R s m args below meth c Z EL kn own T h ss cells slots) (me : Me p meth c nm bytes maxL ret) (hEL : EW Z a0 EL) (w1 : (Cond.methodLink own index y).before a0 Z = true) (w2 : (Cond.static y).before a0 Z = true) (w3 : (Cond.initialized y.cls).before a0 Z = true) (w4 : (Cond.code y ybytes ymaxL yret).before a0 Z = true)
    (hM : Con l Z EL kn [] y ybytes ymaxL yret rm argsL.toArray h ss' Q) (hd : decode bytes pc = .ok (.invokestatic index, 3)) (hy : y.cls ≠ "java/lang/invoke/MethodHandle" ∧ y.cls ≠ "java/lang/invoke/VarHandle") (hss : ∀ x ∈ ss', x ∈ ss) (hsz : Ls.size = maxL) (hlen : ∀ sig, parseMethodDescriptor y.desc = some sig → argsL.length = sig.parameters.length)
    (hf : rm.frames + 1 ≤ R.frames) (hl : (rest.map fun v => v.category).sum + (ymaxL + 11) + rm.locals ≤ R.locals) (hc : cells + rm.cells ≤ R.cells) (hs : slots + rm.slots ≤ R.slots) {stk : List Value} (hstk : stk = argsL.reverse ++ rest)
    (k : ∀ T' h' v, Wk p l e R s m args below meth c Z EL kn own T' h' ss (cells + rm.cells) (slots + rm.slots) → h.size ≤ h'.size → (∃ sf : Addr → Prop, (∀ xs : List Addr, (∀ x ∈ xs, sf x) → Wk p l e R s m args below meth c Z EL kn own T' h' (xs ++ ss) (cells + rm.cells) (slots + rm.slots)) ∧ Q v h' sf) → Fi p e below s Z EL kc ks P T' (mkF m (pc + 3) Ls (v.toList ++ rest))) : Fi p e below s Z EL kc ks P T (mkF m pc Ls stk) := by
  obtain ⟨vm0, locs, k0, X, eT, hZ, hS, hk, hown, N, O, C, hsf, hK⟩ := W
  subst hstk
  obtain ⟨v, vm1, B, hW1, X', hS2, hg, ⟨L, ⟨hq, NL, OB⟩, e1, e2, e3, C2⟩, stp⟩ := callSS X me.x hown (mvT (s := s.setVm vm0) hZ w1) (mvT (s := s.setVm vm0) hZ w2) (mvT (s := s.setVm vm0) hZ w3) (mvT (s := s.setVm vm0) hZ w4) hy
    (Con.back (Wt := (rest.map fun v => v.category).sum) hM hZ w4 w3 hf hl hEL C.1 (fun x hx => hsf x (hss x hx)) hK) (g := mkF m pc Ls (argsL.reverse ++ rest)) rfl (hsz.trans me.ml.symm) hlen rfl (by show 2 * 0 + _ ≤ _; omega) (hb me.b hd) (fun _ _ => ⟨rfl, eT, hc, hs⟩)
  have hg' : h.size ≤ B.U.heap.size := by rw [← eT]; exact hg
  have WB := Wk.behind X' hZ hS hk hown N C hsf hK hS2 hg' NL OB e1 e2 e3 C2
  exact (k B.U B.U.heap v (WB [] (fun _ q => nomatch q)) hg' ⟨_, WB, hq⟩).step fun t F => stp.trans F
theorem Wk.callI {argsL : List Value} {a : Addr} {Q : Option Value → Heap → (Addr → Prop) → Prop} (W : Wk p l e R s m args below meth c Z EL kn own T h ss cells slots) (me : Me p meth c nm bytes maxL ret) (hEL : EW Z a0 EL) (w1 : (Cond.methodLink own index y).before a0 Z = true) (w2 : (Cond.instanceMethod y).before a0 Z = true) (w3 : (Cond.initialized y.cls).before a0 Z = true) (w4 : (Cond.code y ybytes ymaxL none).before a0 Z = true) (hy1 : y.name = "<init>")
    (hM : Con l Z EL kn [] y ybytes ymaxL none rm (.ref a :: argsL).toArray h ss' Q) (hd : decode bytes pc = .ok (.invokespecial index, 3)) (hy : y.cls ≠ "java/lang/invoke/MethodHandle" ∧ y.cls ≠ "java/lang/invoke/VarHandle") (hss : ∀ x ∈ ss', x ∈ ss) (hsz : Ls.size = maxL) (hlen : ∀ sig, parseMethodDescriptor y.desc = some sig → argsL.length = sig.parameters.length)
    (hf : rm.frames + 1 ≤ R.frames) (hl : (rest.map fun v => v.category).sum + (ymaxL + 11) + rm.locals ≤ R.locals) (hc : cells + rm.cells ≤ R.cells) (hs : slots + rm.slots ≤ R.slots) {stk : List Value} (hstk : stk = argsL.reverse ++ .ref a :: rest)
    (k : ∀ T' h' v, Wk p l e R s m args below meth c Z EL kn own T' h' ss (cells + rm.cells) (slots + rm.slots) → h.size ≤ h'.size → (∃ sf : Addr → Prop, (∀ xs : List Addr, (∀ x ∈ xs, sf x) → Wk p l e R s m args below meth c Z EL kn own T' h' (xs ++ ss) (cells + rm.cells) (slots + rm.slots)) ∧ Q v h' sf) → Fi p e below s Z EL kc ks P T' (mkF m (pc + 3) Ls (v.toList ++ rest))) : Fi p e below s Z EL kc ks P T (mkF m pc Ls stk) := by
  obtain ⟨vm0, locs, k0, X, eT, hZ, hS, hk, hown, N, O, C, hsf, hK⟩ := W
  subst hstk
  obtain ⟨v, vm1, B, hW1, X', hS2, hg, ⟨L, ⟨hq, NL, OB⟩, e1, e2, e3, C2⟩, stp⟩ := X.specialBackS me.x hy1 hown (mvT (s := s.setVm vm0) hZ w1) (mvT (s := s.setVm vm0) hZ w2) (mvT (s := s.setVm vm0) hZ w4) hy
    (Con.back (Wt := (rest.map fun v => v.category).sum) hM hZ w4 w3 hf hl hEL C.1 (fun x hx => hsf x (hss x hx)) hK) (g := mkF m pc Ls (argsL.reverse ++ .ref a :: rest)) rfl (hsz.trans me.ml.symm) (Steps.refl _) hlen rfl (by show 2 * 0 + _ ≤ _; omega) (hb me.b hd) (fun _ _ => ⟨rfl, eT, hc, hs⟩)
  have hg' : h.size ≤ B.U.heap.size := by rw [← eT]; exact hg
  have WB := Wk.behind X' hZ hS hk hown N C hsf hK hS2 hg' NL OB e1 e2 e3 C2
  exact (k B.U B.U.heap v (WB [] (fun _ q => nomatch q)) hg' ⟨_, WB, hq⟩).step fun t F => stp.trans F
theorem Wk.callV {argsL : List Value} {a : Addr} {CC : String} {Q : Option Value → Heap → (Addr → Prop) → Prop} (W : Wk p l e R s m args below meth c Z EL kn own T h ss cells slots) (me : Me p meth c nm bytes maxL ret) (hEL : EW Z a0 EL) (w1 : (Cond.methodLink own index y).before a0 Z = true) (w2 : (Cond.declares y).before a0 Z = true) (hnf : ∀ {vm0 : Vm}, Z.Warmed39 vm0 → NotFace (s.setVm vm0) y) (w3 : (Cond.selects CC y z).before a0 Z = true) (w4 : (Cond.instanceMethod z).before a0 Z = true) (w5 : (Cond.initialized z.cls).before a0 Z = true) (w6 : (Cond.code z ybytes ymaxL yret).before a0 Z = true)
    (E : Exa Z h a CC) (hM : Con l Z EL kn [] z ybytes ymaxL yret rm (.ref a :: argsL).toArray h ss' Q) (hd : decode bytes pc = .ok (.invokevirtual index, 3)) (hy : y.cls ≠ "java/lang/invoke/MethodHandle" ∧ y.cls ≠ "java/lang/invoke/VarHandle") (hss : ∀ x ∈ ss', x ∈ ss) (hsz : Ls.size = maxL) (hlen : ∀ sig, parseMethodDescriptor y.desc = some sig → argsL.length = sig.parameters.length)
    (hf : rm.frames + 1 ≤ R.frames) (hl : (rest.map fun v => v.category).sum + (ymaxL + 11) + rm.locals ≤ R.locals) (hc : cells + rm.cells ≤ R.cells) (hs : slots + rm.slots ≤ R.slots) {stk : List Value} (hstk : stk = argsL.reverse ++ .ref a :: rest)
    (k : ∀ T' h' v, Wk p l e R s m args below meth c Z EL kn own T' h' ss (cells + rm.cells) (slots + rm.slots) → h.size ≤ h'.size → (∃ sf : Addr → Prop, (∀ xs : List Addr, (∀ x ∈ xs, sf x) → Wk p l e R s m args below meth c Z EL kn own T' h' (xs ++ ss) (cells + rm.cells) (slots + rm.slots)) ∧ Q v h' sf) → Fi p e below s Z EL kc ks P T' (mkF m (pc + 3) Ls (v.toList ++ rest))) : Fi p e below s Z EL kc ks P T (mkF m pc Ls stk) := by
  obtain ⟨vm0, locs, k0, X, eT, hZ, hS, hk, hown, N, O, C, hsf, hK⟩ := W
  subst hstk
  obtain ⟨cB, kB, qa, qb, qc⟩ := isOf (s := s.setVm vm0) (T := T) hZ eT E
  obtain ⟨v, vm1, B, hW1, X', hS2, hg, ⟨L, ⟨hq, NL, OB⟩, e1, e2, e3, C2⟩, stp⟩ := X.virtualBackS me.x hown (mvT (s := s.setVm vm0) hZ w1) (mvT (s := s.setVm vm0) hZ w2) (hnf hZ) (mvT (s := s.setVm vm0) hZ w3) (mvT (s := s.setVm vm0) hZ w4) hy
    (Con.back (Wt := (rest.map fun v => v.category).sum) hM hZ w6 w5 hf hl hEL C.1 (fun x hx => hsf x (hss x hx)) hK) qa qc (g := mkF m pc Ls (argsL.reverse ++ .ref a :: rest)) rfl (hsz.trans me.ml.symm) (Steps.refl _) hlen rfl (by show 2 * 0 + _ ≤ _; omega) (hb me.b hd) (fun _ _ => ⟨rfl, eT, hc, hs⟩)
  have hg' : h.size ≤ B.U.heap.size := by rw [← eT]; exact hg
  have WB := Wk.behind X' hZ hS hk hown N C hsf hK hS2 hg' NL OB e1 e2 e3 C2
  exact (k B.U B.U.heap v (WB [] (fun _ q => nomatch q)) hg' ⟨_, WB, hq⟩).step fun t F => stp.trans F
theorem Wk.callF {argsL : List Value} {a : Addr} {CC : String} {count : Nat} {Q : Option Value → Heap → (Addr → Prop) → Prop} (W : Wk p l e R s m args below meth c Z EL kn own T h ss cells slots) (me : Me p meth c nm bytes maxL ret) (hEL : EW Z a0 EL) (w1 : (Cond.methodLink own index y).before a0 Z = true) (w2 : (Cond.declares y).before a0 Z = true) (w2' : (Cond.interfaceMethod y.cls y.cls y.name y.desc).before a0 Z = true) (hi' : ((Cond.interfaceMethod y.cls y.cls y.name y.desc).onTables && (Cond.interfaceMethod y.cls y.cls y.name y.desc).keepsFace) = true) (w3 : (Cond.selects CC y z).before a0 Z = true) (w4 : (Cond.instanceMethod z).before a0 Z = true) (w4' : (Cond.publicMethod z).before a0 Z = true) (w4u : (Cond.unhidden CC y.name y.desc).before a0 Z = true) (w4c : (Cond.castable CC y.cls).before a0 Z = true) (w5 : (Cond.initialized z.cls).before a0 Z = true) (w6 : (Cond.code z ybytes ymaxL yret).before a0 Z = true)
    (E : Exa Z h a CC) (hM : Con l Z EL kn [] z ybytes ymaxL yret rm (.ref a :: argsL).toArray h ss' Q) (hd : decode bytes pc = .ok (.invokeinterface index count, 5)) (hy : y.cls ≠ "java/lang/invoke/MethodHandle" ∧ y.cls ≠ "java/lang/invoke/VarHandle") (hss : ∀ x ∈ ss', x ∈ ss) (hsz : Ls.size = maxL) (hlen : ∀ sig, parseMethodDescriptor y.desc = some sig → argsL.length = sig.parameters.length)
    (hf : rm.frames + 1 ≤ R.frames) (hl : (rest.map fun v => v.category).sum + (ymaxL + 11) + rm.locals ≤ R.locals) (hc : cells + rm.cells ≤ R.cells) (hs : slots + rm.slots ≤ R.slots) {stk : List Value} (hstk : stk = argsL.reverse ++ .ref a :: rest)
    (k : ∀ T' h' v, Wk p l e R s m args below meth c Z EL kn own T' h' ss (cells + rm.cells) (slots + rm.slots) → h.size ≤ h'.size → (∃ sf : Addr → Prop, (∀ xs : List Addr, (∀ x ∈ xs, sf x) → Wk p l e R s m args below meth c Z EL kn own T' h' (xs ++ ss) (cells + rm.cells) (slots + rm.slots)) ∧ Q v h' sf) → Fi p e below s Z EL kc ks P T' (mkF m (pc + 5) Ls (v.toList ++ rest))) : Fi p e below s Z EL kc ks P T (mkF m pc Ls stk) := by
  obtain ⟨vm0, locs, k0, X, eT, hZ, hS, hk, hown, N, O, C, hsf, hK⟩ := W
  subst hstk
  obtain ⟨cB, kB, qa, qb, qc⟩ := isOf (s := s.setVm vm0) (T := T) hZ eT E
  obtain ⟨v, vm1, B, hW1, X', hS2, hg, ⟨L, ⟨hq, NL, OB⟩, e1, e2, e3, C2⟩, stp⟩ := X.interfaceBackS me.x hown (mvT (s := s.setVm vm0) hZ w1) (mvT (s := s.setVm vm0) hZ w2) (mvT (s := s.setVm vm0) hZ w2' hi') (mvT (s := s.setVm vm0) hZ w3) (mvT (s := s.setVm vm0) hZ w4) (mvT (s := s.setVm vm0) hZ w4') (mvT (s := s.setVm vm0) hZ w4u) (mvT (s := s.setVm vm0) hZ w4c) hy
    (Con.back (Wt := (rest.map fun v => v.category).sum) hM hZ w6 w5 hf hl hEL C.1 (fun x hx => hsf x (hss x hx)) hK) qa qb qc (g := mkF m pc Ls (argsL.reverse ++ .ref a :: rest)) rfl (hsz.trans me.ml.symm) (Steps.refl _) hlen rfl (by show 2 * 0 + _ ≤ _; omega) (hb me.b hd) (fun _ _ => ⟨rfl, eT, hc, hs⟩)
  have hg' : h.size ≤ B.U.heap.size := by rw [← eT]; exact hg
  have WB := Wk.behind X' hZ hS hk hown N C hsf hK hS2 hg' NL OB e1 e2 e3 C2
  exact (k B.U B.U.heap v (WB [] (fun _ q => nomatch q)) hg' ⟨_, WB, hq⟩).step fun t F => stp.trans F
end Calls
end Steps3
end Jvm.OwnKit
namespace Jvm.OwnKit
open Jvm Jvm.ClassFile Sem Op Lib Jvm.Free Jvm.Stand Jvm.LawKit Jvm.RoadKit Bundle
section Nums
theorem on_int {i : Nat} (h : i < 2 ^ 31) : (Int32.ofNat i).toInt = (i : Int) := Int32.toInt_ofNat_small h
theorem on_clamp {i : Nat} (h : i < 2 ^ 31) : (Int32.ofNat i).toNatClampNeg = i := Int32.toNatClampNeg_ofNat_of_lt h
theorem on_lt {i n : Nat} (h : i < n) (hn : n < 2 ^ 31) : Int32.ofNat i < Int32.ofNat n := by
  rw [Int32.lt_iff_toInt_lt, on_int (by omega), on_int hn]; omega
theorem on_nlt {i n : Nat} (h : n ≤ i) (hi : i < 2 ^ 31) : ¬ Int32.ofNat i < Int32.ofNat n := by
  rw [Int32.lt_iff_toInt_lt, on_int hi, on_int (by omega)]; omega
theorem on_nneg {i : Nat} (hi : i < 2 ^ 31) : ¬ Int32.ofNat i < 0 := by
  rw [Int32.lt_iff_toInt_lt, on_int hi, Int32.toInt_zero]; omega
theorem on_in {i n : Nat} (h : i < n) (hn : n < 2 ^ 31) : ¬ Int32.ofNat i < 0 ∧ Int32.ofNat i < Int32.ofNat n := ⟨on_nneg (by omega), on_lt h hn⟩
theorem on_inj {i n : Nat} (hi : i < 2 ^ 31) (hn : n < 2 ^ 31) : Int32.ofNat i = Int32.ofNat n ↔ i = n := by
  rw [← Int32.toInt_inj, on_int hi, on_int hn]; omega
theorem on_add (i j : Nat) : Int32.ofNat i + Int32.ofNat j = Int32.ofNat (i + j) := (Int32.ofNat_add i j).symm
theorem on_succ (i : Nat) : Int32.ofNat i + 1 = Int32.ofNat (i + 1) := (inc_ofNat i).symm
theorem on_sub {i j : Nat} (h : j ≤ i) : Int32.ofNat i - Int32.ofNat j = Int32.ofNat (i - j) := by
  have e := on_add (i - j) j
  rw [Nat.sub_add_cancel h] at e
  rw [← e, Int32.add_sub_cancel]
theorem nar_char_of {x : Int32} (h : ¬ x < 0 ∧ ¬ (65535 : Int32) < x) : nar .char x = x := by
  have q := c_i2c x
  have h1 := h.1; have h2 := h.2
  rw [Int32.lt_iff_toInt_lt] at h1 h2
  have e : (65535 : Int32).toInt = 65535 := rfl
  rw [Int32.toInt_zero] at h1
  rw [e] at h2
  show x.toUInt32.toUInt16.toUInt32.toInt32 = x
  rw [← Int32.toInt_inj]
  have := q.1; have := q.2.1; have := q.2.2
  omega
theorem nar_byte_idem (x : Int32) : nar .byte x.toInt8.toInt32 = x.toInt8.toInt32 := by
  show x.toInt8.toInt32.toInt8.toInt32 = _
  simp
/-- a char below 256: its byte read back -/
theorem byte_back {x : Int32} (h : ¬ x < 0 ∧ ¬ (255 : Int32) < x) : x.toInt8.toInt32 &&& 255 = x := by
  have h1 := h.1; have h2 := h.2
  rw [Int32.lt_iff_toInt_lt] at h1 h2
  have e : (255 : Int32).toInt = 255 := rfl
  rw [Int32.toInt_zero] at h1
  rw [e] at h2
  rw [← Int32.toInt_inj, c_mask _ _ 8 (by omega) (by decide)]
  have := c_i2b x
  omega
theorem up16 {x : Int32} (h : ¬ x < 0 ∧ ¬ (255 : Int32) < x) : ¬ x < 0 ∧ ¬ (65535 : Int32) < x := ⟨h.1, fun q => h.2 (by
  rw [Int32.lt_iff_toInt_lt] at q ⊢
  have e1 : (65535 : Int32).toInt = 65535 := rfl
  have e2 : (255 : Int32).toInt = 255 := rfl
  omega)⟩
/-- (char) (x & 255) -/
theorem c255 (x : Int32) : ¬ (x &&& (255 : Int32)).toUInt32.toUInt16.toUInt32.toInt32 < 0 ∧ ¬ (255 : Int32) < (x &&& (255 : Int32)).toUInt32.toUInt16.toUInt32.toInt32 := by
  rw [i2c_mask]
  have q := c_mask x 255 8 (by omega) (by decide)
  have e : (255 : Int32).toInt = 255 := rfl
  rw [Int32.lt_iff_toInt_lt, Int32.lt_iff_toInt_lt, Int32.toInt_zero, e, q]
  omega
end Nums
section Kit4
variable {p : Program} {l : Launch} {e : Env} {R : Room} {s : State} {m : MethodId} {args : Array Value} {below : List Frame} {meth : Method} {c : Code} {Z : State} {a0 : Array Value} {EL : List (String × Nat)} {kn : Bool} {own : String}
  {T : State} {h h' h2 : Heap} {ss : List Addr} {cells slots : Nat} {nm : String} {bytes : ByteArray} {maxL : Nat} {ret : Option FieldType} {kc ks : Nat} {P : Option Value → Heap → (Addr → Prop) → Prop} {pc : Nat} {Ls : Array Slot} {st : List Value}
  {a : Addr} {n j x : Int32} {ka : ClassId} {vs : List Value} {dv : Value}
theorem Fi.entry {L : Array Slot} {as' : Array Value} (q : entryFrame m as' maxL = mkF m 0 L []) (F : Fi p e below s Z EL kc ks P T (mkF m 0 L [])) : Fi p e below s Z EL kc ks P T (entryFrame m as' maxL) := q ▸ F
theorem set_push (vs : List Value) (dv v : Value) {i : Nat} (hi : vs.length = i) : (vs ++ List.replicate 1 dv).set i v = vs ++ [v] := by subst hi; simp
/-- castore behind the last place told -/
theorem Wk.castoreP {i : Nat} (W : Wk p l e R s m args below meth c Z EL kn own T h ss cells slots) (me : Me p meth c nm bytes maxL ret) (A : Arv Z h a ka .char n vs dv) (hx : ¬ x < 0 ∧ ¬ (65535 : Int32) < x) (hd : decode bytes pc = .ok (.castore, 1)) (hv : vs.length = i) (hi : j.toNatClampNeg = i) (hj : ¬ j < 0 ∧ j < n) (hz : Z.heap.size ≤ a)
    (k : ∀ T' h', Wk p l e R s m args below meth c Z EL kn own T' h' ss cells slots → Wr h h' a i (.int x) → Arv Z h' a ka .char n (vs ++ [.int x]) dv → Fi p e below s Z EL kc ks P T' (mkF m (pc + 1) Ls st)) : Fi p e below s Z EL kc ks P T (mkF m pc Ls (.int x :: .int j :: .ref a :: st)) :=
  W.castore me (A.pad (pad_rep vs dv 1)) hd hj hi (by simp [← hv]) hz (fun T' h' W' q A' => by
    rw [nar_char_of hx] at q A'
    rw [set_push _ _ _ hv] at A'
    exact k T' h' W' q A')
theorem Wk.bastoreP {i : Nat} (W : Wk p l e R s m args below meth c Z EL kn own T h ss cells slots) (me : Me p meth c nm bytes maxL ret) (A : Arv Z h a ka .byte n vs dv) (hx : nar .byte x = x) (hd : decode bytes pc = .ok (.bastore, 1)) (hv : vs.length = i) (hi : j.toNatClampNeg = i) (hj : ¬ j < 0 ∧ j < n) (hS : a ∈ ss) (hz : Z.heap.size ≤ a)
    (k : ∀ T' h', Wk p l e R s m args below meth c Z EL kn own T' h' ss cells slots → Wr h h' a i (.int x) → Arv Z h' a ka .byte n (vs ++ [.int x]) dv → Fi p e below s Z EL kc ks P T' (mkF m (pc + 1) Ls st)) : Fi p e below s Z EL kc ks P T (mkF m pc Ls (.int x :: .int j :: .ref a :: st)) :=
  W.bastore me (A.pad (pad_rep vs dv 1)) hd hj hi (by simp [← hv]) hS hz (fun T' h' W' q A' => by
    rw [hx] at q A'
    rw [set_push _ _ _ hv] at A'
    exact k T' h' W' q A')
/-- what a Latin-1 String's byte[] holds -/
def lb (cs : List Int32) : List Value := cs.map fun c => Value.int c.toInt8.toInt32
/-- every sign below 256 -/
def C8 (cs : List Int32) : Prop := ∀ c ∈ cs, ¬ c < 0 ∧ ¬ (255 : Int32) < c
/-- a String of signs below 256 -/
def Lat (Z : State) (h : Heap) (a : Addr) (cs : List Int32) : Prop :=
  ∃ (b : Addr) (k : ClassId), Exa Z h a "java/lang/String" ∧ Fld Z h a "java/lang/String" "coder" "B" (.int 0) ∧ Fld Z h a "java/lang/String" "value" "[B" (.ref b) ∧ Arv Z h b k .byte (Int32.ofNat cs.length) (lb cs) (.int 0) ∧ cs.length < 2 ^ 20 ∧ C8 cs
theorem Lat.ext {cs : List Int32} (E : Ext h h') (S : Lat Z h a cs) : Lat Z h' a cs := by
  obtain ⟨b, k, h1, h2, h3, h4, h5⟩ := S; exact ⟨b, k, h1.ext E, h2.ext E, h3.ext E, h4.ext E, h5⟩
theorem lb_len (cs : List Int32) : (lb cs).length = cs.length := by simp [lb]
theorem lb_get {cs : List Int32} {i : Nat} (hi : i < cs.length) : (lb cs).getD i (.int 0) = .int (cs.getD i 0).toInt8.toInt32 := by
  simp [lb, List.getD_eq_getElem?_getD, hi]
theorem ci_get {cs : List Int32} {i : Nat} {dv : Value} (hi : i < cs.length) : (cs.map Value.int).getD i dv = .int (cs.getD i 0) := by
  simp [List.getD_eq_getElem?_getD, hi]
theorem C8.at {cs : List Int32} (q : C8 cs) {i : Nat} (hi : i < cs.length) : ¬ cs.getD i 0 < 0 ∧ ¬ (255 : Int32) < cs.getD i 0 := by
  have : cs.getD i 0 = cs[i] := by simp [List.getD_eq_getElem?_getD, hi]
  rw [this]; exact q _ (List.getElem_mem hi)
theorem lb_take_succ {cs : List Int32} {i : Nat} (hi : i < cs.length) : lb (cs.take i) ++ [.int (cs.getD i 0).toInt8.toInt32] = lb (cs.take (i + 1)) := by
  have e : cs.take (i + 1) = cs.take i ++ [cs.getD i 0] := by rw [List.take_add_one]; simp [List.getD_eq_getElem?_getD, hi]
  rw [e]
  show _ = List.map _ (_ ++ [_])
  rw [List.map_append]
  rfl
theorem C8.nil : C8 [] := fun _ q => nomatch q
theorem C8.cons {c : Int32} {cs : List Int32} (q : ¬ c < 0 ∧ ¬ (255 : Int32) < c) (r : C8 cs) : C8 (c :: cs) := fun x hx => by
  rcases List.mem_cons.mp hx with rfl | hx
  · exact q
  · exact r x hx
end Kit4
end Jvm.OwnKit
namespace Jvm.OwnKit
open Jvm Jvm.ClassFile Sem Op Lib Jvm.Free Jvm.Stand Jvm.LawKit Jvm.RoadKit Bundle
section Kit5
variable {p : Program} {l : Launch} {e : Env} {R : Room} {s : State} {m : MethodId} {args : Array Value} {below : List Frame} {meth : Method} {c : Code} {Z : State} {a0 : Array Value} {EL : List (String × Nat)} {kn : Bool} {own : String}
  {T : State} {h h' h2 : Heap} {ss : List Addr} {cells slots : Nat} {nm : String} {bytes : ByteArray} {maxL : Nat} {ret : Option FieldType} {kc ks : Nat} {P : Option Value → Heap → (Addr → Prop) → Prop} {pc : Nat} {Ls : Array Slot} {st : List Value}
theorem own_nfw : nativeFrameWords "java/lang/System" "arraycopy" 5 = 7 := by decide
theorem Wk.keeps {g g' : JFrame} {ws : List Addr} {Q : Heap → Prop} (W : Wk p l e R s m args below meth c Z EL kn own T h ss cells slots) (hS : ∀ x ∈ ws, Sf Z h ss x) (hn : ∀ x ∈ ws, Z.heap.size ≤ x)
    (law : ∀ {vm0 : Vm} {locs : List Loc}, Stand p l e R (s.setVm vm0) m args below meth c T locs cells slots → Z.Warmed39 vm0 → vm0.findClass own = some m.cls → Fr Z.heap.size locs → ∃ T' h' L, Stand p l e R (s.setVm vm0) m args below meth c T' L cells slots ∧ T'.heap = h' ∧ Fr Z.heap.size L ∧ Keep h h' ws ∧ Q h' ∧ ∀ target, Steps p.tables e below (T'.setTop g') target → Steps p.tables e below (T.setTop g) target)
    (F : ∀ T' h', Wk p l e R s m args below meth c Z EL kn own T' h' ss cells slots → Keep h h' ws → Q h' → Fi p e below s Z EL kc ks P T' g') : Fi p e below s Z EL kc ks P T g := by
  obtain ⟨vm0, locs, k0, X, eT, hZ, hSi, hk, hown, N, O, C, hss, hK⟩ := W
  obtain ⟨T', h', L, X', e', N', K, q, st⟩ := law X hZ hown N
  have S0 : ∀ x ∈ ws, Safe Z EL vm0 h x := fun x hx => (hS x hx).safe hZ.alike hss
  have C2 := CHr.keep K S0 C.1
  exact (F T' h' ⟨vm0, L, k0, X', e', hZ, hSi, Nat.le_trans hk K.1, hown, N', O.keep K hn, C.trans C2, fun x hx => ⟨Nat.lt_of_lt_of_le (hss x hx).1 K.1, Safe.keep K S0 C.1 (hss x hx).2⟩, hK⟩ K q).step st
/-- System.arraycopy between two byte[]s, the places told -/
theorem Wk.acopy {index : Nat} {a b : Addr} {k k' : ClassId} {z z' sp dp nn : Int32} {vs vd us : List Value} {dv dd : Value} {ty : FieldType} (W : Wk p l e R s m args below meth c Z EL kn own T h ss cells slots) (me : Me p meth c nm bytes maxL ret)
    (w1 : (Cond.methodLink own index Jvm.Stand.acN).before a0 Z = true) (w2 : (Cond.native Jvm.Stand.acN).before a0 Z = true) (w3 : (Cond.static Jvm.Stand.acN).before a0 Z = true) (w4 : (Cond.initialized "java/lang/System").before a0 Z = true)
    (A : Arv Z h a k ty z vs dv) (B : Arv Z h b k' ty z' vd dd) (hty : refKind ty = false) (hS : Sf Z h ss b) (hz : Z.heap.size ≤ b)
    (h1 : ¬ sp < 0) (h2 : ¬ dp < 0) (h3 : ¬ nn < 0) (h4 : sp.toNatClampNeg + nn.toNatClampNeg ≤ z.toNatClampNeg) (h5 : dp.toNatClampNeg + nn.toNatClampNeg ≤ z'.toNatClampNeg)
    (hus : us = (List.range nn.toNatClampNeg).map fun i => vs.getD (sp.toNatClampNeg + i) dv) (hl : dp.toNatClampNeg + nn.toNatClampNeg ≤ vd.length) (hd : decode bytes pc = .ok (.invokestatic index, 3)) (hsz : Ls.size = maxL) (hf : 1 ≤ R.frames) (hlo : (st.map fun v => v.category).sum + 18 ≤ R.locals)
    (F : ∀ T' h', Wk p l e R s m args below meth c Z EL kn own T' h' ss cells slots → Keep h h' [b] → Arv Z h' b k' ty z' (vd.take dp.toNatClampNeg ++ us ++ vd.drop (dp.toNatClampNeg + nn.toNatClampNeg)) dd → Fi p e below s Z EL kc ks P T' (mkF m (pc + 3) Ls st)) :
    Fi p e below s Z EL kc ks P T (mkF m pc Ls (.int nn :: .int dp :: .ref b :: .int sp :: .ref a :: st)) :=
  W.keeps (ws := [b]) (Q := fun h' => Arv Z h' b k' ty z' (vd.take dp.toNatClampNeg ++ us ++ vd.drop (dp.toNatClampNeg + nn.toNatClampNeg)) dd) (allS hS all0) (allS hz all0)
    (fun X hZ hown N => by
      obtain ⟨T', h', L, X', e', N', K, q, st'⟩ := cpA X me.x hZ hown w1 w2 w3 w4 W.heap A B (Or.inl ⟨rfl, hty⟩) h1 h2 h3 h4 h5 hus hl N hz (g := mkF m pc Ls (.int nn :: .int dp :: .ref b :: .int sp :: .ref a :: st)) rfl (hsz.trans me.ml.symm) rfl (hb me.b hd) hf (W := (st.map fun v => v.category).sum) (by show 2 * 0 + _ ≤ _; omega) (by rw [own_nfw]; exact hlo)
      exact ⟨T', h', L, X', e', N', K, q, st'⟩)
    F
theorem own_fill {a : Addr} {k : ClassId} {ty : FieldType} {z : Int32} {dv : Value} (A : Arv Z h a k ty z [] dv) (n : Nat) : Arv Z h a k ty z (List.replicate n dv) dv := A.pad (pad_rep [] dv n)
/-- the signs from f on, n of them -/
def sub (cs : List Int32) (f n : Nat) : List Int32 := (cs.drop f).take n
theorem sub_len {cs : List Int32} {f n : Nat} (q : f + n ≤ cs.length) : (sub cs f n).length = n := by simp [sub]; omega
theorem sub_all (cs : List Int32) : sub cs 0 cs.length = cs := by simp [sub]
theorem sub_nil (cs : List Int32) (f : Nat) : sub cs f 0 = [] := by simp [sub]
theorem sub_get {cs : List Int32} {f n i : Nat} (hi : i < n) : (sub cs f n).getD i 0 = cs.getD (f + i) 0 := by
  simp [sub, List.getD_eq_getElem?_getD, List.getElem?_take, hi]
theorem C8.sub {cs : List Int32} (q : C8 cs) (f n : Nat) : C8 (Jvm.OwnKit.sub cs f n) := fun c hc => q c (List.mem_of_mem_drop (List.mem_of_mem_take hc))
theorem own_us {cs : List Int32} {f n : Nat} (q : f + n ≤ cs.length) : (List.range n).map (fun i => (lb cs).getD (f + i) (.int 0)) = lb (sub cs f n) := by
  apply List.ext_getElem
  · simp [lb_len, sub_len q]
  · intro i h1 h2
    have hi : i < n := by simpa using h1
    have e : (lb (sub cs f n))[i] = (lb (sub cs f n)).getD i (.int 0) := by simp [List.getD_eq_getElem?_getD, h2]
    rw [e, lb_get (by rw [sub_len q]; exact hi), sub_get hi]
    simp only [List.getElem_map, List.getElem_range]
    rw [lb_get (by omega)]
theorem byte_inj {x y : Int32} (hx : ¬ x < 0 ∧ ¬ (255 : Int32) < x) (hy : ¬ y < 0 ∧ ¬ (255 : Int32) < y) (q : x.toInt8.toInt32 = y.toInt8.toInt32) : x = y := by rw [← byte_back hx, q, byte_back hy]
/-- the first place of x, or -1 -/
def ixF (x : Int32) (cs : List Int32) : Int32 := if cs.findIdx (· == x) < cs.length then Int32.ofNat (cs.findIdx (· == x)) else -1
theorem gd {cs : List Int32} {i : Nat} (h : i < cs.length) : cs.getD i 0 = cs[i] := by simp [List.getD_eq_getElem?_getD, h]
theorem ixF_found {cs : List Int32} {x : Int32} {i : Nat} (h : i < cs.length) (e : cs.getD i 0 = x) (q : ∀ j, j < i → cs.getD j 0 ≠ x) : ixF x cs = Int32.ofNat i ∧ cs.findIdx (· == x) = i := by
  have e1 : cs.findIdx (· == x) = i := by
    rw [List.findIdx_eq h]
    refine ⟨by rw [← gd h, e]; simp, fun j hj => ?_⟩
    have := q j hj
    rw [gd (by omega)] at this
    simp [this]
  exact ⟨by rw [ixF, e1, if_pos h], e1⟩
theorem ixF_none {cs : List Int32} {x : Int32} (q : ∀ j, j < cs.length → cs.getD j 0 ≠ x) : ixF x cs = -1 := by
  rw [ixF, if_neg]
  intro h
  have e := List.findIdx_getElem (p := (· == x)) (w := h)
  have := q _ h
  rw [gd h] at this
  simp at e
  exact this e
theorem Lat.exa {a : Addr} {cs : List Int32} (L : Lat Z h a cs) : Exa Z h a "java/lang/String" := by obtain ⟨_, _, q, _⟩ := L; exact q
theorem al0 {P : Nat → Prop} : ∀ j, j < 0 → P j := fun j q => absurd q (Nat.not_lt_zero _)
theorem alS {P : Nat → Prop} {n : Nat} (q : ∀ j, j < n → P j) (r : P n) : ∀ j, j < n + 1 → P j := fun j z => (Nat.lt_succ_iff_lt_or_eq.mp z).elim (q j) (fun u => u ▸ r)
end Kit5
end Jvm.OwnKit
namespace Jvm.OwnKit
open Jvm Jvm.ClassFile Sem Op Lib Jvm.Free Jvm.Stand Jvm.LawKit Jvm.RoadKit Bundle
section Kit6
variable {p : Program} {l : Launch} {e : Env} {R : Room} {s : State} {m : MethodId} {args : Array Value} {below : List Frame} {meth : Method} {c : Code} {Z : State} {a0 : Array Value} {EL : List (String × Nat)} {kn : Bool} {own : String}
  {T : State} {h h' h2 : Heap} {ss : List Addr} {cells slots : Nat} {nm : String} {bytes : ByteArray} {maxL : Nat} {ret : Option FieldType} {kc ks : Nat} {P : Option Value → Heap → (Addr → Prop) → Prop} {pc : Nat} {Ls : Array Slot} {st : List Value}
/-- a class that bears a selected method is no interface -/
theorem nf_of_sel {C : String} {x y y' : MethodName} (w : (Cond.selects C x y).before a0 Z = true) (hc : y'.cls = y.cls) {vm0 : Vm} (hZ : Z.Warmed39 vm0) : NotFace (s.setVm vm0) y' := fun r0 h0 => by
  obtain ⟨-, -, m2, -, -, q3, -, mk, q5, q6⟩ := Cond.selects_spec (mvT (s := s.setVm vm0) (args := #[]) hZ w)
  have e1 := findClass_of_methodNamed q3
  have e2 := findClass_of_methodNamed h0
  rw [hc] at e2
  have e3 : r0.cls = m2.cls := Option.some.inj (e2.symm.trans e1)
  exact ⟨mk, by rw [e3]; exact q5, q6⟩
theorem own_same {C : String} {x y y' : MethodName} (w : (Cond.instanceMethod y).before a0 Z = true) (ws : (Cond.selects C x y').before a0 Z = true) (hc : y'.cls = y.cls) (hy : y.cls ≠ "java/lang/invoke/MethodHandle" ∧ y.cls ≠ "java/lang/invoke/VarHandle") : (Cond.sameMethod y.cls y.cls y.name y.desc).before a0 Z = true := by
  obtain ⟨mk, methM, hn, hm, -, -⟩ := Cond.instanceMethod_spec w
  obtain ⟨-, -, m2, -, -, q3, -, kk, q5, q6⟩ := Cond.selects_spec ws
  have e1 := findClass_of_methodNamed q3
  have e2 := findClass_of_methodNamed hn
  have e3 : mk.cls = m2.cls := by
    rw [hc] at e1
    exact Option.some.inj (e2.symm.trans e1)
  have hf := State.methodFound?_of_named hn hy
  have hn' : Z.methodNamed? ⟨y.cls, y.name, y.desc⟩ = some mk := hn
  show (Cond.sameMethod y.cls y.cls y.name y.desc).holds a0 Z none Z [] = true
  simp only [Cond.holds, Cond.value, e2, hf, hn', e3, q5, Option.any_some, q6, decide_true, Bool.not_false, Bool.and_self]
  rfl
theorem own_selp {C : String} {x y : MethodName} (w : (Cond.instanceMethod y).before a0 Z = true) (wp : (Cond.privateMethod y).before a0 Z = true) (ws : (Cond.selects C x y).before a0 Z = true) (hy : y.cls ≠ "java/lang/invoke/MethodHandle" ∧ y.cls ≠ "java/lang/invoke/VarHandle") : (Cond.selects y.cls y y).before a0 Z = true := by
  obtain ⟨mk, methM, hn, hm, -, -⟩ := Cond.instanceMethod_spec w
  obtain ⟨-, -, m2, -, -, q3, -, kk, q5, q6⟩ := Cond.selects_spec ws
  cases hn.symm.trans q3
  have e2 := findClass_of_methodNamed hn
  have hf := State.methodFound?_of_named hn hy
  have hpr : methM.isPrivate = true := Cond.privateMethod_at wp mk methM hn hm
  have hsel : selectMethod {} Z.vm mk.cls mk = .method mk := selectMethod_private hm hpr
  show (Cond.selects y.cls y y).holds a0 Z none Z [] = true
  simp only [Cond.holds, Cond.value, e2, hf, hn, hsel, q5, Option.any_some, q6, decide_true, Bool.not_false, Bool.and_self]
  rfl
section Calls6
variable {index : Nat} {y : MethodName} {ybytes : ByteArray} {ymaxL : Nat} {yret : Option FieldType} {rm : Room} {ss' : List Addr} {rest : List Value} {Q : Option Value → Heap → (Addr → Prop) → Prop} {argsL : List Value} {a : Addr} {CC : String}
/-- a private method, by invokevirtual -/
theorem Wk.callP {C : String} {x : MethodName} (W : Wk p l e R s m args below meth c Z EL kn own T h ss cells slots) (me : Me p meth c nm bytes maxL ret) (hEL : EW Z a0 EL) (w1 : (Cond.methodLink own index y).before a0 Z = true) (w2 : (Cond.instanceMethod y).before a0 Z = true) (wp : (Cond.privateMethod y).before a0 Z = true) (ws : (Cond.selects C x y).before a0 Z = true) (w5 : (Cond.initialized y.cls).before a0 Z = true) (w6 : (Cond.code y ybytes ymaxL yret).before a0 Z = true)
    (E : Exa Z h a CC) (hM : Con l Z EL kn [] y ybytes ymaxL yret rm (.ref a :: argsL).toArray h ss' Q) (hd : decode bytes pc = .ok (.invokevirtual index, 3)) (hy : y.cls ≠ "java/lang/invoke/MethodHandle" ∧ y.cls ≠ "java/lang/invoke/VarHandle") (hss : ∀ x ∈ ss', x ∈ ss) (hsz : Ls.size = maxL) (hlen : ∀ sig, parseMethodDescriptor y.desc = some sig → argsL.length = sig.parameters.length)
    (hf : rm.frames + 1 ≤ R.frames) (hl : (rest.map fun v => v.category).sum + (ymaxL + 11) + rm.locals ≤ R.locals) (hc : cells + rm.cells ≤ R.cells) (hs : slots + rm.slots ≤ R.slots) {stk : List Value} (hstk : stk = argsL.reverse ++ .ref a :: rest)
    (k : ∀ T' h' v, Wk p l e R s m args below meth c Z EL kn own T' h' ss (cells + rm.cells) (slots + rm.slots) → h.size ≤ h'.size → (∃ sf : Addr → Prop, (∀ xs : List Addr, (∀ x ∈ xs, sf x) → Wk p l e R s m args below meth c Z EL kn own T' h' (xs ++ ss) (cells + rm.cells) (slots + rm.slots)) ∧ Q v h' sf) → Fi p e below s Z EL kc ks P T' (mkF m (pc + 3) Ls (v.toList ++ rest))) : Fi p e below s Z EL kc ks P T (mkF m pc Ls stk) := by
  obtain ⟨vm0, locs, k0, X, eT, hZ, hS, hk, hown, N, O, C, hsf, hK⟩ := W
  subst hstk
  obtain ⟨cell, q1, q2⟩ := E.cell
  obtain ⟨v, vm1, B, hW1, X', hS2, hg, ⟨L, ⟨hq, NL, OB⟩, e1, e2, e3, C2⟩, stp⟩ := X.privateBackS me.x hown (mvT (s := s.setVm vm0) hZ w1) (mvT (s := s.setVm vm0) hZ w2) (mvT (s := s.setVm vm0) hZ (own_selp w2 wp ws hy)) (Cond.privateMethod_at (mvP (s := s.setVm vm0) (args := #[]) hZ wp)) (mvT (s := s.setVm vm0) hZ w6) hy
    (Con.back (Wt := (rest.map fun v => v.category).sum) hM hZ w6 w5 hf hl hEL C.1 (fun x hx => hsf x (hss x hx)) hK) (g := mkF m pc Ls (argsL.reverse ++ .ref a :: rest)) rfl (hsz.trans me.ml.symm) (Steps.refl _) (by rw [eT]; exact q1) q2 hlen rfl (by show 2 * 0 + _ ≤ _; omega) (hb me.b hd) (fun _ _ => ⟨rfl, eT, hc, hs⟩)
  have hg' : h.size ≤ B.U.heap.size := by rw [← eT]; exact hg
  have WB := Wk.behind X' hZ hS hk hown N C hsf hK hS2 hg' NL OB e1 e2 e3 C2
  exact (k B.U B.U.heap v (WB [] (fun _ q => nomatch q)) hg' ⟨_, WB, hq⟩).step fun t F => stp.trans F
/-- a superclass's method, by invokespecial -/
theorem Wk.callU {C : String} {x y' : MethodName} (W : Wk p l e R s m args below meth c Z EL kn own T h ss cells slots) (me : Me p meth c nm bytes maxL ret) (hEL : EW Z a0 EL) (w1 : (Cond.methodLink own index y).before a0 Z = true) (w2 : (Cond.instanceMethod y).before a0 Z = true) (wu : (Cond.superclass own y.cls).before a0 Z = true) (ws : (Cond.selects C x y').before a0 Z = true) (hcy : y'.cls = y.cls) (w5 : (Cond.initialized y.cls).before a0 Z = true) (w6 : (Cond.code y ybytes ymaxL yret).before a0 Z = true) (hyn : y.name ≠ "<init>")
    (E : Exa Z h a CC) (hM : Con l Z EL kn [] y ybytes ymaxL yret rm (.ref a :: argsL).toArray h ss' Q) (hd : decode bytes pc = .ok (.invokespecial index, 3)) (hy : y.cls ≠ "java/lang/invoke/MethodHandle" ∧ y.cls ≠ "java/lang/invoke/VarHandle") (hss : ∀ x ∈ ss', x ∈ ss) (hsz : Ls.size = maxL) (hlen : ∀ sig, parseMethodDescriptor y.desc = some sig → argsL.length = sig.parameters.length)
    (hf : rm.frames + 1 ≤ R.frames) (hl : (rest.map fun v => v.category).sum + (ymaxL + 11) + rm.locals ≤ R.locals) (hc : cells + rm.cells ≤ R.cells) (hs : slots + rm.slots ≤ R.slots) {stk : List Value} (hstk : stk = argsL.reverse ++ .ref a :: rest)
    (k : ∀ T' h' v, Wk p l e R s m args below meth c Z EL kn own T' h' ss (cells + rm.cells) (slots + rm.slots) → h.size ≤ h'.size → (∃ sf : Addr → Prop, (∀ xs : List Addr, (∀ x ∈ xs, sf x) → Wk p l e R s m args below meth c Z EL kn own T' h' (xs ++ ss) (cells + rm.cells) (slots + rm.slots)) ∧ Q v h' sf) → Fi p e below s Z EL kc ks P T' (mkF m (pc + 3) Ls (v.toList ++ rest))) : Fi p e below s Z EL kc ks P T (mkF m pc Ls stk) := by
  obtain ⟨vm0, locs, k0, X, eT, hZ, hS, hk, hown, N, O, C, hsf, hK⟩ := W
  subst hstk
  obtain ⟨v, vm1, B, hW1, X', hS2, hg, ⟨L, ⟨hq, NL, OB⟩, e1, e2, e3, C2⟩, stp⟩ := superBackS X me.x (Z := Z) hZ hown w1 (own_same w2 ws hcy hy) w2 wu hyn
    (Con.back (Wt := (rest.map fun v => v.category).sum) hM hZ w6 w5 hf hl hEL C.1 (fun x hx => hsf x (hss x hx)) hK) eT (Ins.self E) (g := mkF m pc Ls (argsL.reverse ++ .ref a :: rest)) rfl (hsz.trans me.ml.symm) w6 hlen rfl (by show 2 * 0 + _ ≤ _; omega) (hb me.b hd) (fun _ _ => ⟨rfl, eT, hc, hs⟩)
  have hg' : h.size ≤ B.U.heap.size := by rw [← eT]; exact hg
  have WB := Wk.behind X' hZ hS hk hown N C hsf hK hS2 hg' NL OB e1 e2 e3 C2
  exact (k B.U B.U.heap v (WB [] (fun _ q => nomatch q)) hg' ⟨_, WB, hq⟩).step fun t F => stp.trans F
end Calls6
/-- newarray, its class told -/
theorem Wk.newAE {aty : ArrayType} {cap : Nat} {n : Int32} {ad : String} (W : Wk p l e R s m args below meth c Z EL kn own T h ss cells slots) (me : Me p meth c nm bytes maxL ret) (w : (Cond.arrayClass (newarray.typeOf aty)).before a0 Z = true) (hd : decode bytes pc = .ok (.newarray aty, 2)) (hn : ¬ n < 0) (hcap : n.toNatClampNeg ≤ cap) (hbig : cap * 8 ≤ 536870912) (hc : cells + 1 ≤ R.cells) (hl : slots + cap ≤ R.slots) (had : "[" ++ (newarray.typeOf aty).toString = ad)
    (k : ∀ T' h' a ka, @Eq Nat h.size a → Wk p l e R s m args below meth c Z EL kn own T' h' (a :: ss) (cells + 1) (slots + cap) → Ext h h' → Arv Z h' a ka (newarray.typeOf aty) n [] (defaultValue (newarray.typeOf aty)) → Exa Z h' a ad → Fi p e below s Z EL kc ks P T' (mkF m (pc + 2) Ls (.ref a :: st))) : Fi p e below s Z EL kc ks P T (mkF m pc Ls (.int n :: st)) :=
  W.grows (k := 1) (n := cap) (Q := fun _ h' => (∃ ka, Arv Z h' h.size ka (newarray.typeOf aty) n [] (defaultValue (newarray.typeOf aty))) ∧ Exa Z h' h.size ad)
    (fun X hZ hown => by
      obtain ⟨T', h', cA, X', e', E, A, EX, st⟩ := Jvm.RoadKit.newPE X me.x hZ w W.heap (g := mkF m pc Ls (.int n :: st)) rfl (hb me.b hd) rfl hn hcap hbig hc hl had
      exact ⟨T', h', X', e', E, A.lt, ⟨⟨cA, Arv.new A hn⟩, EX⟩, st⟩)
    (fun T' h' W' E q => by obtain ⟨⟨ka, A⟩, EX⟩ := q; exact k T' h' h.size ka rfl W' E A EX)
/-- an array's clone() -/
theorem Wk.clone {index cap : Nat} {a : Addr} {ad : String} {k : ClassId} {ty : FieldType} {z : Int32} {vs : List Value} {dv : Value} (W : Wk p l e R s m args below meth c Z EL kn own T h ss cells slots) (me : Me p meth c nm bytes maxL ret)
    (w1 : (Cond.methodLink own index ⟨ad, "clone", "()Ljava/lang/Object;"⟩).before a0 Z = true) (w2 : (Cond.sameMethod ad "java/lang/Object" "clone" "()Ljava/lang/Object;").before a0 Z = true) (w3 : (Cond.native ⟨"java/lang/Object", "clone", "()Ljava/lang/Object;"⟩).before a0 Z = true)
    (w4 : (Cond.instanceMethod ⟨"java/lang/Object", "clone", "()Ljava/lang/Object;"⟩).before a0 Z = true) (w5 : (Cond.selects ad ⟨ad, "clone", "()Ljava/lang/Object;"⟩ ⟨"java/lang/Object", "clone", "()Ljava/lang/Object;"⟩).before a0 Z = true) (w6 : (Cond.castable ad "java/lang/Cloneable").before a0 Z = true)
    (A : Arv Z h a k ty z vs dv) (E : Exa Z h a ad) (hd : decode bytes pc = .ok (.invokevirtual index, 3)) (hsz : Ls.size = maxL) (hf : 1 ≤ R.frames) (hl : (st.map fun v => v.category).sum + 14 ≤ R.locals) (hcap : z.toNatClampNeg ≤ cap) (hc : cells + 1 ≤ R.cells) (hsl : slots + cap ≤ R.slots)
    (F : ∀ T' h' d, @Eq Nat h.size d → Wk p l e R s m args below meth c Z EL kn own T' h' (d :: ss) (cells + 1) (slots + cap) → Ext h h' → Arv Z h' d k ty z vs dv → Exa Z h' d ad → Fi p e below s Z EL kc ks P T' (mkF m (pc + 3) Ls (.ref d :: st))) :
    Fi p e below s Z EL kc ks P T (mkF m pc Ls (.ref a :: st)) :=
  W.grows (k := 1) (n := cap) (Q := fun _ h' => Arv Z h' h.size k ty z vs dv ∧ Exa Z h' h.size ad)
    (fun X hZ hown => by
      obtain ⟨T', h', X', e', E', A', EX, st'⟩ := cloneH X me.x hZ hown w1 w2 w3 w4 w5 w6 W.heap A.arh E (g := mkF m pc Ls (.ref a :: st)) rfl (hsz.trans me.ml.symm) rfl (hb me.b hd) hf (W := (st.map fun v => v.category).sum) (by show 2 * 0 + _ ≤ _; omega) hl hcap hc hsl
      exact ⟨T', h', X', e', E', EX.lt, ⟨A', EX⟩, st'⟩)
    (fun T' h' W' E' q => F T' h' h.size rfl W' E' q.1 q.2)
/-- a Latin-1 String and its array -/
def LatB (Z : State) (h : Heap) (a b : Addr) (cs : List Int32) : Prop :=
  ∃ k : ClassId, Exa Z h a "java/lang/String" ∧ Fld Z h a "java/lang/String" "coder" "B" (.int 0) ∧ Fld Z h a "java/lang/String" "value" "[B" (.ref b) ∧ Arv Z h b k .byte (Int32.ofNat cs.length) (lb cs) (.int 0) ∧ cs.length < 2 ^ 20 ∧ C8 cs
theorem Lat.opn {a : Addr} {cs : List Int32} (L : Lat Z h a cs) : ∃ b, LatB Z h a b cs := by obtain ⟨b, k, q⟩ := L; exact ⟨b, k, q⟩
theorem LatB.lat {a b : Addr} {cs : List Int32} (L : LatB Z h a b cs) : Lat Z h a cs := by obtain ⟨k, q⟩ := L; exact ⟨b, k, q⟩
theorem LatB.ext {a b : Addr} {cs : List Int32} (E : Ext h h') (L : LatB Z h a b cs) : LatB Z h' a b cs := by obtain ⟨k, h1, h2, h3, h4, h5⟩ := L; exact ⟨k, h1.ext E, h2.ext E, h3.ext E, h4.ext E, h5⟩
theorem LatB.exa {a b : Addr} {cs : List Int32} (L : LatB Z h a b cs) : Exa Z h a "java/lang/String" := L.lat.exa
theorem LatB.lt {a b : Addr} {cs : List Int32} (L : LatB Z h a b cs) : b < h.size := by obtain ⟨k, -, -, -, q, -⟩ := L; exact q.lt
/-- a StringBuilder that holds Latin-1 signs: its array b of cap places -/
def Sbd (Z : State) (h : Heap) (a b : Addr) (cs : List Int32) (cap : Nat) : Prop :=
  ∃ k : ClassId, Exa Z h a "java/lang/StringBuilder" ∧ Fld Z h a "java/lang/AbstractStringBuilder" "value" "[B" (.ref b) ∧ Fld Z h a "java/lang/AbstractStringBuilder" "coder" "B" (.int 0) ∧ Fld Z h a "java/lang/AbstractStringBuilder" "count" "I" (.int (Int32.ofNat cs.length)) ∧
    Arv Z h b k .byte (Int32.ofNat cap) (lb cs) (.int 0) ∧ Exa Z h b "[B" ∧ cs.length ≤ cap ∧ cap < 2 ^ 20 ∧ C8 cs
theorem Sbd.exa {a b : Addr} {cs : List Int32} {cap : Nat} (L : Sbd Z h a b cs cap) : Exa Z h a "java/lang/StringBuilder" := by obtain ⟨k, q, -⟩ := L; exact q
theorem Sbd.ext {a b : Addr} {cs : List Int32} {cap : Nat} (E : Ext h h') (L : Sbd Z h a b cs cap) : Sbd Z h' a b cs cap := by obtain ⟨k, h1, h2, h3, h4, h5, h6, h7⟩ := L; exact ⟨k, h1.ext E, h2.ext E, h3.ext E, h4.ext E, h5.ext E, h6.ext E, h7⟩
theorem C8.app {cs ds : List Int32} (q : C8 cs) (r : C8 ds) : C8 (cs ++ ds) := fun x hx => (List.mem_append.mp hx).elim (q x) (r x)
theorem lb_app (cs ds : List Int32) : lb (cs ++ ds) = lb cs ++ lb ds := by simp [lb]
end Kit6
end Jvm.OwnKit
namespace Jvm.OwnKit
open Jvm Jvm.ClassFile Sem Op Lib Jvm.Free Jvm.Stand Jvm.LawKit Jvm.RoadKit Bundle
section Kit7
variable {Z : State} {h h' h2 : Heap}
theorem own_shl0 (x : Int32) : x <<< ((0 : Int32) &&& 31) = x := by simp
theorem own_shr0 (x : Int32) : x >>> ((0 : Int32) &&& 31) = x := by simp
theorem own_plus2 (n : Nat) : Int32.ofNat n + 2 = Int32.ofNat (n + 2) := on_add n 2
theorem own_nmax {n : Nat} (h : n < 2 ^ 30) : ¬ Int32.ofNat n = (2147483647 : Int32) := by
  rw [← Int32.toInt_inj, on_int (by omega)]
  have : (2147483647 : Int32).toInt = 2147483647 := rfl
  omega
theorem own_cap {n : Nat} (h : n < 2 ^ 30) : ¬ (2147483639 : Int32) < Int32.ofNat n := by
  rw [Int32.lt_iff_toInt_lt, on_int (by omega)]
  have : (2147483639 : Int32).toInt = 2147483639 := rfl
  omega
theorem own_subint {i j : Nat} (hi : i < 2 ^ 30) (hj : j < 2 ^ 30) : (Int32.ofNat i - Int32.ofNat j).toInt = (i : Int) - j := by
  have q := c_isub (Int32.ofNat i) (Int32.ofNat j)
  rw [on_int (by omega), on_int (by omega)] at q
  have r := rng32 (Int32.ofNat i - Int32.ofNat j)
  omega
theorem own_suble {i j : Nat} (h : i ≤ j) (hj : j < 2 ^ 30) : ¬ 0 < Int32.ofNat i - Int32.ofNat j := by
  rw [Int32.lt_iff_toInt_lt, own_subint (by omega) hj, Int32.toInt_zero]; omega
theorem own_subgt {i j : Nat} (h : j < i) (hi : i < 2 ^ 30) : 0 < Int32.ofNat i - Int32.ofNat j := by
  rw [Int32.lt_iff_toInt_lt, own_subint hi (by omega), Int32.toInt_zero]; omega
theorem own_pad {a : Addr} {k : ClassId} {ty : FieldType} {z : Int32} {vs : List Value} {dv : Value} {N : Nat} (A : Arv Z h a k ty z vs dv) : Arv Z h a k ty z (vs ++ List.replicate (N - vs.length) dv) dv := A.pad (pad_rep vs dv _)
theorem own_padlen {vs : List Value} {dv : Value} {N : Nat} (q : vs.length ≤ N) : (vs ++ List.replicate (N - vs.length) dv).length = N := by simp; omega
theorem own_all (ds : List Int32) : lb ds = (List.range ds.length).map fun i => (lb ds).getD ((0 : Int32).toNatClampNeg + i) (.int 0) := by
  have q := own_us (cs := ds) (f := 0) (n := ds.length) (by omega)
  rw [sub_all] at q
  exact q.symm
theorem own_copied {a : Addr} {k : ClassId} {cs : List Int32} {N n : Nat} (A : Arv Z h a k .byte (Int32.ofNat n) (List.take (0 : Int32).toNatClampNeg (List.replicate N (Value.int 0)) ++ ((List.range N).map fun i => (lb cs).getD (0 + i) (.int 0)) ++ List.drop ((0 : Int32).toNatClampNeg + (Int32.ofNat N).toNatClampNeg) (List.replicate N (Value.int 0))) (.int 0)) (hN : N < 2 ^ 31) (hc : cs.length ≤ N) :
    Arv Z h a k .byte (Int32.ofNat n) (lb cs) (.int 0) := by
  refine A.pad fun i => ?_
  rw [on_clamp hN]
  have e : (List.take (0 : Int32).toNatClampNeg (List.replicate N (Value.int 0)) ++ ((List.range N).map fun i => (lb cs).getD (0 + i) (.int 0)) ++ List.drop ((0 : Int32).toNatClampNeg + N) (List.replicate N (Value.int 0))) = (List.range N).map fun i => (lb cs).getD i (.int 0) := by
    show List.take 0 _ ++ _ ++ List.drop (0 + N) _ = _
    simp
  rw [e]
  by_cases hi : i < N
  · simp [List.getD_eq_getElem?_getD, hi]
  · have h1 : (lb cs).length ≤ i := by rw [lb_len]; omega
    simp [List.getD_eq_getElem?_getD, hi, h1]
theorem own_laid {a : Addr} {k : ClassId} {cs ds : List Int32} {N : Nat} (A : Arv Z h a k .byte (Int32.ofNat N) (List.take (Int32.ofNat cs.length).toNatClampNeg (lb cs ++ List.replicate (N - (lb cs).length) (Value.int 0)) ++ lb ds ++ List.drop ((Int32.ofNat cs.length).toNatClampNeg + (Int32.ofNat ds.length).toNatClampNeg) (lb cs ++ List.replicate (N - (lb cs).length) (Value.int 0))) (.int 0)) (hN : N < 2 ^ 31) (hf : cs.length + ds.length ≤ N) :
    Arv Z h a k .byte (Int32.ofNat N) (lb (cs ++ ds)) (.int 0) := by
  refine A.pad fun i => ?_
  rw [on_clamp (by omega), on_clamp (by omega)]
  have e1 : List.take cs.length (lb cs ++ List.replicate (N - (lb cs).length) (Value.int 0)) = lb cs := by
    rw [List.take_append_of_le_length (by rw [lb_len]; exact Nat.le_refl _), List.take_of_length_le (by rw [lb_len]; exact Nat.le_refl _)]
  have e2 : List.drop (cs.length + ds.length) (lb cs ++ List.replicate (N - (lb cs).length) (Value.int 0)) = List.replicate (N - (cs.length + ds.length)) (Value.int 0) := by
    rw [List.drop_append, List.drop_eq_nil_of_le (by rw [lb_len]; omega), List.nil_append, List.drop_replicate, lb_len]
    congr 1
    omega
  rw [e1, e2, lb_app]
  exact (pad_rep (lb cs ++ lb ds) (.int 0) _ i).symm
theorem own_keep1 {a b : Addr} (K : Keep h h' [b]) : Keep h h' [a, b] := ⟨K.1, fun x c q r => K.2.1 x c q (fun z => r (List.mem_cons_of_mem _ z)), K.2.2⟩
theorem own_keep2 {h3 h4 : Heap} {a b d : Addr} {sl : Nat} {v : Value} (K : Keep h h' [a]) (K2 : Keep h' h3 [d]) (W : Wr h3 h4 a sl v) (y : h.size ≤ d) : Keep h h4 [a, b] := by
  have K' : Keep h h' [a, b] := ⟨K.1, fun x c q r => K.2.1 x c q (fun z => r (by rw [List.mem_singleton.mp z]; exact List.mem_cons_self ..)), K.2.2⟩
  have K3 : Keep h h3 [a, b] := K'.trans K2 (fun x hx => by rw [List.mem_singleton.mp hx]; exact Or.inr y)
  exact K3.wr W (Or.inl (List.mem_cons_self ..))
theorem LatB.keep {a b : Addr} {cs : List Int32} {ws : List Addr} (L : LatB Z h a b cs) (K : Keep h h' ws) (ha : a ∉ ws) (hb : b ∉ ws) : LatB Z h' a b cs := by
  obtain ⟨k, h1, h2, h3, h4, h5⟩ := L
  exact ⟨k, h1.keep K, h2.keep K ha, h3.keep K ha, h4.keep K hb, h5⟩
end Kit7
end Jvm.OwnKit
namespace Jvm.OwnKit
open Jvm Jvm.ClassFile Sem Op Lib Jvm.Free Jvm.Stand Jvm.LawKit Jvm.RoadKit Bundle
section Kit8
theorem own_gl {xs ys : List Int32} {i : Nat} (h : i < xs.length) : (xs ++ ys).getD i 0 = xs.getD i 0 := by
  simp [List.getD_eq_getElem?_getD, List.getElem?_append_left h]
theorem own_gr {xs ys : List Int32} {n k : Nat} (h : xs.length = n) : (xs ++ ys).getD (n + k) 0 = ys.getD k 0 := by
  subst h
  simp [List.getD_eq_getElem?_getD, List.getElem?_append_right]
theorem own_gr0 {xs ys : List Int32} {n : Nat} (h : xs.length = n) : (xs ++ ys).getD n 0 = ys.getD 0 0 := own_gr (k := 0) h
theorem own_sub0 {c0 c1 : Int32} {n : Nat} (h : 1 ≤ n) : (sub [c0, c1] 0 n).getD 0 0 = c0 := by
  rw [sub_get (by omega)]; rfl
theorem own_sub1 {c0 c1 : Int32} {n : Nat} (h : 2 ≤ n) : (sub [c0, c1] 0 n).getD 1 0 = c1 := by
  rw [sub_get (by omega)]; rfl
theorem own_012 {n : Nat} (h : n ≤ 2) : n = 0 ∨ n = 1 ∨ n = 2 := by omega
theorem own_0123 {n : Nat} (h : n ≤ 3) : n = 0 ∨ n = 1 ∨ n = 2 ∨ n = 3 := by omega
theorem own_on {x : Int32} {k : Nat} (h : x.toInt = k) (hk : k < 2 ^ 31) : x = Int32.ofNat k := by
  rw [← Int32.toInt_inj, on_int hk]; exact h
theorem on_lit {n k : Nat} (x : Int32) (h : Int32.ofNat k = x) (hn : n < 2 ^ 31) (hk : k < 2 ^ 31) : Int32.ofNat n < x ↔ n < k := by
  subst h
  constructor
  · intro q
    rw [Int32.lt_iff_toInt_lt, on_int hn, on_int hk] at q; omega
  · intro q; exact on_lt q hk
theorem own_latk {Z : State} {a0 : Array Value} {h h' : Heap} {a x : Addr} {cs : List Int32} {C : String} {n : Nat} (L : Lat Z h a cs) (K : Keep h h' [x]) (EX : Exa Z h x C) (hC : "java/lang/String" ≠ C) (w : (Cond.instantiable C n).before a0 Z = true) : Lat Z h' a cs := by
  obtain ⟨b, k, h1, h2, h3, h4, h5⟩ := L
  have ha : a ∉ [x] := ninS (Exa.ne h1 EX hC) nin0
  exact ⟨b, k, h1.keep K, h2.keep K ha, h3.keep K ha, h4.keep K (ninS (EX.neArv h4 w).symm nin0), h5⟩
theorem own_mod3 (x : Int32) : ∃ k : Nat, k ≤ 2 ∧ (x &&& (3 : Int32)) % (3 : Int32) = Int32.ofNat k := by
  have q := c_mask x 3 2 (by omega) (by decide)
  have r := c_irem (x &&& 3) 3 3 rfl
  have := r.1 (by omega)
  refine ⟨((x &&& (3 : Int32)) % (3 : Int32)).toInt.toNat, by omega, own_on (by omega) (by omega)⟩
theorem own_ge1 {n : Nat} (hn : n < 2 ^ 31) (q : ¬ Int32.ofNat n < 1) : 1 ≤ n := by
  exact Nat.le_of_not_lt fun z => q ((on_lit (n := n) (k := 1) 1 rfl hn (by decide)).mpr z)
theorem own_ge2 {n : Nat} (hn : n < 2 ^ 31) (q : ¬ Int32.ofNat n < 2) : 2 ≤ n := by
  exact Nat.le_of_not_lt fun z => q ((on_lit (n := n) (k := 2) 2 rfl hn (by decide)).mpr z)
theorem own_ge3 {n : Nat} (hn : n < 2 ^ 31) (q : ¬ Int32.ofNat n < 3) : 3 ≤ n := by
  exact Nat.le_of_not_lt fun z => q ((on_lit (n := n) (k := 3) 3 rfl hn (by decide)).mpr z)
end Kit8
end Jvm.OwnKit
namespace Jvm.OwnKit
open Jvm Jvm.ClassFile Sem Op Lib Jvm.Free Jvm.Stand Jvm.LawKit Jvm.RoadKit Bundle
section Kit9
variable {Z : State} {h h' h2 : Heap}
theorem own_eqint {args : Array Value} {first s : State} {o : Option Outcome} {idx : List Nat} {t : Term} {k : Int32} (h : (Cond.eq t (Term.int k)).value args first o s idx = some true) : t.eval args first o idx s = some (.int k) := by
  simp only [Cond.value, Term.eval] at h
  cases ht : t.eval args first o idx s with
  | none => simp [ht] at h
  | some x => cases x <;> simp [ht] at h ⊢; exact h
/-- the two bytes of a char, low first -/
def u16b (cs : List Int32) : List Value := cs.flatMap fun c => [Value.int (c >>> ((0 : Int32) &&& 31)).toInt8.toInt32, Value.int (c >>> ((8 : Int32) &&& 31)).toInt8.toInt32]
def C16 (cs : List Int32) : Prop := ∀ c ∈ cs, ¬ c < 0 ∧ ¬ (65535 : Int32) < c
theorem C8.c16 {cs : List Int32} (q : C8 cs) : C16 cs := fun c hc => up16 (q c hc)
theorem ub_len (cs : List Int32) : (u16b cs).length = cs.length + cs.length := by
  induction cs with
  | nil => rfl
  | cons c cs ih => simp only [u16b, List.flatMap_cons, List.length_append, List.length_cons, List.length_nil] at ih ⊢; omega
theorem ub_app (cs ds : List Int32) : u16b (cs ++ ds) = u16b cs ++ u16b ds := by simp [u16b]
theorem ub_get {cs : List Int32} {i : Nat} (hi : i < cs.length) : (u16b cs).getD (i + i) (.int 0) = .int (cs.getD i 0 >>> ((0 : Int32) &&& 31)).toInt8.toInt32 ∧ (u16b cs).getD (i + i + 1) (.int 0) = .int (cs.getD i 0 >>> ((8 : Int32) &&& 31)).toInt8.toInt32 := by
  induction cs generalizing i with
  | nil => exact absurd hi (Nat.not_lt_zero _)
  | cons c cs ih =>
    cases i with
    | zero => exact ⟨rfl, rfl⟩
    | succ i =>
      have q := ih (i := i) (by simpa using hi)
      have e1 : i + 1 + (i + 1) = i + i + 2 := by omega
      have e2 : i + 1 + (i + 1) + 1 = i + i + 1 + 2 := by omega
      rw [e2, e1]
      exact q
theorem own_nn {x : Int32} {n : Nat} (h : x.toInt = n) : x.toBitVec.toNat = n := by
  have q : x.toInt = x.toBitVec.toInt := rfl
  have := x.toBitVec.isLt
  rw [q, BitVec.toInt_eq_toNat_cond] at h
  split at h <;> omega
theorem own_or {x y : Int32} {n m : Nat} (hx : x.toInt = n) (hn : n < 256) (hy : y.toInt = 256 * m) (hm : m < 256) : (x ||| y).toInt = n + 256 * m := by
  have hy' : y.toInt = ((256 * m : Nat) : Int) := by rw [hy]; omega
  have e : (x ||| y).toBitVec.toNat = n + 256 * m := by
    show (x.toBitVec ||| y.toBitVec).toNat = _
    rw [BitVec.toNat_or, own_nn hx, own_nn hy', Nat.or_comm]
    have q := Nat.two_pow_add_eq_or_of_lt (i := 8) (b := n) hn m
    have e8 : 2 ^ 8 = 256 := rfl
    rw [e8] at q
    omega
  show (x ||| y).toBitVec.toInt = _
  rw [BitVec.toInt_eq_toNat_cond, e]
  split <;> omega
/-- a char's two bytes read back -/
theorem c16_back {c : Int32} (h : ¬ c < 0 ∧ ¬ (65535 : Int32) < c) : (((c >>> ((0 : Int32) &&& 31)).toInt8.toInt32 &&& (255 : Int32)) <<< ((0 : Int32) &&& 31) ||| ((c >>> ((8 : Int32) &&& 31)).toInt8.toInt32 &&& (255 : Int32)) <<< ((8 : Int32) &&& 31)).toUInt32.toUInt16.toUInt32.toInt32 = c := by
  have h1 := h.1; have h2 := h.2
  rw [Int32.lt_iff_toInt_lt] at h1 h2
  have e : (65535 : Int32).toInt = 65535 := rfl
  rw [Int32.toInt_zero] at h1
  rw [e] at h2
  rw [own_shr0, own_shl0]
  have l1 := c_i2b c
  have l2 := c_mask c.toInt8.toInt32 255 8 (by omega) (by decide)
  have s1 := c_ishr c 8 8 (by decide)
  have u1 := c_i2b (c >>> ((8 : Int32) &&& 31))
  have u2 := c_mask (c >>> ((8 : Int32) &&& 31)).toInt8.toInt32 255 8 (by omega) (by decide)
  have u3 := c_ishl ((c >>> ((8 : Int32) &&& 31)).toInt8.toInt32 &&& 255) 8 8 (by decide)
  have r3 := rng32 (((c >>> ((8 : Int32) &&& 31)).toInt8.toInt32 &&& 255) <<< ((8 : Int32) &&& 31))
  have e8 : ((2 ^ 8 : Nat) : Int) = 256 := rfl
  rw [e8] at l2 s1 u2 u3
  have q := own_or (x := c.toInt8.toInt32 &&& 255) (y := ((c >>> ((8 : Int32) &&& 31)).toInt8.toInt32 &&& 255) <<< ((8 : Int32) &&& 31)) (n := (c.toInt % 256).toNat) (m := (c.toInt / 256).toNat) (by omega) (by omega) (by omega) (by omega)
  have w := c_i2c (c.toInt8.toInt32 &&& 255 ||| ((c >>> ((8 : Int32) &&& 31)).toInt8.toInt32 &&& 255) <<< ((8 : Int32) &&& 31))
  rw [← Int32.toInt_inj]
  omega
theorem own_shl1 {n : Nat} (h : n < 41) : Int32.ofNat n <<< ((1 : Int32) &&& 31) = Int32.ofNat (n + n) := (by decide : ∀ n, n < 41 → Int32.ofNat n <<< ((1 : Int32) &&& 31) = Int32.ofNat (n + n)) n h
theorem own_shr1 {n : Nat} (h : n < 41) : Int32.ofNat (n + n) >>> ((1 : Int32) &&& 31) = Int32.ofNat n := (by decide : ∀ n, n < 41 → Int32.ofNat (n + n) >>> ((1 : Int32) &&& 31) = Int32.ofNat n) n h
theorem own_cdl {n : Nat} (h : n < 41) (h0 : 0 < n) : (XT.ushr (Int32.ofNat n - Int32.ofNat (n + n)) (31 : Int32)).toInt8.toInt32 = 1 := (by decide : ∀ n, n < 41 → 0 < n → (XT.ushr (Int32.ofNat n - Int32.ofNat (n + n)) (31 : Int32)).toInt8.toInt32 = 1) n h h0
theorem C16.at {cs : List Int32} (q : C16 cs) {i : Nat} (hi : i < cs.length) : ¬ cs.getD i 0 < 0 ∧ ¬ (65535 : Int32) < cs.getD i 0 := by
  rw [gd hi]; exact q _ (List.getElem_mem hi)
theorem C16.app {cs ds : List Int32} (q : C16 cs) (r : C16 ds) : C16 (cs ++ ds) := fun x hx => (List.mem_append.mp hx).elim (q x) (r x)
/-- (char) (x & 65535) -/
theorem c65535 (x : Int32) : ¬ (x &&& (65535 : Int32)).toUInt32.toUInt16.toUInt32.toInt32 < 0 ∧ ¬ (65535 : Int32) < (x &&& (65535 : Int32)).toUInt32.toUInt16.toUInt32.toInt32 := by
  have q := c_i2c (x &&& (65535 : Int32))
  have e : (65535 : Int32).toInt = 65535 := rfl
  rw [Int32.lt_iff_toInt_lt, Int32.lt_iff_toInt_lt, Int32.toInt_zero, e]
  omega
/-- the first char above 255 -/
theorem own_first {cs : List Int32} (q : C16 cs) (r : ¬ C8 cs) : ∃ i, i < cs.length ∧ (255 : Int32) < cs.getD i 0 ∧ ∀ j, j < i → ¬ cs.getD j 0 < 0 ∧ ¬ (255 : Int32) < cs.getD j 0 := by
  induction cs with
  | nil => exact absurd C8.nil r
  | cons c cs ih =>
    by_cases hc : (255 : Int32) < c
    · exact ⟨0, by simp, hc, al0⟩
    · have hc' : ¬ c < 0 ∧ ¬ (255 : Int32) < c := ⟨(q c (List.mem_cons_self ..)).1, hc⟩
      obtain ⟨i, h1, h2, h3⟩ := ih (fun x hx => q x (List.mem_cons_of_mem _ hx)) (fun z => r (C8.cons hc' z))
      refine ⟨i + 1, by simpa using h1, h2, fun j hj => ?_⟩
      cases j with
      | zero => exact hc'
      | succ j => exact h3 j (by omega)
/-- what lies in the array, by the coder -/
def encB (e : Bool) (cs : List Int32) : List Value := match e with | true => u16b cs | false => lb cs
def cdB : Bool → Int32 | true => 1 | false => 0
def szB : Bool → Nat → Nat | true, n => n + n | false, n => n
def okB (e : Bool) (cs : List Int32) : Prop := match e with | true => C16 cs | false => C8 cs
theorem encB_len (e : Bool) (cs : List Int32) : (encB e cs).length = szB e cs.length := by cases e; exact lb_len cs; exact ub_len cs
theorem encB_app (e : Bool) (cs ds : List Int32) : encB e (cs ++ ds) = encB e cs ++ encB e ds := by cases e; exact lb_app cs ds; exact ub_app cs ds
theorem szB_add (e : Bool) (n m : Nat) : szB e (n + m) = szB e n + szB e m := by cases e <;> simp only [szB] <;> omega
theorem szB_le (e : Bool) (n : Nat) : n ≤ szB e n ∧ szB e n ≤ n + n := by cases e <;> simp only [szB] <;> omega
theorem okB_app {e : Bool} {cs ds : List Int32} (q : okB e cs) (r : okB e ds) : okB e (cs ++ ds) := by cases e; exact C8.app q r; exact C16.app q r
theorem okB.c16 {e : Bool} {cs : List Int32} (q : okB e cs) : C16 cs := by cases e; exact C8.c16 q; exact q
theorem shrB (e : Bool) {n : Nat} (h : n < 41) : Int32.ofNat (szB e n) >>> (cdB e &&& 31) = Int32.ofNat n := by cases e; exact own_shr0 _; exact own_shr1 h
theorem shlB (e : Bool) {n : Nat} (h : n < 41) : Int32.ofNat n <<< (cdB e &&& 31) = Int32.ofNat (szB e n) := by cases e; exact own_shl0 _; exact own_shl1 h
theorem cdB_nar (e : Bool) : nar .byte (cdB e) = cdB e := by cases e <;> decide
/-- a String with its coder and its array -/
def StB (Z : State) (h : Heap) (a b : Addr) (e : Bool) (cs : List Int32) : Prop :=
  ∃ k : ClassId, Exa Z h a "java/lang/String" ∧ Fld Z h a "java/lang/String" "coder" "B" (.int (cdB e)) ∧ Fld Z h a "java/lang/String" "value" "[B" (.ref b) ∧ Arv Z h b k .byte (Int32.ofNat (szB e cs.length)) (encB e cs) (.int 0) ∧ cs.length < 17 ∧ okB e cs
theorem StB.exa {a b : Addr} {e : Bool} {cs : List Int32} (L : StB Z h a b e cs) : Exa Z h a "java/lang/String" := by obtain ⟨k, q, -⟩ := L; exact q
theorem StB.ext {a b : Addr} {e : Bool} {cs : List Int32} (E : Ext h h') (L : StB Z h a b e cs) : StB Z h' a b e cs := by obtain ⟨k, h1, h2, h3, h4, h5⟩ := L; exact ⟨k, h1.ext E, h2.ext E, h3.ext E, h4.ext E, h5⟩
theorem StB.keep {a b : Addr} {e : Bool} {cs : List Int32} {ws : List Addr} (L : StB Z h a b e cs) (K : Keep h h' ws) (ha : a ∉ ws) (hb : b ∉ ws) : StB Z h' a b e cs := by
  obtain ⟨k, h1, h2, h3, h4, h5⟩ := L
  exact ⟨k, h1.keep K, h2.keep K ha, h3.keep K ha, h4.keep K hb, h5⟩
theorem StB.of {a b : Addr} {cs : List Int32} (L : LatB Z h a b cs) (hl : cs.length < 17) : StB Z h a b false cs := by obtain ⟨k, h1, h2, h3, h4, h5, h6⟩ := L; exact ⟨k, h1, h2, h3, h4, hl, h6⟩
theorem StB.lat {a b : Addr} {cs : List Int32} (L : StB Z h a b false cs) : LatB Z h a b cs := by obtain ⟨k, h1, h2, h3, h4, h5, h6⟩ := L; exact ⟨k, h1, h2, h3, h4, Nat.lt_trans h5 (by decide), h6⟩
theorem StB.lt {a b : Addr} {e : Bool} {cs : List Int32} (L : StB Z h a b e cs) : b < h.size := by obtain ⟨k, -, -, -, q, -⟩ := L; exact q.lt
/-- a StringBuilder with its coder: room for 16 signs -/
def SbB (Z : State) (h : Heap) (a b : Addr) (e : Bool) (cs : List Int32) : Prop :=
  ∃ k : ClassId, Exa Z h a "java/lang/StringBuilder" ∧ Fld Z h a "java/lang/AbstractStringBuilder" "value" "[B" (.ref b) ∧ Fld Z h a "java/lang/AbstractStringBuilder" "coder" "B" (.int (cdB e)) ∧ Fld Z h a "java/lang/AbstractStringBuilder" "count" "I" (.int (Int32.ofNat cs.length)) ∧ Fld Z h a "java/lang/AbstractStringBuilder" "maybeLatin1" "Z" (.int 0) ∧
    Arv Z h b k .byte (Int32.ofNat (szB e 16)) (encB e cs) (.int 0) ∧ Exa Z h b "[B" ∧ cs.length ≤ 16 ∧ okB e cs
theorem SbB.exa {a b : Addr} {e : Bool} {cs : List Int32} (L : SbB Z h a b e cs) : Exa Z h a "java/lang/StringBuilder" := by obtain ⟨k, q, -⟩ := L; exact q
theorem SbB.ext {a b : Addr} {e : Bool} {cs : List Int32} (E : Ext h h') (L : SbB Z h a b e cs) : SbB Z h' a b e cs := by obtain ⟨k, h1, h2, h3, h4, h5, h6, h7, h8⟩ := L; exact ⟨k, h1.ext E, h2.ext E, h3.ext E, h4.ext E, h5.ext E, h6.ext E, h7.ext E, h8⟩
theorem own_allV (us : List Value) : us = (List.range us.length).map fun i => us.getD ((0 : Int32).toNatClampNeg + i) (.int 0) := by
  apply List.ext_getElem
  · simp
  · intro i h1 h2
    simp only [List.getElem_map, List.getElem_range]
    have e : (0 : Int32).toNatClampNeg + i = i := by show 0 + i = i; omega
    rw [e, List.getD_eq_getElem?_getD, List.getElem?_eq_getElem h1]; rfl
theorem own_laidV {a : Addr} {k : ClassId} {vs us : List Value} {N n m : Nat} (hn : vs.length = n) (hm : us.length = m) (A : Arv Z h a k .byte (Int32.ofNat N) (List.take (Int32.ofNat n).toNatClampNeg (vs ++ List.replicate (N - vs.length) (Value.int 0)) ++ us ++ List.drop ((Int32.ofNat n).toNatClampNeg + (Int32.ofNat m).toNatClampNeg) (vs ++ List.replicate (N - vs.length) (Value.int 0))) (.int 0)) (hN : N < 2 ^ 31) (hf : n + m ≤ N) :
    Arv Z h a k .byte (Int32.ofNat N) (vs ++ us) (.int 0) := by
  subst hn; subst hm
  refine A.pad fun i => ?_
  rw [on_clamp (by omega), on_clamp (by omega)]
  have e1 : List.take vs.length (vs ++ List.replicate (N - vs.length) (Value.int 0)) = vs := by simp
  have e2 : List.drop (vs.length + us.length) (vs ++ List.replicate (N - vs.length) (Value.int 0)) = List.replicate (N - (vs.length + us.length)) (Value.int 0) := by
    rw [List.drop_append, List.drop_eq_nil_of_le (by omega), List.nil_append, List.drop_replicate]
    congr 1
    omega
  rw [e1, e2]
  exact (pad_rep (vs ++ us) (.int 0) _ i).symm
/-- the beginning of an array copied into a new one -/
theorem own_cutV {a : Addr} {k : ClassId} {vs : List Value} {n : Nat} (hn : vs.length = n) (A : Arv Z h a k .byte (Int32.ofNat n) (List.take (0 : Int32).toNatClampNeg (List.replicate n (Value.int 0)) ++ vs ++ List.drop ((0 : Int32).toNatClampNeg + (Int32.ofNat n).toNatClampNeg) (List.replicate n (Value.int 0))) (.int 0)) (hN : n < 2 ^ 31) :
    Arv Z h a k .byte (Int32.ofNat n) vs (.int 0) := by
  have eA : List.take (0 : Int32).toNatClampNeg (List.replicate n (Value.int 0)) ++ vs ++ List.drop ((0 : Int32).toNatClampNeg + (Int32.ofNat n).toNatClampNeg) (List.replicate n (Value.int 0)) = vs := by
    rw [on_clamp hN]
    show List.take 0 _ ++ _ ++ List.drop (0 + n) _ = _
    simp
  rw [eA] at A
  exact A
theorem ub_snoc (cs : List Int32) (c : Int32) : u16b cs ++ [.int (c >>> ((0 : Int32) &&& 31)).toInt8.toInt32] ++ [.int (c >>> ((8 : Int32) &&& 31)).toInt8.toInt32] = u16b (cs ++ [c]) := by rw [ub_app]; simp [u16b]
theorem take_snoc {cs : List Int32} {i : Nat} (hi : i < cs.length) : cs.take i ++ [cs.getD i 0] = cs.take (i + 1) := by rw [List.take_add_one]; simp [List.getD_eq_getElem?_getD, hi]
theorem own_stk {a0 : Array Value} {a b x : Addr} {e : Bool} {cs : List Int32} {C : String} {n : Nat} (L : StB Z h a b e cs) (K : Keep h h' [x]) (EX : Exa Z h x C) (hC : "java/lang/String" ≠ C) (w : (Cond.instantiable C n).before a0 Z = true) : StB Z h' a b e cs := by
  have L' := L
  obtain ⟨k, h1, h2, h3, h4, h5⟩ := L'
  exact L.keep K (ninS (Exa.ne h1 EX hC) nin0) (ninS (EX.neArv h4 w).symm nin0)
end Kit9
end Jvm.OwnKit
namespace Jvm.Pilot.@@N@@
open Jvm Jvm.ClassFile Sem Op Lib Jvm.Free Jvm.Stand Jvm.LawKit Jvm.RoadKit Bundle Jvm.OwnKit Jvm.Pilot.@@N@@.Jvm.D
theorem d_jdk_52_method_15_0 : decode jdk_52_method_15_code 0 = .ok (.iload_n 1, 1) := by decide +kernel
theorem d_jdk_52_method_15_1 : decode jdk_52_method_15_code 1 = .ok (.aload_n 0, 1) := by decide +kernel
theorem d_jdk_52_method_15_2 : decode jdk_52_method_15_code 2 = .ok (.arraylength, 1) := by decide +kernel
theorem d_jdk_52_method_15_3 : decode jdk_52_method_15_code 3 = .ok (.isub, 1) := by decide +kernel
theorem d_jdk_52_method_15_4 : decode jdk_52_method_15_code 4 = .ok (.bipush 31, 2) := by decide +kernel
theorem d_jdk_52_method_15_6 : decode jdk_52_method_15_code 6 = .ok (.iushr, 1) := by decide +kernel
theorem d_jdk_52_method_15_7 : decode jdk_52_method_15_code 7 = .ok (.i2b, 1) := by decide +kernel
theorem d_jdk_52_method_15_8 : decode jdk_52_method_15_code 8 = .ok (.ireturn, 1) := by decide +kernel
theorem d_jdk_52_method_21_3 : decode jdk_52_method_21_code 3 = .ok (.iload 5, 2) := by decide +kernel
theorem d_jdk_52_method_21_5 : decode jdk_52_method_21_code 5 = .ok (.iload 4, 2) := by decide +kernel
theorem d_jdk_52_method_21_7 : decode jdk_52_method_21_code 7 = .ok (.if_icmp .ge 37, 3) := by decide +kernel
theorem d_jdk_52_method_21_44 : decode jdk_52_method_21_code 44 = .ok (.iload 4, 2) := by decide +kernel
theorem d_jdk_52_method_21_46 : decode jdk_52_method_21_code 46 = .ok (.ireturn, 1) := by decide +kernel
theorem d_jdk_52_method_21_10 : decode jdk_52_method_21_code 10 = .ok (.aload_n 0, 1) := by decide +kernel
theorem d_jdk_52_method_21_11 : decode jdk_52_method_21_code 11 = .ok (.iload_n 1, 1) := by decide +kernel
theorem d_jdk_52_method_21_12 : decode jdk_52_method_21_code 12 = .ok (.caload, 1) := by decide +kernel
theorem d_jdk_52_method_21_13 : decode jdk_52_method_21_code 13 = .ok (.istore 6, 2) := by decide +kernel
theorem d_jdk_52_method_21_15 : decode jdk_52_method_21_code 15 = .ok (.iload 6, 2) := by decide +kernel
theorem d_jdk_52_method_21_17 : decode jdk_52_method_21_code 17 = .ok (.sipush 255, 3) := by decide +kernel
theorem d_jdk_52_method_21_20 : decode jdk_52_method_21_code 20 = .ok (.if_icmp .le 6, 3) := by decide +kernel
theorem d_jdk_52_method_21_26 : decode jdk_52_method_21_code 26 = .ok (.aload_n 2, 1) := by decide +kernel
theorem d_jdk_52_method_21_27 : decode jdk_52_method_21_code 27 = .ok (.iload_n 3, 1) := by decide +kernel
theorem d_jdk_52_method_21_28 : decode jdk_52_method_21_code 28 = .ok (.iload 6, 2) := by decide +kernel
theorem d_jdk_52_method_21_30 : decode jdk_52_method_21_code 30 = .ok (.i2b, 1) := by decide +kernel
theorem d_jdk_52_method_21_31 : decode jdk_52_method_21_code 31 = .ok (.bastore, 1) := by decide +kernel
theorem d_jdk_52_method_21_32 : decode jdk_52_method_21_code 32 = .ok (.iinc 1 1, 3) := by decide +kernel
theorem d_jdk_52_method_21_35 : decode jdk_52_method_21_code 35 = .ok (.iinc 3 1, 3) := by decide +kernel
theorem d_jdk_52_method_21_38 : decode jdk_52_method_21_code 38 = .ok (.iinc 5 1, 3) := by decide +kernel
theorem d_jdk_52_method_21_41 : decode jdk_52_method_21_code 41 = .ok (.goto (-38), 3) := by decide +kernel
theorem d_jdk_52_method_21_0 : decode jdk_52_method_21_code 0 = .ok (.iconst 0, 1) := by decide +kernel
theorem d_jdk_52_method_21_1 : decode jdk_52_method_21_code 1 = .ok (.istore 5, 2) := by decide +kernel
theorem d_jdk_52_method_16_0 : decode jdk_52_method_16_code 0 = .ok (.iload_n 2, 1) := by decide +kernel
theorem d_jdk_52_method_16_1 : decode jdk_52_method_16_code 1 = .ok (.newarray .byte, 2) := by decide +kernel
theorem d_jdk_52_method_16_3 : decode jdk_52_method_16_code 3 = .ok (.astore_n 3, 1) := by decide +kernel
theorem d_jdk_52_method_16_4 : decode jdk_52_method_16_code 4 = .ok (.aload_n 0, 1) := by decide +kernel
theorem d_jdk_52_method_16_5 : decode jdk_52_method_16_code 5 = .ok (.iload_n 1, 1) := by decide +kernel
theorem d_jdk_52_method_16_6 : decode jdk_52_method_16_code 6 = .ok (.aload_n 3, 1) := by decide +kernel
theorem d_jdk_52_method_16_7 : decode jdk_52_method_16_code 7 = .ok (.iconst 0, 1) := by decide +kernel
theorem d_jdk_52_method_16_8 : decode jdk_52_method_16_code 8 = .ok (.iload_n 2, 1) := by decide +kernel
theorem d_jdk_52_method_16_9 : decode jdk_52_method_16_code 9 = .ok (.invokestatic 115, 3) := by decide +kernel
theorem d_jdk_52_method_16_12 : decode jdk_52_method_16_code 12 = .ok (.istore 4, 2) := by decide +kernel
theorem d_jdk_52_method_16_14 : decode jdk_52_method_16_code 14 = .ok (.iload 4, 2) := by decide +kernel
theorem d_jdk_52_method_16_16 : decode jdk_52_method_16_code 16 = .ok (.iload_n 2, 1) := by decide +kernel
theorem d_jdk_52_method_16_17 : decode jdk_52_method_16_code 17 = .ok (.if_icmp .eq 40, 3) := by decide +kernel
theorem d_jdk_52_method_16_57 : decode jdk_52_method_16_code 57 = .ok (.aload_n 3, 1) := by decide +kernel
theorem d_jdk_52_method_16_58 : decode jdk_52_method_16_code 58 = .ok (.areturn, 1) := by decide +kernel
theorem d_jdk_42_method_149_0 : decode jdk_42_method_149_code 0 = .ok (.aload_n 0, 1) := by decide +kernel
theorem d_jdk_42_method_149_1 : decode jdk_42_method_149_code 1 = .ok (.invokespecial 1, 3) := by decide +kernel
theorem d_jdk_42_method_149_4 : decode jdk_42_method_149_code 4 = .ok (.iload_n 3, 1) := by decide +kernel
theorem d_jdk_42_method_149_5 : decode jdk_42_method_149_code 5 = .ok (.ifCond .ne 22, 3) := by decide +kernel
theorem d_jdk_42_method_149_8 : decode jdk_42_method_149_code 8 = .ok (.aload_n 0, 1) := by decide +kernel
theorem d_jdk_42_method_149_9 : decode jdk_42_method_149_code 9 = .ok (.ldc 7, 2) := by decide +kernel
theorem d_jdk_42_method_149_11 : decode jdk_42_method_149_code 11 = .ok (.getfield 9, 3) := by decide +kernel
theorem d_jdk_42_method_149_14 : decode jdk_42_method_149_code 14 = .ok (.putfield 9, 3) := by decide +kernel
theorem d_jdk_42_method_149_17 : decode jdk_42_method_149_code 17 = .ok (.aload_n 0, 1) := by decide +kernel
theorem d_jdk_42_method_149_18 : decode jdk_42_method_149_code 18 = .ok (.ldc 7, 2) := by decide +kernel
theorem d_jdk_42_method_149_20 : decode jdk_42_method_149_code 20 = .ok (.getfield 15, 3) := by decide +kernel
theorem d_jdk_42_method_149_23 : decode jdk_42_method_149_code 23 = .ok (.putfield 15, 3) := by decide +kernel
theorem d_jdk_42_method_149_26 : decode jdk_42_method_149_code 26 = .ok (.return_, 1) := by decide +kernel
theorem d_jdk_42_method_149_27 : decode jdk_42_method_149_code 27 = .ok (.getstatic 38, 3) := by decide +kernel
theorem d_jdk_42_method_149_30 : decode jdk_42_method_149_code 30 = .ok (.ifCond .eq 28, 3) := by decide +kernel
theorem d_jdk_42_method_149_33 : decode jdk_42_method_149_code 33 = .ok (.aload_n 1, 1) := by decide +kernel
theorem d_jdk_42_method_149_34 : decode jdk_42_method_149_code 34 = .ok (.iload_n 2, 1) := by decide +kernel
theorem d_jdk_42_method_149_35 : decode jdk_42_method_149_code 35 = .ok (.iload_n 3, 1) := by decide +kernel
theorem d_jdk_42_method_149_36 : decode jdk_42_method_149_code 36 = .ok (.invokestatic 177, 3) := by decide +kernel
theorem d_jdk_42_method_149_39 : decode jdk_42_method_149_code 39 = .ok (.astore 5, 2) := by decide +kernel
theorem d_jdk_42_method_149_41 : decode jdk_42_method_149_code 41 = .ok (.aload_n 0, 1) := by decide +kernel
theorem d_jdk_42_method_149_42 : decode jdk_42_method_149_code 42 = .ok (.aload 5, 2) := by decide +kernel
theorem d_jdk_42_method_149_44 : decode jdk_42_method_149_code 44 = .ok (.iload_n 3, 1) := by decide +kernel
theorem d_jdk_42_method_149_45 : decode jdk_42_method_149_code 45 = .ok (.invokestatic 47, 3) := by decide +kernel
theorem d_jdk_42_method_149_48 : decode jdk_42_method_149_code 48 = .ok (.putfield 15, 3) := by decide +kernel
theorem d_jdk_42_method_149_51 : decode jdk_42_method_149_code 51 = .ok (.aload_n 0, 1) := by decide +kernel
theorem d_jdk_42_method_149_52 : decode jdk_42_method_149_code 52 = .ok (.aload 5, 2) := by decide +kernel
theorem d_jdk_42_method_149_54 : decode jdk_42_method_149_code 54 = .ok (.putfield 9, 3) := by decide +kernel
theorem d_jdk_42_method_149_57 : decode jdk_42_method_149_code 57 = .ok (.return_, 1) := by decide +kernel
theorem d_jdk_42_method_3_0 : decode jdk_42_method_3_code 0 = .ok (.aload_n 0, 1) := by decide +kernel
theorem d_jdk_42_method_3_1 : decode jdk_42_method_3_code 1 = .ok (.aload_n 1, 1) := by decide +kernel
theorem d_jdk_42_method_3_2 : decode jdk_42_method_3_code 2 = .ok (.iconst 0, 1) := by decide +kernel
theorem d_jdk_42_method_3_3 : decode jdk_42_method_3_code 3 = .ok (.aload_n 1, 1) := by decide +kernel
theorem d_jdk_42_method_3_4 : decode jdk_42_method_3_code 4 = .ok (.arraylength, 1) := by decide +kernel
theorem d_jdk_42_method_3_5 : decode jdk_42_method_3_code 5 = .ok (.aconst_null, 1) := by decide +kernel
theorem d_jdk_42_method_3_6 : decode jdk_42_method_3_code 6 = .ok (.invokespecial 27, 3) := by decide +kernel
theorem d_jdk_42_method_3_9 : decode jdk_42_method_3_code 9 = .ok (.return_, 1) := by decide +kernel
theorem d_jdk_42_method_152_0 : decode jdk_42_method_152_code 0 = .ok (.getstatic 38, 3) := by decide +kernel
theorem d_jdk_42_method_152_3 : decode jdk_42_method_152_code 3 = .ok (.ifCond .eq 10, 3) := by decide +kernel
theorem d_jdk_42_method_152_6 : decode jdk_42_method_152_code 6 = .ok (.aload_n 0, 1) := by decide +kernel
theorem d_jdk_42_method_152_7 : decode jdk_42_method_152_code 7 = .ok (.getfield 15, 3) := by decide +kernel
theorem d_jdk_42_method_152_10 : decode jdk_42_method_152_code 10 = .ok (.goto 4, 3) := by decide +kernel
theorem d_jdk_42_method_152_14 : decode jdk_42_method_152_code 14 = .ok (.ireturn, 1) := by decide +kernel
theorem d_jdk_42_method_54_0 : decode jdk_42_method_54_code 0 = .ok (.aload_n 0, 1) := by decide +kernel
theorem d_jdk_42_method_54_1 : decode jdk_42_method_54_code 1 = .ok (.getfield 9, 3) := by decide +kernel
theorem d_jdk_42_method_54_4 : decode jdk_42_method_54_code 4 = .ok (.arraylength, 1) := by decide +kernel
theorem d_jdk_42_method_54_5 : decode jdk_42_method_54_code 5 = .ok (.aload_n 0, 1) := by decide +kernel
theorem d_jdk_42_method_54_6 : decode jdk_42_method_54_code 6 = .ok (.invokevirtual 335, 3) := by decide +kernel
theorem d_jdk_42_method_54_9 : decode jdk_42_method_54_code 9 = .ok (.ishr, 1) := by decide +kernel
theorem d_jdk_42_method_54_10 : decode jdk_42_method_54_code 10 = .ok (.ireturn, 1) := by decide +kernel
theorem d_jdk_42_method_154_0 : decode jdk_42_method_154_code 0 = .ok (.getstatic 38, 3) := by decide +kernel
theorem d_jdk_42_method_154_3 : decode jdk_42_method_154_code 3 = .ok (.ifCond .eq 14, 3) := by decide +kernel
theorem d_jdk_42_method_154_6 : decode jdk_42_method_154_code 6 = .ok (.aload_n 0, 1) := by decide +kernel
theorem d_jdk_42_method_154_7 : decode jdk_42_method_154_code 7 = .ok (.getfield 15, 3) := by decide +kernel
theorem d_jdk_42_method_154_10 : decode jdk_42_method_154_code 10 = .ok (.ifCond .ne 7, 3) := by decide +kernel
theorem d_jdk_42_method_154_13 : decode jdk_42_method_154_code 13 = .ok (.iconst 1, 1) := by decide +kernel
theorem d_jdk_42_method_154_14 : decode jdk_42_method_154_code 14 = .ok (.goto 4, 3) := by decide +kernel
theorem d_jdk_42_method_154_18 : decode jdk_42_method_154_code 18 = .ok (.ireturn, 1) := by decide +kernel
theorem d_jdk_41_method_11_0 : decode jdk_41_method_11_code 0 = .ok (.iload_n 0, 1) := by decide +kernel
theorem d_jdk_41_method_11_1 : decode jdk_41_method_11_code 1 = .ok (.ifCond .lt 8, 3) := by decide +kernel
theorem d_jdk_41_method_11_4 : decode jdk_41_method_11_code 4 = .ok (.iload_n 0, 1) := by decide +kernel
theorem d_jdk_41_method_11_5 : decode jdk_41_method_11_code 5 = .ok (.iload_n 1, 1) := by decide +kernel
theorem d_jdk_41_method_11_6 : decode jdk_41_method_11_code 6 = .ok (.if_icmp .lt 10, 3) := by decide +kernel
theorem d_jdk_41_method_11_16 : decode jdk_41_method_11_code 16 = .ok (.iload_n 0, 1) := by decide +kernel
theorem d_jdk_41_method_11_17 : decode jdk_41_method_11_code 17 = .ok (.ireturn, 1) := by decide +kernel
theorem d_jdk_42_method_155_0 : decode jdk_42_method_155_code 0 = .ok (.iload_n 0, 1) := by decide +kernel
theorem d_jdk_42_method_155_1 : decode jdk_42_method_155_code 1 = .ok (.iload_n 1, 1) := by decide +kernel
theorem d_jdk_42_method_155_2 : decode jdk_42_method_155_code 2 = .ok (.getstatic 1053, 3) := by decide +kernel
theorem d_jdk_42_method_155_5 : decode jdk_42_method_155_code 5 = .ok (.invokestatic 1059, 3) := by decide +kernel
theorem d_jdk_42_method_155_8 : decode jdk_42_method_155_code 8 = .ok (.pop, 1) := by decide +kernel
theorem d_jdk_42_method_155_9 : decode jdk_42_method_155_code 9 = .ok (.return_, 1) := by decide +kernel
theorem d_jdk_43_method_2_0 : decode jdk_43_method_2_code 0 = .ok (.iload_n 1, 1) := by decide +kernel
theorem d_jdk_43_method_2_1 : decode jdk_43_method_2_code 1 = .ok (.aload_n 0, 1) := by decide +kernel
theorem d_jdk_43_method_2_2 : decode jdk_43_method_2_code 2 = .ok (.arraylength, 1) := by decide +kernel
theorem d_jdk_43_method_2_3 : decode jdk_43_method_2_code 3 = .ok (.invokestatic 9, 3) := by decide +kernel
theorem d_jdk_43_method_2_6 : decode jdk_43_method_2_code 6 = .ok (.aload_n 0, 1) := by decide +kernel
theorem d_jdk_43_method_2_7 : decode jdk_43_method_2_code 7 = .ok (.iload_n 1, 1) := by decide +kernel
theorem d_jdk_43_method_2_8 : decode jdk_43_method_2_code 8 = .ok (.baload, 1) := by decide +kernel
theorem d_jdk_43_method_2_9 : decode jdk_43_method_2_code 9 = .ok (.sipush 255, 3) := by decide +kernel
theorem d_jdk_43_method_2_12 : decode jdk_43_method_2_code 12 = .ok (.iand, 1) := by decide +kernel
theorem d_jdk_43_method_2_13 : decode jdk_43_method_2_code 13 = .ok (.i2c, 1) := by decide +kernel
theorem d_jdk_43_method_2_14 : decode jdk_43_method_2_code 14 = .ok (.ireturn, 1) := by decide +kernel
theorem d_jdk_42_method_56_0 : decode jdk_42_method_56_code 0 = .ok (.aload_n 0, 1) := by decide +kernel
theorem d_jdk_42_method_56_1 : decode jdk_42_method_56_code 1 = .ok (.invokevirtual 492, 3) := by decide +kernel
theorem d_jdk_42_method_56_4 : decode jdk_42_method_56_code 4 = .ok (.ifCond .eq 12, 3) := by decide +kernel
theorem d_jdk_42_method_56_7 : decode jdk_42_method_56_code 7 = .ok (.aload_n 0, 1) := by decide +kernel
theorem d_jdk_42_method_56_8 : decode jdk_42_method_56_code 8 = .ok (.getfield 9, 3) := by decide +kernel
theorem d_jdk_42_method_56_11 : decode jdk_42_method_56_code 11 = .ok (.iload_n 1, 1) := by decide +kernel
theorem d_jdk_42_method_56_12 : decode jdk_42_method_56_code 12 = .ok (.invokestatic 495, 3) := by decide +kernel
theorem d_jdk_42_method_56_15 : decode jdk_42_method_56_code 15 = .ok (.ireturn, 1) := by decide +kernel
theorem d_jdk_29_method_69_0 : decode jdk_29_method_69_code 0 = .ok (.iload_n 0, 1) := by decide +kernel
theorem d_jdk_29_method_69_1 : decode jdk_29_method_69_code 1 = .ok (.iload_n 1, 1) := by decide +kernel
theorem d_jdk_29_method_69_2 : decode jdk_29_method_69_code 2 = .ok (.if_icmp .gt 7, 3) := by decide +kernel
theorem d_jdk_29_method_69_9 : decode jdk_29_method_69_code 9 = .ok (.iload_n 1, 1) := by decide +kernel
theorem d_jdk_29_method_69_10 : decode jdk_29_method_69_code 10 = .ok (.ireturn, 1) := by decide +kernel
theorem d_jdk_29_method_69_5 : decode jdk_29_method_69_code 5 = .ok (.iload_n 0, 1) := by decide +kernel
theorem d_jdk_29_method_69_6 : decode jdk_29_method_69_code 6 = .ok (.goto 4, 3) := by decide +kernel
theorem d_jdk_52_method_6_0 : decode jdk_52_method_6_code 0 = .ok (.aload_n 0, 1) := by decide +kernel
theorem d_jdk_52_method_6_1 : decode jdk_52_method_6_code 1 = .ok (.arraylength, 1) := by decide +kernel
theorem d_jdk_52_method_6_2 : decode jdk_52_method_6_code 2 = .ok (.iconst 1, 1) := by decide +kernel
theorem d_jdk_52_method_6_3 : decode jdk_52_method_6_code 3 = .ok (.ishr, 1) := by decide +kernel
theorem d_jdk_52_method_6_4 : decode jdk_52_method_6_code 4 = .ok (.ireturn, 1) := by decide +kernel
theorem d_jdk_52_method_4_0 : decode jdk_52_method_4_code 0 = .ok (.getstatic 44, 3) := by decide +kernel
theorem d_jdk_52_method_4_3 : decode jdk_52_method_4_code 3 = .ok (.ifCond .ne 25, 3) := by decide +kernel
theorem d_jdk_52_method_4_28 : decode jdk_52_method_4_code 28 = .ok (.iload_n 1, 1) := by decide +kernel
theorem d_jdk_52_method_4_29 : decode jdk_52_method_4_code 29 = .ok (.iconst 1, 1) := by decide +kernel
theorem d_jdk_52_method_4_30 : decode jdk_52_method_4_code 30 = .ok (.ishl, 1) := by decide +kernel
theorem d_jdk_52_method_4_31 : decode jdk_52_method_4_code 31 = .ok (.istore_n 1, 1) := by decide +kernel
theorem d_jdk_52_method_4_32 : decode jdk_52_method_4_code 32 = .ok (.aload_n 0, 1) := by decide +kernel
theorem d_jdk_52_method_4_33 : decode jdk_52_method_4_code 33 = .ok (.iload_n 1, 1) := by decide +kernel
theorem d_jdk_52_method_4_34 : decode jdk_52_method_4_code 34 = .ok (.iinc 1 1, 3) := by decide +kernel
theorem d_jdk_52_method_4_37 : decode jdk_52_method_4_code 37 = .ok (.iload_n 2, 1) := by decide +kernel
theorem d_jdk_52_method_4_38 : decode jdk_52_method_4_code 38 = .ok (.getstatic 59, 3) := by decide +kernel
theorem d_jdk_52_method_4_41 : decode jdk_52_method_4_code 41 = .ok (.ishr, 1) := by decide +kernel
theorem d_jdk_52_method_4_42 : decode jdk_52_method_4_code 42 = .ok (.i2b, 1) := by decide +kernel
theorem d_jdk_52_method_4_43 : decode jdk_52_method_4_code 43 = .ok (.bastore, 1) := by decide +kernel
theorem d_jdk_52_method_4_44 : decode jdk_52_method_4_code 44 = .ok (.aload_n 0, 1) := by decide +kernel
theorem d_jdk_52_method_4_45 : decode jdk_52_method_4_code 45 = .ok (.iload_n 1, 1) := by decide +kernel
theorem d_jdk_52_method_4_46 : decode jdk_52_method_4_code 46 = .ok (.iload_n 2, 1) := by decide +kernel
theorem d_jdk_52_method_4_47 : decode jdk_52_method_4_code 47 = .ok (.getstatic 63, 3) := by decide +kernel
theorem d_jdk_52_method_4_50 : decode jdk_52_method_4_code 50 = .ok (.ishr, 1) := by decide +kernel
theorem d_jdk_52_method_4_51 : decode jdk_52_method_4_code 51 = .ok (.i2b, 1) := by decide +kernel
theorem d_jdk_52_method_4_52 : decode jdk_52_method_4_code 52 = .ok (.bastore, 1) := by decide +kernel
theorem d_jdk_52_method_4_53 : decode jdk_52_method_4_code 53 = .ok (.return_, 1) := by decide +kernel
theorem d_jdk_52_method_5_0 : decode jdk_52_method_5_code 0 = .ok (.getstatic 44, 3) := by decide +kernel
theorem d_jdk_52_method_5_3 : decode jdk_52_method_5_code 3 = .ok (.ifCond .ne 25, 3) := by decide +kernel
theorem d_jdk_52_method_5_28 : decode jdk_52_method_5_code 28 = .ok (.iload_n 1, 1) := by decide +kernel
theorem d_jdk_52_method_5_29 : decode jdk_52_method_5_code 29 = .ok (.iconst 1, 1) := by decide +kernel
theorem d_jdk_52_method_5_30 : decode jdk_52_method_5_code 30 = .ok (.ishl, 1) := by decide +kernel
theorem d_jdk_52_method_5_31 : decode jdk_52_method_5_code 31 = .ok (.istore_n 1, 1) := by decide +kernel
theorem d_jdk_52_method_5_32 : decode jdk_52_method_5_code 32 = .ok (.aload_n 0, 1) := by decide +kernel
theorem d_jdk_52_method_5_33 : decode jdk_52_method_5_code 33 = .ok (.iload_n 1, 1) := by decide +kernel
theorem d_jdk_52_method_5_34 : decode jdk_52_method_5_code 34 = .ok (.iinc 1 1, 3) := by decide +kernel
theorem d_jdk_52_method_5_37 : decode jdk_52_method_5_code 37 = .ok (.baload, 1) := by decide +kernel
theorem d_jdk_52_method_5_38 : decode jdk_52_method_5_code 38 = .ok (.sipush 255, 3) := by decide +kernel
theorem d_jdk_52_method_5_41 : decode jdk_52_method_5_code 41 = .ok (.iand, 1) := by decide +kernel
theorem d_jdk_52_method_5_42 : decode jdk_52_method_5_code 42 = .ok (.getstatic 59, 3) := by decide +kernel
theorem d_jdk_52_method_5_45 : decode jdk_52_method_5_code 45 = .ok (.ishl, 1) := by decide +kernel
theorem d_jdk_52_method_5_46 : decode jdk_52_method_5_code 46 = .ok (.aload_n 0, 1) := by decide +kernel
theorem d_jdk_52_method_5_47 : decode jdk_52_method_5_code 47 = .ok (.iload_n 1, 1) := by decide +kernel
theorem d_jdk_52_method_5_48 : decode jdk_52_method_5_code 48 = .ok (.baload, 1) := by decide +kernel
theorem d_jdk_52_method_5_49 : decode jdk_52_method_5_code 49 = .ok (.sipush 255, 3) := by decide +kernel
theorem d_jdk_52_method_5_52 : decode jdk_52_method_5_code 52 = .ok (.iand, 1) := by decide +kernel
theorem d_jdk_52_method_5_53 : decode jdk_52_method_5_code 53 = .ok (.getstatic 63, 3) := by decide +kernel
theorem d_jdk_52_method_5_56 : decode jdk_52_method_5_code 56 = .ok (.ishl, 1) := by decide +kernel
theorem d_jdk_52_method_5_57 : decode jdk_52_method_5_code 57 = .ok (.ior, 1) := by decide +kernel
theorem d_jdk_52_method_5_58 : decode jdk_52_method_5_code 58 = .ok (.i2c, 1) := by decide +kernel
theorem d_jdk_52_method_5_59 : decode jdk_52_method_5_code 59 = .ok (.ireturn, 1) := by decide +kernel
theorem d_jdk_52_method_3_0 : decode jdk_52_method_3_code 0 = .ok (.iload_n 0, 1) := by decide +kernel
theorem d_jdk_52_method_3_1 : decode jdk_52_method_3_code 1 = .ok (.ifCond .ge 11, 3) := by decide +kernel
theorem d_jdk_52_method_3_12 : decode jdk_52_method_3_code 12 = .ok (.iload_n 0, 1) := by decide +kernel
theorem d_jdk_52_method_3_13 : decode jdk_52_method_3_code 13 = .ok (.ldc 20, 2) := by decide +kernel
theorem d_jdk_52_method_3_15 : decode jdk_52_method_3_code 15 = .ok (.if_icmp .lt 40, 3) := by decide +kernel
theorem d_jdk_52_method_3_55 : decode jdk_52_method_3_code 55 = .ok (.iload_n 0, 1) := by decide +kernel
theorem d_jdk_52_method_3_56 : decode jdk_52_method_3_code 56 = .ok (.iconst 1, 1) := by decide +kernel
theorem d_jdk_52_method_3_57 : decode jdk_52_method_3_code 57 = .ok (.ishl, 1) := by decide +kernel
theorem d_jdk_52_method_3_58 : decode jdk_52_method_3_code 58 = .ok (.ireturn, 1) := by decide +kernel
theorem d_jdk_52_method_2_0 : decode jdk_52_method_2_code 0 = .ok (.iload_n 0, 1) := by decide +kernel
theorem d_jdk_52_method_2_1 : decode jdk_52_method_2_code 1 = .ok (.invokestatic 11, 3) := by decide +kernel
theorem d_jdk_52_method_2_4 : decode jdk_52_method_2_code 4 = .ok (.newarray .byte, 2) := by decide +kernel
theorem d_jdk_52_method_2_6 : decode jdk_52_method_2_code 6 = .ok (.areturn, 1) := by decide +kernel
theorem d_jdk_52_method_14_0 : decode jdk_52_method_14_code 0 = .ok (.iload_n 2, 1) := by decide +kernel
theorem d_jdk_52_method_14_1 : decode jdk_52_method_14_code 1 = .ok (.invokestatic 107, 3) := by decide +kernel
theorem d_jdk_52_method_14_8 : decode jdk_52_method_14_code 8 = .ok (.iload 4, 2) := by decide +kernel
theorem d_jdk_52_method_14_10 : decode jdk_52_method_14_code 10 = .ok (.iload_n 2, 1) := by decide +kernel
theorem d_jdk_52_method_14_11 : decode jdk_52_method_14_code 11 = .ok (.if_icmp .ge 21, 3) := by decide +kernel
theorem d_jdk_52_method_14_32 : decode jdk_52_method_14_code 32 = .ok (.aload_n 3, 1) := by decide +kernel
theorem d_jdk_52_method_14_33 : decode jdk_52_method_14_code 33 = .ok (.areturn, 1) := by decide +kernel
theorem d_jdk_52_method_14_14 : decode jdk_52_method_14_code 14 = .ok (.aload_n 3, 1) := by decide +kernel
theorem d_jdk_52_method_14_15 : decode jdk_52_method_14_code 15 = .ok (.iload 4, 2) := by decide +kernel
theorem d_jdk_52_method_14_17 : decode jdk_52_method_14_code 17 = .ok (.aload_n 0, 1) := by decide +kernel
theorem d_jdk_52_method_14_18 : decode jdk_52_method_14_code 18 = .ok (.iload_n 1, 1) := by decide +kernel
theorem d_jdk_52_method_14_19 : decode jdk_52_method_14_code 19 = .ok (.caload, 1) := by decide +kernel
theorem d_jdk_52_method_14_20 : decode jdk_52_method_14_code 20 = .ok (.invokestatic 111, 3) := by decide +kernel
theorem d_jdk_52_method_14_23 : decode jdk_52_method_14_code 23 = .ok (.iinc 1 1, 3) := by decide +kernel
theorem d_jdk_52_method_14_26 : decode jdk_52_method_14_code 26 = .ok (.iinc 4 1, 3) := by decide +kernel
theorem d_jdk_52_method_14_29 : decode jdk_52_method_14_code 29 = .ok (.goto (-21), 3) := by decide +kernel
theorem d_jdk_52_method_14_4 : decode jdk_52_method_14_code 4 = .ok (.astore_n 3, 1) := by decide +kernel
theorem d_jdk_52_method_14_5 : decode jdk_52_method_14_code 5 = .ok (.iconst 0, 1) := by decide +kernel
theorem d_jdk_52_method_14_6 : decode jdk_52_method_14_code 6 = .ok (.istore 4, 2) := by decide +kernel
theorem d_jdk_52_method_21_23 : decode jdk_52_method_21_code 23 = .ok (.iload 5, 2) := by decide +kernel
theorem d_jdk_52_method_21_25 : decode jdk_52_method_21_code 25 = .ok (.ireturn, 1) := by decide +kernel
theorem d_jdk_52_method_16_20 : decode jdk_52_method_16_code 20 = .ok (.aload_n 0, 1) := by decide +kernel
theorem d_jdk_52_method_16_21 : decode jdk_52_method_16_code 21 = .ok (.iload_n 1, 1) := by decide +kernel
theorem d_jdk_52_method_16_22 : decode jdk_52_method_16_code 22 = .ok (.iload_n 2, 1) := by decide +kernel
theorem d_jdk_52_method_16_23 : decode jdk_52_method_16_code 23 = .ok (.invokestatic 119, 3) := by decide +kernel
theorem d_jdk_52_method_16_26 : decode jdk_52_method_16_code 26 = .ok (.astore 5, 2) := by decide +kernel
theorem d_jdk_52_method_16_28 : decode jdk_52_method_16_code 28 = .ok (.aload 5, 2) := by decide +kernel
theorem d_jdk_52_method_16_30 : decode jdk_52_method_16_code 30 = .ok (.iload 4, 2) := by decide +kernel
theorem d_jdk_52_method_16_32 : decode jdk_52_method_16_code 32 = .ok (.invokestatic 71, 3) := by decide +kernel
theorem d_jdk_52_method_16_35 : decode jdk_52_method_16_code 35 = .ok (.sipush 255, 3) := by decide +kernel
theorem d_jdk_52_method_16_38 : decode jdk_52_method_16_code 38 = .ok (.if_icmp .gt 16, 3) := by decide +kernel
theorem d_jdk_52_method_16_54 : decode jdk_52_method_16_code 54 = .ok (.aload 5, 2) := by decide +kernel
theorem d_jdk_52_method_16_56 : decode jdk_52_method_16_code 56 = .ok (.areturn, 1) := by decide +kernel
theorem d_jdk_42_method_154_17 : decode jdk_42_method_154_code 17 = .ok (.iconst 0, 1) := by decide +kernel
theorem d_jdk_52_method_91_0 : decode jdk_52_method_91_code 0 = .ok (.iload_n 0, 1) := by decide +kernel
theorem d_jdk_52_method_91_1 : decode jdk_52_method_91_code 1 = .ok (.aload_n 1, 1) := by decide +kernel
theorem d_jdk_52_method_91_2 : decode jdk_52_method_91_code 2 = .ok (.invokestatic 48, 3) := by decide +kernel
theorem d_jdk_52_method_91_5 : decode jdk_52_method_91_code 5 = .ok (.invokestatic 414, 3) := by decide +kernel
theorem d_jdk_52_method_91_8 : decode jdk_52_method_91_code 8 = .ok (.return_, 1) := by decide +kernel
theorem d_jdk_52_method_83_0 : decode jdk_52_method_83_code 0 = .ok (.iload_n 1, 1) := by decide +kernel
theorem d_jdk_52_method_83_1 : decode jdk_52_method_83_code 1 = .ok (.aload_n 0, 1) := by decide +kernel
theorem d_jdk_52_method_83_2 : decode jdk_52_method_83_code 2 = .ok (.invokestatic 67, 3) := by decide +kernel
theorem d_jdk_52_method_83_5 : decode jdk_52_method_83_code 5 = .ok (.aload_n 0, 1) := by decide +kernel
theorem d_jdk_52_method_83_6 : decode jdk_52_method_83_code 6 = .ok (.iload_n 1, 1) := by decide +kernel
theorem d_jdk_52_method_83_7 : decode jdk_52_method_83_code 7 = .ok (.invokestatic 71, 3) := by decide +kernel
theorem d_jdk_52_method_83_10 : decode jdk_52_method_83_code 10 = .ok (.ireturn, 1) := by decide +kernel
theorem d_jdk_42_method_56_16 : decode jdk_42_method_56_code 16 = .ok (.aload_n 0, 1) := by decide +kernel
theorem d_jdk_42_method_56_17 : decode jdk_42_method_56_code 17 = .ok (.getfield 9, 3) := by decide +kernel
theorem d_jdk_42_method_56_20 : decode jdk_42_method_56_code 20 = .ok (.iload_n 1, 1) := by decide +kernel
theorem d_jdk_42_method_56_21 : decode jdk_42_method_56_code 21 = .ok (.invokestatic 498, 3) := by decide +kernel
theorem d_jdk_42_method_56_24 : decode jdk_42_method_56_code 24 = .ok (.ireturn, 1) := by decide +kernel
theorem d_jdk_68_method_2_0 : decode jdk_68_method_2_code 0 = .ok (.aload_n 0, 1) := by decide +kernel
theorem d_jdk_68_method_2_1 : decode jdk_68_method_2_code 1 = .ok (.invokespecial 3, 3) := by decide +kernel
theorem d_jdk_68_method_2_4 : decode jdk_68_method_2_code 4 = .ok (.getstatic 18, 3) := by decide +kernel
theorem d_jdk_68_method_2_7 : decode jdk_68_method_2_code 7 = .ok (.ifCond .eq 18, 3) := by decide +kernel
theorem d_jdk_68_method_2_10 : decode jdk_68_method_2_code 10 = .ok (.aload_n 0, 1) := by decide +kernel
theorem d_jdk_68_method_2_11 : decode jdk_68_method_2_code 11 = .ok (.iload_n 1, 1) := by decide +kernel
theorem d_jdk_68_method_2_12 : decode jdk_68_method_2_code 12 = .ok (.newarray .byte, 2) := by decide +kernel
theorem d_jdk_68_method_2_14 : decode jdk_68_method_2_code 14 = .ok (.putfield 15, 3) := by decide +kernel
theorem d_jdk_68_method_2_17 : decode jdk_68_method_2_code 17 = .ok (.aload_n 0, 1) := by decide +kernel
theorem d_jdk_68_method_2_18 : decode jdk_68_method_2_code 18 = .ok (.iconst 0, 1) := by decide +kernel
theorem d_jdk_68_method_2_19 : decode jdk_68_method_2_code 19 = .ok (.putfield 22, 3) := by decide +kernel
theorem d_jdk_68_method_2_22 : decode jdk_68_method_2_code 22 = .ok (.goto 16, 3) := by decide +kernel
theorem d_jdk_68_method_2_38 : decode jdk_68_method_2_code 38 = .ok (.return_, 1) := by decide +kernel
theorem d_jdk_67_method_1_0 : decode jdk_67_method_1_code 0 = .ok (.aload_n 0, 1) := by decide +kernel
theorem d_jdk_67_method_1_1 : decode jdk_67_method_1_code 1 = .ok (.bipush 16, 2) := by decide +kernel
theorem d_jdk_67_method_1_3 : decode jdk_67_method_1_code 3 = .ok (.invokespecial 1, 3) := by decide +kernel
theorem d_jdk_67_method_1_6 : decode jdk_67_method_1_code 6 = .ok (.return_, 1) := by decide +kernel
theorem d_jdk_68_method_9_0 : decode jdk_68_method_9_code 0 = .ok (.aload_n 0, 1) := by decide +kernel
theorem d_jdk_68_method_9_1 : decode jdk_68_method_9_code 1 = .ok (.getfield 15, 3) := by decide +kernel
theorem d_jdk_68_method_9_4 : decode jdk_68_method_9_code 4 = .ok (.arraylength, 1) := by decide +kernel
theorem d_jdk_68_method_9_5 : decode jdk_68_method_9_code 5 = .ok (.aload_n 0, 1) := by decide +kernel
theorem d_jdk_68_method_9_6 : decode jdk_68_method_9_code 6 = .ok (.getfield 22, 3) := by decide +kernel
theorem d_jdk_68_method_9_9 : decode jdk_68_method_9_code 9 = .ok (.ishr, 1) := by decide +kernel
theorem d_jdk_68_method_9_10 : decode jdk_68_method_9_code 10 = .ok (.istore_n 2, 1) := by decide +kernel
theorem d_jdk_68_method_9_11 : decode jdk_68_method_9_code 11 = .ok (.iload_n 1, 1) := by decide +kernel
theorem d_jdk_68_method_9_12 : decode jdk_68_method_9_code 12 = .ok (.iload_n 2, 1) := by decide +kernel
theorem d_jdk_68_method_9_13 : decode jdk_68_method_9_code 13 = .ok (.isub, 1) := by decide +kernel
theorem d_jdk_68_method_9_14 : decode jdk_68_method_9_code 14 = .ok (.ifCond .le 24, 3) := by decide +kernel
theorem d_jdk_68_method_9_38 : decode jdk_68_method_9_code 38 = .ok (.return_, 1) := by decide +kernel
theorem d_jdk_68_method_68_0 : decode jdk_68_method_68_code 0 = .ok (.getstatic 18, 3) := by decide +kernel
theorem d_jdk_68_method_68_3 : decode jdk_68_method_68_code 3 = .ok (.ifCond .eq 14, 3) := by decide +kernel
theorem d_jdk_68_method_68_6 : decode jdk_68_method_68_code 6 = .ok (.aload_n 0, 1) := by decide +kernel
theorem d_jdk_68_method_68_7 : decode jdk_68_method_68_code 7 = .ok (.getfield 22, 3) := by decide +kernel
theorem d_jdk_68_method_68_10 : decode jdk_68_method_68_code 10 = .ok (.ifCond .ne 7, 3) := by decide +kernel
theorem d_jdk_68_method_68_13 : decode jdk_68_method_68_code 13 = .ok (.iconst 1, 1) := by decide +kernel
theorem d_jdk_68_method_68_14 : decode jdk_68_method_68_code 14 = .ok (.goto 4, 3) := by decide +kernel
theorem d_jdk_68_method_68_18 : decode jdk_68_method_68_code 18 = .ok (.ireturn, 1) := by decide +kernel
theorem d_jdk_68_method_68_17 : decode jdk_68_method_68_code 17 = .ok (.iconst 0, 1) := by decide +kernel
theorem d_jdk_41_method_13_0 : decode jdk_41_method_13_code 0 = .ok (.iload_n 2, 1) := by decide +kernel
theorem d_jdk_41_method_13_1 : decode jdk_41_method_13_code 1 = .ok (.iload_n 0, 1) := by decide +kernel
theorem d_jdk_41_method_13_2 : decode jdk_41_method_13_code 2 = .ok (.ior, 1) := by decide +kernel
theorem d_jdk_41_method_13_3 : decode jdk_41_method_13_code 3 = .ok (.iload_n 1, 1) := by decide +kernel
theorem d_jdk_41_method_13_4 : decode jdk_41_method_13_code 4 = .ok (.ior, 1) := by decide +kernel
theorem d_jdk_41_method_13_5 : decode jdk_41_method_13_code 5 = .ok (.ifCond .lt 10, 3) := by decide +kernel
theorem d_jdk_41_method_13_8 : decode jdk_41_method_13_code 8 = .ok (.iload_n 1, 1) := by decide +kernel
theorem d_jdk_41_method_13_9 : decode jdk_41_method_13_code 9 = .ok (.iload_n 2, 1) := by decide +kernel
theorem d_jdk_41_method_13_10 : decode jdk_41_method_13_code 10 = .ok (.iload_n 0, 1) := by decide +kernel
theorem d_jdk_41_method_13_11 : decode jdk_41_method_13_code 11 = .ok (.isub, 1) := by decide +kernel
theorem d_jdk_41_method_13_12 : decode jdk_41_method_13_code 12 = .ok (.if_icmp .le 11, 3) := by decide +kernel
theorem d_jdk_41_method_13_23 : decode jdk_41_method_13_code 23 = .ok (.iload_n 0, 1) := by decide +kernel
theorem d_jdk_41_method_13_24 : decode jdk_41_method_13_code 24 = .ok (.ireturn, 1) := by decide +kernel
theorem d_jdk_42_method_157_0 : decode jdk_42_method_157_code 0 = .ok (.iload_n 0, 1) := by decide +kernel
theorem d_jdk_42_method_157_1 : decode jdk_42_method_157_code 1 = .ok (.iload_n 1, 1) := by decide +kernel
theorem d_jdk_42_method_157_2 : decode jdk_42_method_157_code 2 = .ok (.iload_n 2, 1) := by decide +kernel
theorem d_jdk_42_method_157_3 : decode jdk_42_method_157_code 3 = .ok (.getstatic 1053, 3) := by decide +kernel
theorem d_jdk_42_method_157_6 : decode jdk_42_method_157_code 6 = .ok (.invokestatic 1065, 3) := by decide +kernel
theorem d_jdk_42_method_157_9 : decode jdk_42_method_157_code 9 = .ok (.ireturn, 1) := by decide +kernel
theorem d_jdk_52_method_94_0 : decode jdk_52_method_94_code 0 = .ok (.iload_n 0, 1) := by decide +kernel
theorem d_jdk_52_method_94_1 : decode jdk_52_method_94_code 1 = .ok (.iload_n 1, 1) := by decide +kernel
theorem d_jdk_52_method_94_2 : decode jdk_52_method_94_code 2 = .ok (.aload_n 2, 1) := by decide +kernel
theorem d_jdk_52_method_94_3 : decode jdk_52_method_94_code 3 = .ok (.invokestatic 48, 3) := by decide +kernel
theorem d_jdk_52_method_94_6 : decode jdk_52_method_94_code 6 = .ok (.invokestatic 419, 3) := by decide +kernel
theorem d_jdk_52_method_94_9 : decode jdk_52_method_94_code 9 = .ok (.pop, 1) := by decide +kernel
theorem d_jdk_52_method_94_10 : decode jdk_52_method_94_code 10 = .ok (.return_, 1) := by decide +kernel
theorem d_jdk_52_method_86_0 : decode jdk_52_method_86_code 0 = .ok (.iload_n 3, 1) := by decide +kernel
theorem d_jdk_52_method_86_1 : decode jdk_52_method_86_code 1 = .ok (.iload 4, 2) := by decide +kernel
theorem d_jdk_52_method_86_3 : decode jdk_52_method_86_code 3 = .ok (.aload_n 2, 1) := by decide +kernel
theorem d_jdk_52_method_86_4 : decode jdk_52_method_86_code 4 = .ok (.invokestatic 173, 3) := by decide +kernel
theorem d_jdk_52_method_86_10 : decode jdk_52_method_86_code 10 = .ok (.iload 5, 2) := by decide +kernel
theorem d_jdk_52_method_86_12 : decode jdk_52_method_86_code 12 = .ok (.iload 4, 2) := by decide +kernel
theorem d_jdk_52_method_86_14 : decode jdk_52_method_86_code 14 = .ok (.if_icmp .ge 27, 3) := by decide +kernel
theorem d_jdk_52_method_86_41 : decode jdk_52_method_86_code 41 = .ok (.return_, 1) := by decide +kernel
theorem d_jdk_52_method_86_17 : decode jdk_52_method_86_code 17 = .ok (.aload_n 2, 1) := by decide +kernel
theorem d_jdk_52_method_86_18 : decode jdk_52_method_86_code 18 = .ok (.iload_n 3, 1) := by decide +kernel
theorem d_jdk_52_method_86_19 : decode jdk_52_method_86_code 19 = .ok (.iinc 3 1, 3) := by decide +kernel
theorem d_jdk_52_method_86_22 : decode jdk_52_method_86_code 22 = .ok (.aload_n 0, 1) := by decide +kernel
theorem d_jdk_52_method_86_23 : decode jdk_52_method_86_code 23 = .ok (.iload_n 1, 1) := by decide +kernel
theorem d_jdk_52_method_86_24 : decode jdk_52_method_86_code 24 = .ok (.iinc 1 1, 3) := by decide +kernel
theorem d_jdk_52_method_86_27 : decode jdk_52_method_86_code 27 = .ok (.baload, 1) := by decide +kernel
theorem d_jdk_52_method_86_28 : decode jdk_52_method_86_code 28 = .ok (.sipush 255, 3) := by decide +kernel
theorem d_jdk_52_method_86_31 : decode jdk_52_method_86_code 31 = .ok (.iand, 1) := by decide +kernel
theorem d_jdk_52_method_86_32 : decode jdk_52_method_86_code 32 = .ok (.invokestatic 111, 3) := by decide +kernel
theorem d_jdk_52_method_86_35 : decode jdk_52_method_86_code 35 = .ok (.iinc 5 1, 3) := by decide +kernel
theorem d_jdk_52_method_86_38 : decode jdk_52_method_86_code 38 = .ok (.goto (-28), 3) := by decide +kernel
theorem d_jdk_52_method_86_7 : decode jdk_52_method_86_code 7 = .ok (.iconst 0, 1) := by decide +kernel
theorem d_jdk_52_method_86_8 : decode jdk_52_method_86_code 8 = .ok (.istore 5, 2) := by decide +kernel
theorem d_jdk_43_method_50_0 : decode jdk_43_method_50_code 0 = .ok (.aload_n 0, 1) := by decide +kernel
theorem d_jdk_43_method_50_1 : decode jdk_43_method_50_code 1 = .ok (.iload_n 1, 1) := by decide +kernel
theorem d_jdk_43_method_50_2 : decode jdk_43_method_50_code 2 = .ok (.aload_n 2, 1) := by decide +kernel
theorem d_jdk_43_method_50_3 : decode jdk_43_method_50_code 3 = .ok (.iload_n 3, 1) := by decide +kernel
theorem d_jdk_43_method_50_4 : decode jdk_43_method_50_code 4 = .ok (.iload 4, 2) := by decide +kernel
theorem d_jdk_43_method_50_6 : decode jdk_43_method_50_code 6 = .ok (.invokestatic 240, 3) := by decide +kernel
theorem d_jdk_43_method_50_9 : decode jdk_43_method_50_code 9 = .ok (.return_, 1) := by decide +kernel
theorem d_jdk_68_method_11_0 : decode jdk_68_method_11_code 0 = .ok (.aload_n 0, 1) := by decide +kernel
theorem d_jdk_68_method_11_1 : decode jdk_68_method_11_code 1 = .ok (.invokevirtual 83, 3) := by decide +kernel
theorem d_jdk_68_method_11_4 : decode jdk_68_method_11_code 4 = .ok (.ifCond .ne 4, 3) := by decide +kernel
theorem d_jdk_68_method_11_7 : decode jdk_68_method_11_code 7 = .ok (.return_, 1) := by decide +kernel
theorem d_jdk_68_method_11_8 : decode jdk_68_method_11_code 8 = .ok (.aload_n 0, 1) := by decide +kernel
theorem d_jdk_68_method_11_9 : decode jdk_68_method_11_code 9 = .ok (.getfield 15, 3) := by decide +kernel
theorem d_jdk_68_method_11_12 : decode jdk_68_method_11_code 12 = .ok (.arraylength, 1) := by decide +kernel
theorem d_jdk_68_method_11_13 : decode jdk_68_method_11_code 13 = .ok (.invokestatic 26, 3) := by decide +kernel
theorem d_jdk_68_method_11_16 : decode jdk_68_method_11_code 16 = .ok (.astore_n 1, 1) := by decide +kernel
theorem d_jdk_68_method_11_17 : decode jdk_68_method_11_code 17 = .ok (.aload_n 0, 1) := by decide +kernel
theorem d_jdk_68_method_11_18 : decode jdk_68_method_11_code 18 = .ok (.getfield 15, 3) := by decide +kernel
theorem d_jdk_68_method_11_21 : decode jdk_68_method_11_code 21 = .ok (.iconst 0, 1) := by decide +kernel
theorem d_jdk_68_method_11_22 : decode jdk_68_method_11_code 22 = .ok (.aload_n 1, 1) := by decide +kernel
theorem d_jdk_68_method_11_23 : decode jdk_68_method_11_code 23 = .ok (.iconst 0, 1) := by decide +kernel
theorem d_jdk_68_method_11_24 : decode jdk_68_method_11_code 24 = .ok (.aload_n 0, 1) := by decide +kernel
theorem d_jdk_68_method_11_25 : decode jdk_68_method_11_code 25 = .ok (.getfield 79, 3) := by decide +kernel
theorem d_jdk_68_method_11_28 : decode jdk_68_method_11_code 28 = .ok (.invokestatic 125, 3) := by decide +kernel
theorem d_jdk_68_method_11_31 : decode jdk_68_method_11_code 31 = .ok (.aload_n 0, 1) := by decide +kernel
theorem d_jdk_68_method_11_32 : decode jdk_68_method_11_code 32 = .ok (.aload_n 1, 1) := by decide +kernel
theorem d_jdk_68_method_11_33 : decode jdk_68_method_11_code 33 = .ok (.putfield 15, 3) := by decide +kernel
theorem d_jdk_68_method_11_36 : decode jdk_68_method_11_code 36 = .ok (.aload_n 0, 1) := by decide +kernel
theorem d_jdk_68_method_11_37 : decode jdk_68_method_11_code 37 = .ok (.iconst 1, 1) := by decide +kernel
theorem d_jdk_68_method_11_38 : decode jdk_68_method_11_code 38 = .ok (.putfield 22, 3) := by decide +kernel
theorem d_jdk_68_method_11_41 : decode jdk_68_method_11_code 41 = .ok (.return_, 1) := by decide +kernel
theorem d_jdk_68_method_71_0 : decode jdk_68_method_71_code 0 = .ok (.getstatic 18, 3) := by decide +kernel
theorem d_jdk_68_method_71_3 : decode jdk_68_method_71_code 3 = .ok (.ifCond .eq 18, 3) := by decide +kernel
theorem d_jdk_68_method_71_6 : decode jdk_68_method_71_code 6 = .ok (.aload_n 0, 1) := by decide +kernel
theorem d_jdk_68_method_71_7 : decode jdk_68_method_71_code 7 = .ok (.getfield 22, 3) := by decide +kernel
theorem d_jdk_68_method_71_10 : decode jdk_68_method_71_code 10 = .ok (.aload_n 1, 1) := by decide +kernel
theorem d_jdk_68_method_71_11 : decode jdk_68_method_71_code 11 = .ok (.invokevirtual 40, 3) := by decide +kernel
theorem d_jdk_68_method_71_14 : decode jdk_68_method_71_code 14 = .ok (.if_icmp .eq 7, 3) := by decide +kernel
theorem d_jdk_68_method_71_21 : decode jdk_68_method_71_code 21 = .ok (.return_, 1) := by decide +kernel
theorem d_jdk_68_method_71_17 : decode jdk_68_method_71_code 17 = .ok (.aload_n 0, 1) := by decide +kernel
theorem d_jdk_68_method_71_18 : decode jdk_68_method_71_code 18 = .ok (.invokevirtual 195, 3) := by decide +kernel
theorem d_jdk_42_method_147_0 : decode jdk_42_method_147_code 0 = .ok (.aload_n 0, 1) := by decide +kernel
theorem d_jdk_42_method_147_1 : decode jdk_42_method_147_code 1 = .ok (.invokevirtual 335, 3) := by decide +kernel
theorem d_jdk_42_method_147_4 : decode jdk_42_method_147_code 4 = .ok (.iload_n 3, 1) := by decide +kernel
theorem d_jdk_42_method_147_5 : decode jdk_42_method_147_code 5 = .ok (.if_icmp .ne 23, 3) := by decide +kernel
theorem d_jdk_42_method_147_8 : decode jdk_42_method_147_code 8 = .ok (.aload_n 0, 1) := by decide +kernel
theorem d_jdk_42_method_147_9 : decode jdk_42_method_147_code 9 = .ok (.getfield 9, 3) := by decide +kernel
theorem d_jdk_42_method_147_12 : decode jdk_42_method_147_code 12 = .ok (.iconst 0, 1) := by decide +kernel
theorem d_jdk_42_method_147_13 : decode jdk_42_method_147_code 13 = .ok (.aload_n 1, 1) := by decide +kernel
theorem d_jdk_42_method_147_14 : decode jdk_42_method_147_code 14 = .ok (.iload_n 2, 1) := by decide +kernel
theorem d_jdk_42_method_147_15 : decode jdk_42_method_147_code 15 = .ok (.iload_n 3, 1) := by decide +kernel
theorem d_jdk_42_method_147_16 : decode jdk_42_method_147_code 16 = .ok (.ishl, 1) := by decide +kernel
theorem d_jdk_42_method_147_17 : decode jdk_42_method_147_code 17 = .ok (.aload_n 0, 1) := by decide +kernel
theorem d_jdk_42_method_147_18 : decode jdk_42_method_147_code 18 = .ok (.getfield 9, 3) := by decide +kernel
theorem d_jdk_42_method_147_21 : decode jdk_42_method_147_code 21 = .ok (.arraylength, 1) := by decide +kernel
theorem d_jdk_42_method_147_22 : decode jdk_42_method_147_code 22 = .ok (.invokestatic 212, 3) := by decide +kernel
theorem d_jdk_42_method_147_25 : decode jdk_42_method_147_code 25 = .ok (.goto 18, 3) := by decide +kernel
theorem d_jdk_42_method_147_43 : decode jdk_42_method_147_code 43 = .ok (.return_, 1) := by decide +kernel
theorem d_jdk_42_method_147_28 : decode jdk_42_method_147_code 28 = .ok (.aload_n 0, 1) := by decide +kernel
theorem d_jdk_42_method_147_29 : decode jdk_42_method_147_code 29 = .ok (.getfield 9, 3) := by decide +kernel
theorem d_jdk_42_method_147_32 : decode jdk_42_method_147_code 32 = .ok (.iconst 0, 1) := by decide +kernel
theorem d_jdk_42_method_147_33 : decode jdk_42_method_147_code 33 = .ok (.aload_n 1, 1) := by decide +kernel
theorem d_jdk_42_method_147_34 : decode jdk_42_method_147_code 34 = .ok (.iload_n 2, 1) := by decide +kernel
theorem d_jdk_42_method_147_35 : decode jdk_42_method_147_code 35 = .ok (.aload_n 0, 1) := by decide +kernel
theorem d_jdk_42_method_147_36 : decode jdk_42_method_147_code 36 = .ok (.getfield 9, 3) := by decide +kernel
theorem d_jdk_42_method_147_39 : decode jdk_42_method_147_code 39 = .ok (.arraylength, 1) := by decide +kernel
theorem d_jdk_42_method_147_40 : decode jdk_42_method_147_code 40 = .ok (.invokestatic 106, 3) := by decide +kernel
theorem d_jdk_68_method_73_0 : decode jdk_68_method_73_code 0 = .ok (.aload_n 0, 1) := by decide +kernel
theorem d_jdk_68_method_73_1 : decode jdk_68_method_73_code 1 = .ok (.aload_n 2, 1) := by decide +kernel
theorem d_jdk_68_method_73_2 : decode jdk_68_method_73_code 2 = .ok (.invokevirtual 397, 3) := by decide +kernel
theorem d_jdk_68_method_73_5 : decode jdk_68_method_73_code 5 = .ok (.aload_n 2, 1) := by decide +kernel
theorem d_jdk_68_method_73_6 : decode jdk_68_method_73_code 6 = .ok (.aload_n 0, 1) := by decide +kernel
theorem d_jdk_68_method_73_7 : decode jdk_68_method_73_code 7 = .ok (.getfield 15, 3) := by decide +kernel
theorem d_jdk_68_method_73_10 : decode jdk_68_method_73_code 10 = .ok (.iload_n 1, 1) := by decide +kernel
theorem d_jdk_68_method_73_11 : decode jdk_68_method_73_code 11 = .ok (.aload_n 0, 1) := by decide +kernel
theorem d_jdk_68_method_73_12 : decode jdk_68_method_73_code 12 = .ok (.getfield 22, 3) := by decide +kernel
theorem d_jdk_68_method_73_15 : decode jdk_68_method_73_code 15 = .ok (.invokevirtual 399, 3) := by decide +kernel
theorem d_jdk_68_method_73_18 : decode jdk_68_method_73_code 18 = .ok (.return_, 1) := by decide +kernel
theorem d_jdk_68_method_22_0 : decode jdk_68_method_22_code 0 = .ok (.aload_n 1, 1) := by decide +kernel
theorem d_jdk_68_method_22_1 : decode jdk_68_method_22_code 1 = .ok (.ifnonnull 8, 3) := by decide +kernel
theorem d_jdk_68_method_22_9 : decode jdk_68_method_22_code 9 = .ok (.aload_n 1, 1) := by decide +kernel
theorem d_jdk_68_method_22_10 : decode jdk_68_method_22_code 10 = .ok (.invokevirtual 32, 3) := by decide +kernel
theorem d_jdk_68_method_22_13 : decode jdk_68_method_22_code 13 = .ok (.istore_n 2, 1) := by decide +kernel
theorem d_jdk_68_method_22_14 : decode jdk_68_method_22_code 14 = .ok (.aload_n 0, 1) := by decide +kernel
theorem d_jdk_68_method_22_15 : decode jdk_68_method_22_code 15 = .ok (.aload_n 0, 1) := by decide +kernel
theorem d_jdk_68_method_22_16 : decode jdk_68_method_22_code 16 = .ok (.getfield 79, 3) := by decide +kernel
theorem d_jdk_68_method_22_19 : decode jdk_68_method_22_code 19 = .ok (.iload_n 2, 1) := by decide +kernel
theorem d_jdk_68_method_22_20 : decode jdk_68_method_22_code 20 = .ok (.iadd, 1) := by decide +kernel
theorem d_jdk_68_method_22_21 : decode jdk_68_method_22_code 21 = .ok (.invokevirtual 100, 3) := by decide +kernel
theorem d_jdk_68_method_22_24 : decode jdk_68_method_22_code 24 = .ok (.aload_n 0, 1) := by decide +kernel
theorem d_jdk_68_method_22_25 : decode jdk_68_method_22_code 25 = .ok (.aload_n 0, 1) := by decide +kernel
theorem d_jdk_68_method_22_26 : decode jdk_68_method_22_code 26 = .ok (.getfield 79, 3) := by decide +kernel
theorem d_jdk_68_method_22_29 : decode jdk_68_method_22_code 29 = .ok (.aload_n 1, 1) := by decide +kernel
theorem d_jdk_68_method_22_30 : decode jdk_68_method_22_code 30 = .ok (.invokevirtual 208, 3) := by decide +kernel
theorem d_jdk_68_method_22_33 : decode jdk_68_method_22_code 33 = .ok (.aload_n 0, 1) := by decide +kernel
theorem d_jdk_68_method_22_34 : decode jdk_68_method_22_code 34 = .ok (.dup, 1) := by decide +kernel
theorem d_jdk_68_method_22_35 : decode jdk_68_method_22_code 35 = .ok (.getfield 79, 3) := by decide +kernel
theorem d_jdk_68_method_22_38 : decode jdk_68_method_22_code 38 = .ok (.iload_n 2, 1) := by decide +kernel
theorem d_jdk_68_method_22_39 : decode jdk_68_method_22_code 39 = .ok (.iadd, 1) := by decide +kernel
theorem d_jdk_68_method_22_40 : decode jdk_68_method_22_code 40 = .ok (.putfield 79, 3) := by decide +kernel
theorem d_jdk_68_method_22_43 : decode jdk_68_method_22_code 43 = .ok (.aload_n 0, 1) := by decide +kernel
theorem d_jdk_68_method_22_44 : decode jdk_68_method_22_code 44 = .ok (.areturn, 1) := by decide +kernel
theorem d_jdk_67_method_7_0 : decode jdk_67_method_7_code 0 = .ok (.aload_n 0, 1) := by decide +kernel
theorem d_jdk_67_method_7_1 : decode jdk_67_method_7_code 1 = .ok (.aload_n 1, 1) := by decide +kernel
theorem d_jdk_67_method_7_2 : decode jdk_67_method_7_code 2 = .ok (.invokespecial 29, 3) := by decide +kernel
theorem d_jdk_67_method_7_5 : decode jdk_67_method_7_code 5 = .ok (.pop, 1) := by decide +kernel
theorem d_jdk_67_method_7_6 : decode jdk_67_method_7_code 6 = .ok (.aload_n 0, 1) := by decide +kernel
theorem d_jdk_67_method_7_7 : decode jdk_67_method_7_code 7 = .ok (.areturn, 1) := by decide +kernel
theorem d_jdk_68_method_64_0 : decode jdk_68_method_64_code 0 = .ok (.aload_n 0, 1) := by decide +kernel
theorem d_jdk_68_method_64_1 : decode jdk_68_method_64_code 1 = .ok (.getfield 15, 3) := by decide +kernel
theorem d_jdk_68_method_64_4 : decode jdk_68_method_64_code 4 = .ok (.areturn, 1) := by decide +kernel
theorem d_jdk_68_method_6_0 : decode jdk_68_method_6_code 0 = .ok (.aload_n 0, 1) := by decide +kernel
theorem d_jdk_68_method_6_1 : decode jdk_68_method_6_code 1 = .ok (.getfield 79, 3) := by decide +kernel
theorem d_jdk_68_method_6_4 : decode jdk_68_method_6_code 4 = .ok (.ireturn, 1) := by decide +kernel
theorem d_jdk_67_method_93_0 : decode jdk_67_method_93_code 0 = .ok (.aload_n 0, 1) := by decide +kernel
theorem d_jdk_67_method_93_1 : decode jdk_67_method_93_code 1 = .ok (.invokespecial 343, 3) := by decide +kernel
theorem d_jdk_67_method_93_4 : decode jdk_67_method_93_code 4 = .ok (.ireturn, 1) := by decide +kernel
theorem d_jdk_65_method_131_0 : decode jdk_65_method_131_code 0 = .ok (.iload_n 1, 1) := by decide +kernel
theorem d_jdk_65_method_131_1 : decode jdk_65_method_131_code 1 = .ok (.iload_n 0, 1) := by decide +kernel
theorem d_jdk_65_method_131_2 : decode jdk_65_method_131_code 2 = .ok (.if_icmp .ge 35, 3) := by decide +kernel
theorem d_jdk_65_method_131_37 : decode jdk_65_method_131_code 37 = .ok (.return_, 1) := by decide +kernel
theorem d_jdk_65_method_133_0 : decode jdk_65_method_133_code 0 = .ok (.iload_n 1, 1) := by decide +kernel
theorem d_jdk_65_method_133_1 : decode jdk_65_method_133_code 1 = .ok (.iload_n 2, 1) := by decide +kernel
theorem d_jdk_65_method_133_2 : decode jdk_65_method_133_code 2 = .ok (.invokestatic 343, 3) := by decide +kernel
theorem d_jdk_65_method_133_5 : decode jdk_65_method_133_code 5 = .ok (.iload_n 2, 1) := by decide +kernel
theorem d_jdk_65_method_133_6 : decode jdk_65_method_133_code 6 = .ok (.iload_n 1, 1) := by decide +kernel
theorem d_jdk_65_method_133_7 : decode jdk_65_method_133_code 7 = .ok (.isub, 1) := by decide +kernel
theorem d_jdk_65_method_133_8 : decode jdk_65_method_133_code 8 = .ok (.istore_n 3, 1) := by decide +kernel
theorem d_jdk_65_method_133_9 : decode jdk_65_method_133_code 9 = .ok (.iload_n 3, 1) := by decide +kernel
theorem d_jdk_65_method_133_10 : decode jdk_65_method_133_code 10 = .ok (.newarray .byte, 2) := by decide +kernel
theorem d_jdk_65_method_133_12 : decode jdk_65_method_133_code 12 = .ok (.astore 4, 2) := by decide +kernel
theorem d_jdk_65_method_133_14 : decode jdk_65_method_133_code 14 = .ok (.aload_n 0, 1) := by decide +kernel
theorem d_jdk_65_method_133_15 : decode jdk_65_method_133_code 15 = .ok (.iload_n 1, 1) := by decide +kernel
theorem d_jdk_65_method_133_16 : decode jdk_65_method_133_code 16 = .ok (.aload 4, 2) := by decide +kernel
theorem d_jdk_65_method_133_18 : decode jdk_65_method_133_code 18 = .ok (.iconst 0, 1) := by decide +kernel
theorem d_jdk_65_method_133_19 : decode jdk_65_method_133_code 19 = .ok (.aload_n 0, 1) := by decide +kernel
theorem d_jdk_65_method_133_20 : decode jdk_65_method_133_code 20 = .ok (.arraylength, 1) := by decide +kernel
theorem d_jdk_65_method_133_21 : decode jdk_65_method_133_code 21 = .ok (.iload_n 1, 1) := by decide +kernel
theorem d_jdk_65_method_133_22 : decode jdk_65_method_133_code 22 = .ok (.isub, 1) := by decide +kernel
theorem d_jdk_65_method_133_23 : decode jdk_65_method_133_code 23 = .ok (.iload_n 3, 1) := by decide +kernel
theorem d_jdk_65_method_133_24 : decode jdk_65_method_133_code 24 = .ok (.invokestatic 304, 3) := by decide +kernel
theorem d_jdk_65_method_133_27 : decode jdk_65_method_133_code 27 = .ok (.invokestatic 150, 3) := by decide +kernel
theorem d_jdk_65_method_133_30 : decode jdk_65_method_133_code 30 = .ok (.aload 4, 2) := by decide +kernel
theorem d_jdk_65_method_133_32 : decode jdk_65_method_133_code 32 = .ok (.areturn, 1) := by decide +kernel
theorem d_jdk_65_method_132_0 : decode jdk_65_method_132_code 0 = .ok (.iload_n 1, 1) := by decide +kernel
theorem d_jdk_65_method_132_1 : decode jdk_65_method_132_code 1 = .ok (.ifCond .ne 9, 3) := by decide +kernel
theorem d_jdk_65_method_132_4 : decode jdk_65_method_132_code 4 = .ok (.iload_n 2, 1) := by decide +kernel
theorem d_jdk_65_method_132_5 : decode jdk_65_method_132_code 5 = .ok (.aload_n 0, 1) := by decide +kernel
theorem d_jdk_65_method_132_6 : decode jdk_65_method_132_code 6 = .ok (.arraylength, 1) := by decide +kernel
theorem d_jdk_65_method_132_7 : decode jdk_65_method_132_code 7 = .ok (.if_icmp .eq 10, 3) := by decide +kernel
theorem d_jdk_65_method_132_10 : decode jdk_65_method_132_code 10 = .ok (.aload_n 0, 1) := by decide +kernel
theorem d_jdk_65_method_132_11 : decode jdk_65_method_132_code 11 = .ok (.iload_n 1, 1) := by decide +kernel
theorem d_jdk_65_method_132_12 : decode jdk_65_method_132_code 12 = .ok (.iload_n 2, 1) := by decide +kernel
theorem d_jdk_65_method_132_13 : decode jdk_65_method_132_code 13 = .ok (.invokestatic 339, 3) := by decide +kernel
theorem d_jdk_65_method_132_16 : decode jdk_65_method_132_code 16 = .ok (.areturn, 1) := by decide +kernel
theorem d_jdk_42_method_150_0 : decode jdk_42_method_150_code 0 = .ok (.aload_n 0, 1) := by decide +kernel
theorem d_jdk_42_method_150_1 : decode jdk_42_method_150_code 1 = .ok (.invokespecial 1, 3) := by decide +kernel
theorem d_jdk_42_method_150_4 : decode jdk_42_method_150_code 4 = .ok (.aload_n 1, 1) := by decide +kernel
theorem d_jdk_42_method_150_5 : decode jdk_42_method_150_code 5 = .ok (.invokevirtual 552, 3) := by decide +kernel
theorem d_jdk_42_method_150_8 : decode jdk_42_method_150_code 8 = .ok (.astore_n 3, 1) := by decide +kernel
theorem d_jdk_42_method_150_9 : decode jdk_42_method_150_code 9 = .ok (.aload_n 1, 1) := by decide +kernel
theorem d_jdk_42_method_150_10 : decode jdk_42_method_150_code 10 = .ok (.invokevirtual 549, 3) := by decide +kernel
theorem d_jdk_42_method_150_13 : decode jdk_42_method_150_code 13 = .ok (.istore 4, 2) := by decide +kernel
theorem d_jdk_42_method_150_15 : decode jdk_42_method_150_code 15 = .ok (.aload_n 1, 1) := by decide +kernel
theorem d_jdk_42_method_150_16 : decode jdk_42_method_150_code 16 = .ok (.invokevirtual 1047, 3) := by decide +kernel
theorem d_jdk_42_method_150_19 : decode jdk_42_method_150_code 19 = .ok (.ifCond .eq 22, 3) := by decide +kernel
theorem d_jdk_42_method_150_22 : decode jdk_42_method_150_code 22 = .ok (.aload_n 0, 1) := by decide +kernel
theorem d_jdk_42_method_150_23 : decode jdk_42_method_150_code 23 = .ok (.iconst 0, 1) := by decide +kernel
theorem d_jdk_42_method_150_24 : decode jdk_42_method_150_code 24 = .ok (.putfield 15, 3) := by decide +kernel
theorem d_jdk_42_method_150_27 : decode jdk_42_method_150_code 27 = .ok (.aload_n 0, 1) := by decide +kernel
theorem d_jdk_42_method_150_28 : decode jdk_42_method_150_code 28 = .ok (.aload_n 3, 1) := by decide +kernel
theorem d_jdk_42_method_150_29 : decode jdk_42_method_150_code 29 = .ok (.iconst 0, 1) := by decide +kernel
theorem d_jdk_42_method_150_30 : decode jdk_42_method_150_code 30 = .ok (.iload 4, 2) := by decide +kernel
theorem d_jdk_42_method_150_32 : decode jdk_42_method_150_code 32 = .ok (.invokestatic 54, 3) := by decide +kernel
theorem d_jdk_42_method_150_35 : decode jdk_42_method_150_code 35 = .ok (.putfield 9, 3) := by decide +kernel
theorem d_jdk_42_method_150_38 : decode jdk_42_method_150_code 38 = .ok (.goto 59, 3) := by decide +kernel
theorem d_jdk_42_method_150_97 : decode jdk_42_method_150_code 97 = .ok (.return_, 1) := by decide +kernel
theorem d_jdk_42_method_150_41 : decode jdk_42_method_150_code 41 = .ok (.getstatic 38, 3) := by decide +kernel
theorem d_jdk_42_method_150_44 : decode jdk_42_method_150_code 44 = .ok (.ifCond .eq 35, 3) := by decide +kernel
theorem d_jdk_42_method_150_47 : decode jdk_42_method_150_code 47 = .ok (.aload_n 1, 1) := by decide +kernel
theorem d_jdk_42_method_150_48 : decode jdk_42_method_150_code 48 = .ok (.getfield 1048, 3) := by decide +kernel
theorem d_jdk_42_method_150_51 : decode jdk_42_method_150_code 51 = .ok (.ifCond .eq 28, 3) := by decide +kernel
theorem d_jdk_42_method_150_79 : decode jdk_42_method_150_code 79 = .ok (.aload_n 0, 1) := by decide +kernel
theorem d_jdk_42_method_150_80 : decode jdk_42_method_150_code 80 = .ok (.iconst 1, 1) := by decide +kernel
theorem d_jdk_42_method_150_81 : decode jdk_42_method_150_code 81 = .ok (.putfield 15, 3) := by decide +kernel
theorem d_jdk_42_method_150_84 : decode jdk_42_method_150_code 84 = .ok (.aload_n 0, 1) := by decide +kernel
theorem d_jdk_42_method_150_85 : decode jdk_42_method_150_code 85 = .ok (.aload_n 3, 1) := by decide +kernel
theorem d_jdk_42_method_150_86 : decode jdk_42_method_150_code 86 = .ok (.iconst 0, 1) := by decide +kernel
theorem d_jdk_42_method_150_87 : decode jdk_42_method_150_code 87 = .ok (.iload 4, 2) := by decide +kernel
theorem d_jdk_42_method_150_89 : decode jdk_42_method_150_code 89 = .ok (.iconst 1, 1) := by decide +kernel
theorem d_jdk_42_method_150_90 : decode jdk_42_method_150_code 90 = .ok (.ishl, 1) := by decide +kernel
theorem d_jdk_42_method_150_91 : decode jdk_42_method_150_code 91 = .ok (.invokestatic 54, 3) := by decide +kernel
theorem d_jdk_42_method_150_94 : decode jdk_42_method_150_code 94 = .ok (.putfield 9, 3) := by decide +kernel
theorem d_jdk_42_method_53_0 : decode jdk_42_method_53_code 0 = .ok (.aload_n 0, 1) := by decide +kernel
theorem d_jdk_42_method_53_1 : decode jdk_42_method_53_code 1 = .ok (.aload_n 1, 1) := by decide +kernel
theorem d_jdk_42_method_53_2 : decode jdk_42_method_53_code 2 = .ok (.aconst_null, 1) := by decide +kernel
theorem d_jdk_42_method_53_3 : decode jdk_42_method_53_code 3 = .ok (.invokespecial 489, 3) := by decide +kernel
theorem d_jdk_42_method_53_6 : decode jdk_42_method_53_code 6 = .ok (.return_, 1) := by decide +kernel
theorem d_jdk_67_method_42_0 : decode jdk_67_method_42_code 0 = .ok (.new 18, 3) := by decide +kernel
theorem d_jdk_67_method_42_3 : decode jdk_67_method_42_code 3 = .ok (.dup, 1) := by decide +kernel
theorem d_jdk_67_method_42_4 : decode jdk_67_method_42_code 4 = .ok (.aload_n 0, 1) := by decide +kernel
theorem d_jdk_67_method_42_5 : decode jdk_67_method_42_code 5 = .ok (.invokespecial 137, 3) := by decide +kernel
theorem d_jdk_67_method_42_8 : decode jdk_67_method_42_code 8 = .ok (.areturn, 1) := by decide +kernel
theorem d_method_2_0 : decode method_2_code 0 = .ok (.iload_n 1, 1) := by decide +kernel
theorem d_method_2_1 : decode method_2_code 1 = .ok (.ldc 7, 2) := by decide +kernel
theorem d_method_2_3 : decode method_2_code 3 = .ok (.iand, 1) := by decide +kernel
theorem d_method_2_4 : decode method_2_code 4 = .ok (.i2c, 1) := by decide +kernel
theorem d_method_2_5 : decode method_2_code 5 = .ok (.istore_n 2, 1) := by decide +kernel
theorem d_method_2_6 : decode method_2_code 6 = .ok (.iload_n 1, 1) := by decide +kernel
theorem d_method_2_7 : decode method_2_code 7 = .ok (.bipush 16, 2) := by decide +kernel
theorem d_method_2_9 : decode method_2_code 9 = .ok (.iushr, 1) := by decide +kernel
theorem d_method_2_10 : decode method_2_code 10 = .ok (.ldc 7, 2) := by decide +kernel
theorem d_method_2_12 : decode method_2_code 12 = .ok (.iand, 1) := by decide +kernel
theorem d_method_2_13 : decode method_2_code 13 = .ok (.i2c, 1) := by decide +kernel
theorem d_method_2_14 : decode method_2_code 14 = .ok (.istore_n 3, 1) := by decide +kernel
theorem d_method_2_15 : decode method_2_code 15 = .ok (.iload_n 0, 1) := by decide +kernel
theorem d_method_2_16 : decode method_2_code 16 = .ok (.ifCond .ne 14, 3) := by decide +kernel
theorem d_method_2_19 : decode method_2_code 19 = .ok (.new 8, 3) := by decide +kernel
theorem d_method_2_22 : decode method_2_code 22 = .ok (.dup, 1) := by decide +kernel
theorem d_method_2_23 : decode method_2_code 23 = .ok (.iconst 0, 1) := by decide +kernel
theorem d_method_2_24 : decode method_2_code 24 = .ok (.newarray .char, 2) := by decide +kernel
theorem d_method_2_26 : decode method_2_code 26 = .ok (.invokespecial 10, 3) := by decide +kernel
theorem d_method_2_29 : decode method_2_code 29 = .ok (.areturn, 1) := by decide +kernel
theorem d_method_2_30 : decode method_2_code 30 = .ok (.iload_n 0, 1) := by decide +kernel
theorem d_method_2_31 : decode method_2_code 31 = .ok (.iconst 1, 1) := by decide +kernel
theorem d_method_2_32 : decode method_2_code 32 = .ok (.if_icmp .ne 23, 3) := by decide +kernel
theorem d_method_2_35 : decode method_2_code 35 = .ok (.iconst 1, 1) := by decide +kernel
theorem d_method_2_36 : decode method_2_code 36 = .ok (.newarray .char, 2) := by decide +kernel
theorem d_method_2_38 : decode method_2_code 38 = .ok (.astore 4, 2) := by decide +kernel
theorem d_method_2_40 : decode method_2_code 40 = .ok (.aload 4, 2) := by decide +kernel
theorem d_method_2_42 : decode method_2_code 42 = .ok (.iconst 0, 1) := by decide +kernel
theorem d_method_2_43 : decode method_2_code 43 = .ok (.iload_n 2, 1) := by decide +kernel
theorem d_method_2_44 : decode method_2_code 44 = .ok (.castore, 1) := by decide +kernel
theorem d_method_2_45 : decode method_2_code 45 = .ok (.new 8, 3) := by decide +kernel
theorem d_method_2_48 : decode method_2_code 48 = .ok (.dup, 1) := by decide +kernel
theorem d_method_2_49 : decode method_2_code 49 = .ok (.aload 4, 2) := by decide +kernel
theorem d_method_2_51 : decode method_2_code 51 = .ok (.invokespecial 10, 3) := by decide +kernel
theorem d_method_2_54 : decode method_2_code 54 = .ok (.areturn, 1) := by decide +kernel
theorem d_method_2_55 : decode method_2_code 55 = .ok (.iconst 2, 1) := by decide +kernel
theorem d_method_2_56 : decode method_2_code 56 = .ok (.newarray .char, 2) := by decide +kernel
theorem d_method_2_58 : decode method_2_code 58 = .ok (.astore 4, 2) := by decide +kernel
theorem d_method_2_60 : decode method_2_code 60 = .ok (.aload 4, 2) := by decide +kernel
theorem d_method_2_62 : decode method_2_code 62 = .ok (.iconst 0, 1) := by decide +kernel
theorem d_method_2_63 : decode method_2_code 63 = .ok (.iload_n 2, 1) := by decide +kernel
theorem d_method_2_64 : decode method_2_code 64 = .ok (.castore, 1) := by decide +kernel
theorem d_method_2_65 : decode method_2_code 65 = .ok (.aload 4, 2) := by decide +kernel
theorem d_method_2_67 : decode method_2_code 67 = .ok (.iconst 1, 1) := by decide +kernel
theorem d_method_2_68 : decode method_2_code 68 = .ok (.iload_n 3, 1) := by decide +kernel
theorem d_method_2_69 : decode method_2_code 69 = .ok (.castore, 1) := by decide +kernel
theorem d_method_2_70 : decode method_2_code 70 = .ok (.new 8, 3) := by decide +kernel
theorem d_method_2_73 : decode method_2_code 73 = .ok (.dup, 1) := by decide +kernel
theorem d_method_2_74 : decode method_2_code 74 = .ok (.aload 4, 2) := by decide +kernel
theorem d_method_2_76 : decode method_2_code 76 = .ok (.invokespecial 10, 3) := by decide +kernel
theorem d_method_2_79 : decode method_2_code 79 = .ok (.areturn, 1) := by decide +kernel
theorem d_jdk_30_method_1_0 : decode jdk_30_method_1_code 0 = .ok (.aload_n 0, 1) := by decide +kernel
theorem d_jdk_30_method_1_1 : decode jdk_30_method_1_code 1 = .ok (.invokespecial 1, 3) := by decide +kernel
theorem d_jdk_30_method_1_4 : decode jdk_30_method_1_code 4 = .ok (.return_, 1) := by decide +kernel
theorem d_prog_4_method_1_0 : decode prog_4_method_1_code 0 = .ok (.aload_n 0, 1) := by decide +kernel
theorem d_prog_4_method_1_1 : decode prog_4_method_1_code 1 = .ok (.invokespecial 1, 3) := by decide +kernel
theorem d_prog_4_method_1_4 : decode prog_4_method_1_code 4 = .ok (.aload_n 0, 1) := by decide +kernel
theorem d_prog_4_method_1_5 : decode prog_4_method_1_code 5 = .ok (.aload_n 1, 1) := by decide +kernel
theorem d_prog_4_method_1_6 : decode prog_4_method_1_code 6 = .ok (.putfield 7, 3) := by decide +kernel
theorem d_prog_4_method_1_9 : decode prog_4_method_1_code 9 = .ok (.aload_n 0, 1) := by decide +kernel
theorem d_prog_4_method_1_10 : decode prog_4_method_1_code 10 = .ok (.aload_n 2, 1) := by decide +kernel
theorem d_prog_4_method_1_11 : decode prog_4_method_1_code 11 = .ok (.putfield 13, 3) := by decide +kernel
theorem d_prog_4_method_1_14 : decode prog_4_method_1_code 14 = .ok (.return_, 1) := by decide +kernel
theorem d_prog_4_method_2_0 : decode prog_4_method_2_code 0 = .ok (.new 16, 3) := by decide +kernel
theorem d_prog_4_method_2_3 : decode prog_4_method_2_code 3 = .ok (.dup, 1) := by decide +kernel
theorem d_prog_4_method_2_4 : decode prog_4_method_2_code 4 = .ok (.invokespecial 18, 3) := by decide +kernel
theorem d_prog_4_method_2_7 : decode prog_4_method_2_code 7 = .ok (.aload_n 0, 1) := by decide +kernel
theorem d_prog_4_method_2_8 : decode prog_4_method_2_code 8 = .ok (.getfield 7, 3) := by decide +kernel
theorem d_prog_4_method_2_11 : decode prog_4_method_2_code 11 = .ok (.invokevirtual 19, 3) := by decide +kernel
theorem d_prog_4_method_2_14 : decode prog_4_method_2_code 14 = .ok (.ldc 23, 2) := by decide +kernel
theorem d_prog_4_method_2_16 : decode prog_4_method_2_code 16 = .ok (.invokevirtual 19, 3) := by decide +kernel
theorem d_prog_4_method_2_19 : decode prog_4_method_2_code 19 = .ok (.aload_n 0, 1) := by decide +kernel
theorem d_prog_4_method_2_20 : decode prog_4_method_2_code 20 = .ok (.getfield 13, 3) := by decide +kernel
theorem d_prog_4_method_2_23 : decode prog_4_method_2_code 23 = .ok (.invokevirtual 19, 3) := by decide +kernel
theorem d_prog_4_method_2_26 : decode prog_4_method_2_code 26 = .ok (.invokevirtual 25, 3) := by decide +kernel
theorem d_prog_4_method_2_29 : decode prog_4_method_2_code 29 = .ok (.areturn, 1) := by decide +kernel
theorem pf_0 : plainFor (⟨"java/lang/Math", "min", "(II)I"⟩ : MethodName) = true := by decide +kernel
theorem pn_0 : plainName "java/lang/StringUTF16" = true := by first | (simp [plainName, overriddenIn]; done) | decide +kernel
theorem pn_1 : plainName "java/lang/String" = true := by first | (simp [plainName, overriddenIn]; done) | decide +kernel
theorem pn_2 : plainName "jdk/internal/util/Preconditions" = true := by first | (simp [plainName, overriddenIn]; done) | decide +kernel
theorem pn_3 : plainName "java/lang/StringLatin1" = true := by first | (simp [plainName, overriddenIn]; done) | decide +kernel
theorem pn_5 : plainName "java/lang/AbstractStringBuilder" = true := by first | (simp [plainName, overriddenIn]; done) | decide +kernel
theorem pn_6 : plainName "java/lang/StringBuilder" = true := by first | (simp [plainName, overriddenIn]; done) | decide +kernel
theorem pn_7 : plainName "java/util/Arrays" = true := by first | (simp [plainName, overriddenIn]; done) | decide +kernel
theorem pn_8 : plainName "com/example/goldenrod/goldenrod/ProblemToStringPinLaw" = true := by first | (simp [plainName, overriddenIn]; done) | decide +kernel
theorem pn_9 : plainName "java/lang/Record" = true := by first | (simp [plainName, overriddenIn]; done) | decide +kernel
theorem pn_10 : plainName "com/example/goldenrod/goldenrod/InvalidRulesException$Problem" = true := by first | (simp [plainName, overriddenIn]; done) | decide +kernel
theorem pd_0 : parseMethodDescriptor "([CI[BII)I" = some ⟨[(.array .char), .int, (.array .byte), .int, .int], some .int⟩ := by decide +kernel
theorem pd_1 : parseMethodDescriptor "([CII)[B" = some ⟨[(.array .char), .int, .int], some (.array .byte)⟩ := by decide +kernel
theorem pd_2 : parseMethodDescriptor "([BI)B" = some ⟨[(.array .byte), .int], some .byte⟩ := by decide +kernel
theorem pd_3 : parseMethodDescriptor "([CIILjava/lang/Void;)V" = some ⟨[(.array .char), .int, .int, (.object "java/lang/Void")], none⟩ := by decide +kernel
theorem pd_4 : parseMethodDescriptor "()B" = some ⟨[], some .byte⟩ := by decide +kernel
theorem pd_5 : parseMethodDescriptor "(IILjava/util/function/BiFunction;)I" = some ⟨[.int, .int, (.object "java/util/function/BiFunction")], some .int⟩ := by decide +kernel
theorem pd_6 : parseMethodDescriptor "(II)V" = some ⟨[.int, .int], none⟩ := by decide +kernel
theorem pd_7 : parseMethodDescriptor "()Z" = some ⟨[], some .boolean⟩ := by decide +kernel
theorem pd_8 : parseMethodDescriptor "([BI)C" = some ⟨[(.array .byte), .int], some .char⟩ := by decide +kernel
theorem pd_9 : parseMethodDescriptor "(I)I" = some ⟨[.int], some .int⟩ := by decide +kernel
theorem pd_10 : parseMethodDescriptor "(I)[B" = some ⟨[.int], some (.array .byte)⟩ := by decide +kernel
theorem pd_11 : parseMethodDescriptor "([BII)V" = some ⟨[(.array .byte), .int, .int], none⟩ := by decide +kernel
theorem pd_12 : parseMethodDescriptor "([B)I" = some ⟨[(.array .byte)], some .int⟩ := by decide +kernel
theorem pd_13 : parseMethodDescriptor "(I[B)V" = some ⟨[.int, (.array .byte)], none⟩ := by decide +kernel
theorem pd_14 : parseMethodDescriptor "(I)V" = some ⟨[.int], none⟩ := by decide +kernel
theorem pd_15 : parseMethodDescriptor "(IIILjava/util/function/BiFunction;)I" = some ⟨[.int, .int, .int, (.object "java/util/function/BiFunction")], some .int⟩ := by decide +kernel
theorem pd_16 : parseMethodDescriptor "(III)I" = some ⟨[.int, .int, .int], some .int⟩ := by decide +kernel
theorem pd_17 : parseMethodDescriptor "(II[B)V" = some ⟨[.int, .int, (.array .byte)], none⟩ := by decide +kernel
theorem pd_18 : parseMethodDescriptor "([BI[BII)V" = some ⟨[(.array .byte), .int, (.array .byte), .int, .int], none⟩ := by decide +kernel
theorem pd_19 : parseMethodDescriptor "()V" = some ⟨[], none⟩ := by decide +kernel
theorem pd_20 : parseMethodDescriptor "(Ljava/lang/String;)V" = some ⟨[(.object "java/lang/String")], none⟩ := by decide +kernel
theorem pd_21 : parseMethodDescriptor "([BIB)V" = some ⟨[(.array .byte), .int, .byte], none⟩ := by decide +kernel
theorem pd_22 : parseMethodDescriptor "()I" = some ⟨[], some .int⟩ := by decide +kernel
theorem pd_23 : parseMethodDescriptor "(ILjava/lang/String;)V" = some ⟨[.int, (.object "java/lang/String")], none⟩ := by decide +kernel
theorem pd_24 : parseMethodDescriptor "(Ljava/lang/String;)Ljava/lang/AbstractStringBuilder;" = some ⟨[(.object "java/lang/String")], some (.object "java/lang/AbstractStringBuilder")⟩ := by decide +kernel
theorem pd_25 : parseMethodDescriptor "(II)I" = some ⟨[.int, .int], some .int⟩ := by decide +kernel
theorem pd_26 : parseMethodDescriptor "([BII)[B" = some ⟨[(.array .byte), .int, .int], some (.array .byte)⟩ := by decide +kernel
theorem pd_27 : parseMethodDescriptor "()[B" = some ⟨[], some (.array .byte)⟩ := by decide +kernel
theorem pd_28 : parseMethodDescriptor "(Ljava/lang/AbstractStringBuilder;Ljava/lang/Void;)V" = some ⟨[(.object "java/lang/AbstractStringBuilder"), (.object "java/lang/Void")], none⟩ := by decide +kernel
theorem pd_29 : parseMethodDescriptor "(Ljava/lang/StringBuilder;)V" = some ⟨[(.object "java/lang/StringBuilder")], none⟩ := by decide +kernel
theorem pd_30 : parseMethodDescriptor "([C)V" = some ⟨[(.array .char)], none⟩ := by decide +kernel
theorem pd_31 : parseMethodDescriptor "(Ljava/lang/String;)Ljava/lang/StringBuilder;" = some ⟨[(.object "java/lang/String")], some (.object "java/lang/StringBuilder")⟩ := by decide +kernel
theorem pd_32 : parseMethodDescriptor "()Ljava/lang/String;" = some ⟨[], some (.object "java/lang/String")⟩ := by decide +kernel
theorem pd_33 : parseMethodDescriptor "(II)Ljava/lang/String;" = some ⟨[.int, .int], some (.object "java/lang/String")⟩ := by decide +kernel
theorem pd_34 : parseMethodDescriptor "(Ljava/lang/String;Ljava/lang/String;)V" = some ⟨[(.object "java/lang/String"), (.object "java/lang/String")], none⟩ := by decide +kernel
theorem pd_35 : parseMethodDescriptor "(I)C" = some ⟨[.int], some .char⟩ := by decide +kernel
def Gl (Z : State) (a0 : Array Value) : Prop := (∀ d ∈ tables_1, d.before a0 Z = true) ∧ EW Z a0 consts_1 ∧ (∃ G : Int32, Sta Z Z.heap "java/lang/String" "COMPACT_STRINGS" "Z" (.int G) ∧ ¬ G = 0) ∧ (∃ G : Value, Sta Z Z.heap "jdk/internal/util/Preconditions" "SIOOBE_FORMATTER" "Ljava/util/function/BiFunction;" G ∧ G.isRef = true) ∧ Sta Z Z.heap "java/lang/StringUTF16" "$assertionsDisabled" "Z" (.int 1) ∧ Sta Z Z.heap "java/lang/StringUTF16" "HI_BYTE_SHIFT" "I" (.int 0) ∧ Sta Z Z.heap "java/lang/StringUTF16" "LO_BYTE_SHIFT" "I" (.int 8)
theorem stratoms {Z : State} {a0 : Array Value} (g : Gl Z a0) : ∀ d ∈ Bundle.stringAtoms, d.before a0 Z = true := fun d hd => g.1 d ((by decide +kernel : ∀ d ∈ Bundle.stringAtoms, d ∈ tables_1) d hd)
set_option maxRecDepth 65536 in
set_option maxHeartbeats 4000000 in
theorem c_coderlen {l : Launch} {Z : State} {a0 : Array Value} {kn : Bool} (g : Gl Z a0) {ws : List Cond} {h0 : Heap} {ss : List Addr} (hO : Old Z Z.heap.size h0) {b : Addr} {n : Int32} {kb : ClassId} {vs : List Value} {dv : Value} (A : Arv Z h0 b kb .byte n vs dv) :
    Con l Z consts_1 kn ws (⟨"java/lang/StringUTF16", "coderFromArrayLen", "([BI)B"⟩ : MethodName) jdk_52_method_15_code 2 (some .byte) ({ frames := 0, cells := 0, slots := 0, locals := 0 } : Room) #[(.ref b), (.int n)] h0 ss (rV fun v h => h0 = h ∧ v = .int 0) := by
  have hw := g.1
  have hEL := g.2.1
  refine Con.of (plainFor_of_name pn_0) hO ?_
  intro p e s m below meth c T0 me W0
  refine Fi.entry (L := #[.val (.ref b), .val (.int n)]) (by first | (simp [entryFrame, mkF, argsToLocals, Value.category, maxLocals]; done) | (simp [entryFrame, mkF, argsToLocals, Value.category]; done) | rfl) ?_
  refine W0.iloadN me d_jdk_52_method_15_0 rfl ?_
  refine W0.aloadN me d_jdk_52_method_15_1 rfl rfl ?_
  show Fi p e below s Z _ _ _ _ T0 (mkF m 2 #[.val (.ref b), .val (.int n)] [(.ref b), (.int n)])
  refine W0.alen me A d_jdk_52_method_15_2 ?_
  refine W0.isub me d_jdk_52_method_15_3 ?_
  refine W0.bipush me d_jdk_52_method_15_4 (v := 31) rfl ?_
  refine W0.iushr me d_jdk_52_method_15_6 ?_
  refine W0.i2b me d_jdk_52_method_15_7 ?_
  show Fi p e below s Z _ _ _ _ T0 (mkF m 8 #[.val (.ref b), .val (.int n)] [(.int ((XT.ushr (n - n) (31 : Int32)).toInt8.toInt32))])
  have e1 : (XT.ushr (n - n) (31 : Int32)).toInt8.toInt32 = 0 := by rw [Int32.sub_self]; decide
  rw [e1]
  exact W0.retN hEL me (Or.inr (Or.inl rfl)) d_jdk_52_method_15_8 ⟨rfl, rfl⟩ (by decide) (by decide)

set_option maxRecDepth 65536 in
set_option maxHeartbeats 4000000 in
theorem c_compress {l : Launch} {Z : State} {a0 : Array Value} {kn : Bool} (g : Gl Z a0) {ws : List Cond} {h0 : Heap} {ss : List Addr} (hO : Old Z Z.heap.size h0) {ca b : Addr} {kca kb : ClassId} {cs : List Int32} {dv : Value} (Aca : Arv Z h0 ca kca .char (Int32.ofNat cs.length) (cs.map Value.int) dv) (A0 : Arv Z h0 b kb .byte (Int32.ofNat cs.length) [] (.int 0)) (hne : ca ≠ b) (hS : b ∈ ss) (hz : Z.heap.size ≤ b) (hC8 : C8 cs) (hl : cs.length < 2 ^ 20) :
    Con l Z consts_1 kn ws (⟨"java/lang/StringUTF16", "compress", "([CI[BII)I"⟩ : MethodName) jdk_52_method_21_code 7 (some .int) ({ frames := 0, cells := 0, slots := 0, locals := 0 } : Room) #[(.ref ca), (.int 0), (.ref b), (.int 0), (.int (Int32.ofNat cs.length))] h0 ss (rV fun v h => Keep h0 h [b] ∧ v = .int (Int32.ofNat cs.length) ∧ Arv Z h b kb .byte (Int32.ofNat cs.length) (lb cs) (.int 0)) := by
  have hw := g.1
  have hEL := g.2.1
  refine Con.of (plainFor_of_name pn_0) hO ?_
  intro p e s m below meth c T0 me W0
  refine Fi.entry (L := #[.val (.ref ca), .val (.int 0), .val (.ref b), .val (.int 0), .val (.int (Int32.ofNat cs.length)), .unset, .unset]) (by first | (simp [entryFrame, mkF, argsToLocals, Value.category, maxLocals]; done) | (simp [entryFrame, mkF, argsToLocals, Value.category]; done) | rfl) ?_
  have loop : ∀ (r i : Nat) (T1 : State) (h1 : Heap) (o : Slot), i + r = cs.length → (o = .unset ∨ ∃ w, o = .val w ∧ w.category = 1) → Wk p l e ({ frames := 0, cells := 0, slots := 0, locals := 0 } : Room) s m #[(.ref ca), (.int 0), (.ref b), (.int 0), (.int (Int32.ofNat cs.length))] below meth c Z consts_1 kn "java/lang/StringUTF16" T1 h1 ss 0 0 → Keep h0 h1 [b] → Arv Z h1 b kb .byte (Int32.ofNat cs.length) (lb (cs.take i)) (.int 0) →
      Fi p e below s Z consts_1 0 0 (rV fun v h => Keep h0 h [b] ∧ v = .int (Int32.ofNat cs.length) ∧ Arv Z h b kb .byte (Int32.ofNat cs.length) (lb cs) (.int 0)) T1 (mkF m 3 #[.val (.ref ca), .val (.int (Int32.ofNat i)), .val (.ref b), .val (.int (Int32.ofNat i)), .val (.int (Int32.ofNat cs.length)), .val (.int (Int32.ofNat i)), o] []) := by
    intro r
    induction r with
    | zero =>
      intro i T1 h1 o hi ho W1 K A
      refine W1.iload me d_jdk_52_method_21_3 rfl ?_
      refine W1.iload me d_jdk_52_method_21_5 rfl ?_
      refine W1.icY_ge me d_jdk_52_method_21_7 (on_nlt (by omega) (by omega)) (pc' := 44) (by decide) (by decide) ?_
      refine W1.iload me d_jdk_52_method_21_44 rfl ?_
      have e1 : cs.take i = cs := List.take_of_length_le (by omega)
      rw [e1] at A
      exact W1.retI hEL me d_jdk_52_method_21_46 ⟨K, rfl, A⟩ (by decide) (by decide)
    | succ r ih =>
      intro i T1 h1 o hi ho W1 K A
      have hlt : i < cs.length := by omega
      have Ac := Aca.keep K (ninS hne nin0)
      have hch := hC8.at hlt
      obtain ⟨x, hx⟩ : ∃ x, x = cs.getD i 0 := ⟨_, rfl⟩
      refine W1.iload me d_jdk_52_method_21_3 rfl ?_
      refine W1.iload me d_jdk_52_method_21_5 rfl ?_
      refine W1.icN_ge me d_jdk_52_method_21_7 (on_lt hlt (by omega)) ?_
      refine W1.aloadN me d_jdk_52_method_21_10 rfl rfl ?_
      refine W1.iloadN me d_jdk_52_method_21_11 rfl ?_
      refine W1.caload me Ac d_jdk_52_method_21_12 (on_in hlt (by omega)) (v := .int x) (by rw [on_clamp (by omega), ci_get hlt, hx]) ?_
      refine W1.istore me d_jdk_52_method_21_13 (l' := #[.val (.ref ca), .val (.int (Int32.ofNat i)), .val (.ref b), .val (.int (Int32.ofNat i)), .val (.int (Int32.ofNat cs.length)), .val (.int (Int32.ofNat i)), .val (.int x)]) (XS.store1 (i := 6) rfl ho rfl) ?_
      refine W1.iload me d_jdk_52_method_21_15 rfl ?_
      refine W1.sipush me d_jdk_52_method_21_17 (v := 255) rfl ?_
      refine W1.icY_le me d_jdk_52_method_21_20 (hx ▸ hch.2) (pc' := 26) (by decide) (by decide) ?_
      refine W1.aloadN me d_jdk_52_method_21_26 rfl rfl ?_
      refine W1.iloadN me d_jdk_52_method_21_27 rfl ?_
      refine W1.iload me d_jdk_52_method_21_28 rfl ?_
      refine W1.i2b me d_jdk_52_method_21_30 ?_
      show Fi p e below s Z _ _ _ _ T1 (mkF m 31 #[.val (.ref ca), .val (.int (Int32.ofNat i)), .val (.ref b), .val (.int (Int32.ofNat i)), .val (.int (Int32.ofNat cs.length)), .val (.int (Int32.ofNat i)), .val (.int x)] [(.int (x.toInt8.toInt32)), (.int (Int32.ofNat i)), (.ref b)])
      refine W1.bastoreP me A (nar_byte_idem x) d_jdk_52_method_21_31 (i := i) (by rw [lb_len, List.length_take]; omega) (on_clamp (by omega)) (on_in hlt (by omega)) hS hz ?_
      intro T2 h2 W2 R2 A2
      refine W2.iinc me d_jdk_52_method_21_32 (v := 1) rfl rfl (l' := #[.val (.ref ca), .val (.int ((Int32.ofNat i) + (1 : Int32))), .val (.ref b), .val (.int (Int32.ofNat i)), .val (.int (Int32.ofNat cs.length)), .val (.int (Int32.ofNat i)), .val (.int x)]) rfl ?_
      refine W2.iinc me d_jdk_52_method_21_35 (v := 1) rfl rfl (l' := #[.val (.ref ca), .val (.int ((Int32.ofNat i) + (1 : Int32))), .val (.ref b), .val (.int ((Int32.ofNat i) + (1 : Int32))), .val (.int (Int32.ofNat cs.length)), .val (.int (Int32.ofNat i)), .val (.int x)]) rfl ?_
      refine W2.iinc me d_jdk_52_method_21_38 (v := 1) rfl rfl (l' := #[.val (.ref ca), .val (.int ((Int32.ofNat i) + (1 : Int32))), .val (.ref b), .val (.int ((Int32.ofNat i) + (1 : Int32))), .val (.int (Int32.ofNat cs.length)), .val (.int ((Int32.ofNat i) + (1 : Int32))), .val (.int x)]) rfl ?_
      refine W2.goto me d_jdk_52_method_21_41 (pc' := 3) (by decide) (by decide) ?_
      show Fi p e below s Z _ _ _ _ T2 (mkF m 3 #[.val (.ref ca), .val (.int ((Int32.ofNat i) + (1 : Int32))), .val (.ref b), .val (.int ((Int32.ofNat i) + (1 : Int32))), .val (.int (Int32.ofNat cs.length)), .val (.int ((Int32.ofNat i) + (1 : Int32))), .val (.int x)] [])
      rw [on_succ]
      exact ih (i + 1) T2 h2 (.val (.int x)) (by omega) (Or.inr ⟨_, rfl, rfl⟩) W2 (K.wr R2 (Or.inl (List.mem_singleton.mpr rfl))) (by rw [hx, lb_take_succ hlt] at A2; exact A2)
  refine W0.iconst me d_jdk_52_method_21_0 (v := 0) rfl ?_
  refine W0.istore me d_jdk_52_method_21_1 (l' := #[.val (.ref ca), .val (.int 0), .val (.ref b), .val (.int 0), .val (.int (Int32.ofNat cs.length)), .val (.int (0 : Int32)), .unset]) rfl ?_
  exact loop cs.length 0 T0 h0 .unset (by omega) (Or.inl rfl) W0 (Keep.refl _ _) A0

set_option maxRecDepth 65536 in
set_option maxHeartbeats 4000000 in
theorem c_compress1 {l : Launch} {Z : State} {a0 : Array Value} {kn : Bool} (g : Gl Z a0) {ws : List Cond} {h0 : Heap} {ss : List Addr} (hO : Old Z Z.heap.size h0) {ca : Addr} {kca : ClassId} {cs : List Int32} {dv : Value} (Aca : Arv Z h0 ca kca .char (Int32.ofNat cs.length) (cs.map Value.int) dv) (hC8 : C8 cs) (hl : cs.length ≤ 8) :
    Con l Z consts_1 kn ws (⟨"java/lang/StringUTF16", "compress", "([CII)[B"⟩ : MethodName) jdk_52_method_16_code 6 (some (.array .byte)) ({ frames := 1, cells := 1, slots := 8, locals := 18 } : Room) #[(.ref ca), (.int 0), (.int (Int32.ofNat cs.length))] h0 ss (rV fun v h => Ext h0 h ∧ ∃ b kb, v = .ref b ∧ h0.size ≤ b ∧ Arv Z h b kb .byte (Int32.ofNat cs.length) (lb cs) (.int 0)) := by
  have hw := g.1
  have hEL := g.2.1
  refine Con.of (plainFor_of_name pn_0) hO ?_
  intro p e s m below meth c T0 me W0
  refine Fi.entry (L := #[.val (.ref ca), .val (.int 0), .val (.int (Int32.ofNat cs.length)), .unset, .unset, .unset]) (by first | (simp [entryFrame, mkF, argsToLocals, Value.category, maxLocals]; done) | (simp [entryFrame, mkF, argsToLocals, Value.category]; done) | rfl) ?_
  have hlt1 := own_lt Aca.lt
  refine W0.iloadN me d_jdk_52_method_16_0 rfl ?_
  show Fi p e below s Z _ _ _ _ T0 (mkF m 1 #[.val (.ref ca), .val (.int 0), .val (.int (Int32.ofNat cs.length)), .unset, .unset, .unset] [(.int (Int32.ofNat cs.length))])
  refine W0.newA me (hw _ (List.mem_of_getElem? (i := 24) rfl)) d_jdk_52_method_16_1 (on_nneg (by omega)) (cap := 8) (by rw [on_clamp (by omega)]; exact hl) (own_le rfl) (own_le rfl) (own_le rfl) ?_
  intro T1 h1 a1 k1 g1 W1 E1 A1
  refine W1.astoreN me d_jdk_52_method_16_3 (l' := #[.val (.ref ca), .val (.int 0), .val (.int (Int32.ofNat cs.length)), .val (.ref a1), .unset, .unset]) rfl rfl ?_
  refine W1.aloadN me d_jdk_52_method_16_4 rfl rfl ?_
  refine W1.iloadN me d_jdk_52_method_16_5 rfl ?_
  refine W1.aloadN me d_jdk_52_method_16_6 rfl rfl ?_
  refine W1.iconst me d_jdk_52_method_16_7 (v := 0) rfl ?_
  refine W1.iloadN me d_jdk_52_method_16_8 rfl ?_
  show Fi p e below s Z _ _ _ _ T1 (mkF m 9 #[.val (.ref ca), .val (.int 0), .val (.int (Int32.ofNat cs.length)), .val (.ref a1), .unset, .unset] [(.int (Int32.ofNat cs.length)), (.int (0 : Int32)), (.ref a1), (.int 0), (.ref ca)])
  refine W1.callS me hEL (hw _ (List.mem_of_getElem? (i := 25) rfl)) (hw _ (List.mem_of_getElem? (i := 26) rfl)) (hw _ (List.mem_of_getElem? (i := 22) rfl)) (hw _ (List.mem_of_getElem? (i := 27) rfl)) (argsL := [(.ref ca), (.int 0), (.ref a1), (.int (0 : Int32)), (.int (Int32.ofNat cs.length))]) (rest := []) (c_compress g W1.old (Aca.ext E1) A1 (own_ne (by omega)) (List.mem_cons_self ..) (by have := hO.2.1; omega) hC8 (by omega)) d_jdk_52_method_16_9 (by decide) (fun _ q => q) rfl (lenOf pd_0 rfl) (own_le rfl) (own_le rfl) (own_le rfl) (own_le rfl) rfl ?_
  intro T2 h2 v2 W2 z2 q2
  obtain ⟨sf2, X2, _, rfl, K2, rfl, A2⟩ := q2
  show Fi p e below s Z _ _ _ _ T2 (mkF m 12 #[.val (.ref ca), .val (.int 0), .val (.int (Int32.ofNat cs.length)), .val (.ref a1), .unset, .unset] [(.int (Int32.ofNat cs.length))])
  refine W2.istore me d_jdk_52_method_16_12 (l' := #[.val (.ref ca), .val (.int 0), .val (.int (Int32.ofNat cs.length)), .val (.ref a1), .val (.int (Int32.ofNat cs.length)), .unset]) rfl ?_
  refine W2.iload me d_jdk_52_method_16_14 rfl ?_
  refine W2.iloadN me d_jdk_52_method_16_16 rfl ?_
  show Fi p e below s Z _ _ _ _ T2 (mkF m 17 #[.val (.ref ca), .val (.int 0), .val (.int (Int32.ofNat cs.length)), .val (.ref a1), .val (.int (Int32.ofNat cs.length)), .unset] [(.int (Int32.ofNat cs.length)), (.int (Int32.ofNat cs.length))])
  refine W2.icY_eq me d_jdk_52_method_16_17 rfl (pc' := 57) (by decide) (by decide) ?_
  refine W2.aloadN me d_jdk_52_method_16_57 rfl rfl ?_
  show Fi p e below s Z _ _ _ _ T2 (mkF m 58 #[.val (.ref ca), .val (.int 0), .val (.int (Int32.ofNat cs.length)), .val (.ref a1), .val (.int (Int32.ofNat cs.length)), .unset] [(.ref a1)])
  exact W2.retA hEL me d_jdk_52_method_16_58 ⟨own_xk E1 K2 (allS (by omega) all0), a1, k1, rfl, by omega, A2⟩ (by decide) (by decide) rfl rfl rfl

set_option maxRecDepth 65536 in
set_option maxHeartbeats 4000000 in
theorem c_init149 {l : Launch} {Z : State} {a0 : Array Value} {kn : Bool} (g : Gl Z a0) {ws : List Cond} {h0 : Heap} {ss : List Addr} (hO : Old Z Z.heap.size h0) {x ca : Addr} {kca : ClassId} {cs : List Int32} {dv vv vc : Value} (EX : Exa Z h0 x "java/lang/String") (FV : Fld Z h0 x "java/lang/String" "value" "[B" vv) (FC : Fld Z h0 x "java/lang/String" "coder" "B" vc) (Aca : Arv Z h0 ca kca .char (Int32.ofNat cs.length) (cs.map Value.int) dv) (hS : x ∈ ss) (hz : Z.heap.size ≤ x) (hC8 : C8 cs) (hl : cs.length ≤ 8) :
    Con l Z consts_1 kn ws (⟨"java/lang/String", "<init>", "([CIILjava/lang/Void;)V"⟩ : MethodName) jdk_42_method_149_code 6 none ({ frames := 2, cells := 4, slots := 8, locals := 35 } : Room) #[(.ref x), (.ref ca), (.int 0), (.int (Int32.ofNat cs.length)), .null] h0 ss (rU fun h => Keep h0 h [x] ∧ Lat Z h x cs) := by
  have hw := g.1
  have hEL := g.2.1
  refine Con.of (plainFor_of_name pn_1) hO ?_
  intro p e s m below meth c T0 me W0
  refine Fi.entry (L := #[.val (.ref x), .val (.ref ca), .val (.int 0), .val (.int (Int32.ofNat cs.length)), .val .null, .unset]) (by first | (simp [entryFrame, mkF, argsToLocals, Value.category, maxLocals]; done) | (simp [entryFrame, mkF, argsToLocals, Value.category]; done) | rfl) ?_
  refine W0.aloadN me d_jdk_42_method_149_0 rfl rfl ?_
  show Fi p e below s Z _ _ _ _ T0 (mkF m 1 #[.val (.ref x), .val (.ref ca), .val (.int 0), .val (.int (Int32.ofNat cs.length)), .val .null, .unset] [(.ref x)])
  refine W0.initO me (hw _ (List.mem_of_getElem? (i := 16) rfl)) (hw _ (List.mem_of_getElem? (i := 17) rfl)) (hw _ (List.mem_of_getElem? (i := 18) rfl)) d_jdk_42_method_149_1 rfl (own_le rfl) (own_le rfl) ?_
  intro T1 W1
  show Fi p e below s Z _ _ _ _ T1 (mkF m 4 #[.val (.ref x), .val (.ref ca), .val (.int 0), .val (.int (Int32.ofNat cs.length)), .val .null, .unset] [])
  refine W1.iloadN me d_jdk_42_method_149_4 rfl ?_
  show Fi p e below s Z _ _ _ _ T1 (mkF m 5 #[.val (.ref x), .val (.ref ca), .val (.int 0), .val (.int (Int32.ofNat cs.length)), .val .null, .unset] [(.int (Int32.ofNat cs.length))])
  have hLV : Laid Z a0 "java/lang/String" "java/lang/String" "value" "[B" := Or.inr (hw _ (List.mem_of_getElem? (i := 34) rfl))
  have hLC : Laid Z a0 "java/lang/String" "java/lang/String" "coder" "B" := Or.inr (hw _ (List.mem_of_getElem? (i := 32) rfl))
  have hvc : Jvm.RoadKit.slotOf Z "java/lang/String" "value" "[B" ≠ Jvm.RoadKit.slotOf Z "java/lang/String" "coder" "B" := slot_ne hLV hLC (by decide) (t := .array .byte) (t' := .byte) (by decide) (by decide)
  have hxlt := own_lt EX.lt
  refine W1.if_ne me d_jdk_42_method_149_5 (pc' := 27) (by decide) (by decide) (fun hb => ?_) (fun hb => ?_)
  rotate_left
  ·
    have e0 : cs.length = 0 := (on_inj (by omega) (by omega)).mp (hb.trans rfl)
    have ec : cs = [] := List.eq_nil_of_length_eq_zero e0
    refine W1.aloadN me d_jdk_42_method_149_8 rfl rfl ?_
    show Fi p e below s Z _ _ _ _ T1 (mkF m 9 #[.val (.ref x), .val (.ref ca), .val (.int 0), .val (.int (Int32.ofNat cs.length)), .val .null, .unset] [(.ref x)])
    refine W1.ldcS me hEL (List.mem_of_getElem? (i := 1) rfl) (hw _ (List.mem_of_getElem? (i := 35) rfl)) (stratoms g) (vs := []) (z := 0) ⟨by decide, by decide⟩ (by decide) (by decide) d_jdk_42_method_149_9 (n := 0) (by decide) (by decide) (by decide) (by decide) ?_
    intro T2 h2 a2 b2 k2 W2 E2 A2 C2 V2 B2 N2
    show Fi p e below s Z _ _ _ _ T2 (mkF m 11 #[.val (.ref x), .val (.ref ca), .val (.int 0), .val (.int (Int32.ofNat cs.length)), .val .null, .unset] [(.ref a2), (.ref x)])
    refine W2.getF me (hw _ (List.mem_of_getElem? (i := 33) rfl)) V2 Via.refl d_jdk_42_method_149_11 ?_
    intro T3 W3
    show Fi p e below s Z _ _ _ _ T3 (mkF m 14 #[.val (.ref x), .val (.ref ca), .val (.int 0), .val (.int (Int32.ofNat cs.length)), .val .null, .unset] [(.ref b2), (.ref x)])
    have N2a := (N2 x hS).1
    have N2b := (N2 x hS).2
    refine W3.putF me (hw _ (List.mem_of_getElem? (i := 33) rfl)) (FV.ext E2) Via.refl (EX.ext E2) (Or.inr ⟨(hw _ (List.mem_of_getElem? (i := 34) rfl)), rfl, rfl⟩) (hw _ (List.mem_of_getElem? (i := 7) rfl)) (ty := (.array .byte)) (by decide) rfl rfl (Or.inl hS) hz d_jdk_42_method_149_14 ?_
    intro T4 h4 W4 R4
    show Fi p e below s Z _ _ _ _ T4 (mkF m 17 #[.val (.ref x), .val (.ref ca), .val (.int 0), .val (.int (Int32.ofNat cs.length)), .val .null, .unset] [])
    refine W4.aloadN me d_jdk_42_method_149_17 rfl rfl ?_
    show Fi p e below s Z _ _ _ _ T4 (mkF m 18 #[.val (.ref x), .val (.ref ca), .val (.int 0), .val (.int (Int32.ofNat cs.length)), .val .null, .unset] [(.ref x)])
    refine W4.ldcS me hEL (List.mem_of_getElem? (i := 1) rfl) (hw _ (List.mem_of_getElem? (i := 35) rfl)) (stratoms g) (vs := []) (z := 0) ⟨by decide, by decide⟩ (by decide) (by decide) d_jdk_42_method_149_18 (n := 0) (by decide) (by decide) (by decide) (by decide) ?_
    intro T5 h5 a5 b5 k5 W5 E5 A5 C5 V5 B5 N5
    show Fi p e below s Z _ _ _ _ T5 (mkF m 20 #[.val (.ref x), .val (.ref ca), .val (.int 0), .val (.int (Int32.ofNat cs.length)), .val .null, .unset] [(.ref a5), (.ref x)])
    refine W5.getF me (hw _ (List.mem_of_getElem? (i := 31) rfl)) C5 Via.refl d_jdk_42_method_149_20 ?_
    intro T6 W6
    show Fi p e below s Z _ _ _ _ T6 (mkF m 23 #[.val (.ref x), .val (.ref ca), .val (.int 0), .val (.int (Int32.ofNat cs.length)), .val .null, .unset] [(.int (0 : Int32)), (.ref x)])
    have FC3 := ((FC.ext E2).other R4 (Or.inr hvc.symm)).ext E5
    have FV3 := ((FV.ext E2).same R4).ext E5
    have EX3 := ((EX.ext E2).wr R4).ext E5
    have B3 := (B2.other R4 (Ne.symm N2b)).ext E5
    refine W6.putF me (hw _ (List.mem_of_getElem? (i := 31) rfl)) FC3 Via.refl EX3 (Or.inr ⟨(hw _ (List.mem_of_getElem? (i := 32) rfl)), rfl, rfl⟩) (hw _ (List.mem_of_getElem? (i := 7) rfl)) (ty := .byte) (by decide) rfl rfl (Or.inl hS) hz d_jdk_42_method_149_23 ?_
    intro T7 h7 W7 R7
    show Fi p e below s Z _ _ _ _ T7 (mkF m 26 #[.val (.ref x), .val (.ref ca), .val (.int 0), .val (.int (Int32.ofNat cs.length)), .val .null, .unset] [])
    have K4 : Keep h0 h7 [x] := (((own_xK E2 [x]).wr R4 (Or.inl (List.mem_singleton.mpr rfl))).ext E5).wr R7 (Or.inl (List.mem_singleton.mpr rfl))
    exact W7.retU hEL me d_jdk_42_method_149_26 ⟨K4, by rw [ec]; exact ⟨b2, k2, EX3.wr R7, FC3.same R7, FV3.other R7 (Or.inr hvc), B3.other R7 (Ne.symm N2b), by decide, C8.nil⟩⟩ (by decide) (by decide)
  ·
    show Fi p e below s Z _ _ _ _ T1 (mkF m 27 #[.val (.ref x), .val (.ref ca), .val (.int 0), .val (.int (Int32.ofNat cs.length)), .val .null, .unset] [])
    obtain ⟨G, O2, P2⟩ := g.2.2.1
    refine W1.getS me (hw _ (List.mem_of_getElem? (i := 19) rfl)) O2 Via.refl d_jdk_42_method_149_27 ?_
    intro T8 W8
    show Fi p e below s Z _ _ _ _ T8 (mkF m 30 #[.val (.ref x), .val (.ref ca), .val (.int 0), .val (.int (Int32.ofNat cs.length)), .val .null, .unset] [(.int G)])
    refine W8.ifN_eq me d_jdk_42_method_149_30 P2 ?_
    refine W8.aloadN me d_jdk_42_method_149_33 rfl rfl ?_
    refine W8.iloadN me d_jdk_42_method_149_34 rfl ?_
    refine W8.iloadN me d_jdk_42_method_149_35 rfl ?_
    show Fi p e below s Z _ _ _ _ T8 (mkF m 36 #[.val (.ref x), .val (.ref ca), .val (.int 0), .val (.int (Int32.ofNat cs.length)), .val .null, .unset] [(.int (Int32.ofNat cs.length)), (.int 0), (.ref ca)])
    refine W8.callS me hEL (hw _ (List.mem_of_getElem? (i := 20) rfl)) (hw _ (List.mem_of_getElem? (i := 21) rfl)) (hw _ (List.mem_of_getElem? (i := 22) rfl)) (hw _ (List.mem_of_getElem? (i := 23) rfl)) (argsL := [(.ref ca), (.int 0), (.int (Int32.ofNat cs.length))]) (rest := []) (c_compress1 (ss := []) g W8.old Aca hC8 hl) d_jdk_42_method_149_36 (by decide) (fun _ q => nomatch q) rfl (lenOf pd_1 rfl) (own_le rfl) (own_le rfl) (own_le rfl) (own_le rfl) rfl ?_
    intro T9 h9 v9 W9 z9 q9
    obtain ⟨sf9, X9, _, rfl, E9, b9, k9, rfl, y9, A9⟩ := q9
    show Fi p e below s Z _ _ _ _ T9 (mkF m 39 #[.val (.ref x), .val (.ref ca), .val (.int 0), .val (.int (Int32.ofNat cs.length)), .val .null, .unset] [(.ref b9)])
    refine W9.astore me d_jdk_42_method_149_39 (l' := #[.val (.ref x), .val (.ref ca), .val (.int 0), .val (.int (Int32.ofNat cs.length)), .val .null, .val (.ref b9)]) rfl rfl ?_
    refine W9.aloadN me d_jdk_42_method_149_41 rfl rfl ?_
    refine W9.aload me d_jdk_42_method_149_42 rfl rfl ?_
    refine W9.iloadN me d_jdk_42_method_149_44 rfl ?_
    show Fi p e below s Z _ _ _ _ T9 (mkF m 45 #[.val (.ref x), .val (.ref ca), .val (.int 0), .val (.int (Int32.ofNat cs.length)), .val .null, .val (.ref b9)] [(.int (Int32.ofNat cs.length)), (.ref b9), (.ref x)])
    refine W9.callS me hEL (hw _ (List.mem_of_getElem? (i := 28) rfl)) (hw _ (List.mem_of_getElem? (i := 29) rfl)) (hw _ (List.mem_of_getElem? (i := 22) rfl)) (hw _ (List.mem_of_getElem? (i := 30) rfl)) (argsL := [(.ref b9), (.int (Int32.ofNat cs.length))]) (rest := [(.ref x)]) (c_coderlen (ss := []) g W9.old A9) d_jdk_42_method_149_45 (by decide) (fun _ q => nomatch q) rfl (lenOf pd_2 rfl) (own_le rfl) (own_le rfl) (own_le rfl) (own_le rfl) rfl ?_
    intro T10 h10 v10 W10 z10 q10
    obtain ⟨sf10, X10, _, rfl, rfl, rfl⟩ := q10
    show Fi p e below s Z _ _ _ _ T10 (mkF m 48 #[.val (.ref x), .val (.ref ca), .val (.int 0), .val (.int (Int32.ofNat cs.length)), .val .null, .val (.ref b9)] [(.int (0 : Int32)), (.ref x)])
    refine W10.putF me (hw _ (List.mem_of_getElem? (i := 31) rfl)) (FC.ext E9) Via.refl (EX.ext E9) (Or.inr ⟨(hw _ (List.mem_of_getElem? (i := 32) rfl)), rfl, rfl⟩) (hw _ (List.mem_of_getElem? (i := 7) rfl)) (ty := .byte) (by decide) rfl rfl (Or.inl hS) hz d_jdk_42_method_149_48 ?_
    intro T11 h11 W11 R11
    show Fi p e below s Z _ _ _ _ T11 (mkF m 51 #[.val (.ref x), .val (.ref ca), .val (.int 0), .val (.int (Int32.ofNat cs.length)), .val .null, .val (.ref b9)] [])
    refine W11.aloadN me d_jdk_42_method_149_51 rfl rfl ?_
    refine W11.aload me d_jdk_42_method_149_52 rfl rfl ?_
    show Fi p e below s Z _ _ _ _ T11 (mkF m 54 #[.val (.ref x), .val (.ref ca), .val (.int 0), .val (.int (Int32.ofNat cs.length)), .val .null, .val (.ref b9)] [(.ref b9), (.ref x)])
    refine W11.putF me (hw _ (List.mem_of_getElem? (i := 33) rfl)) ((FV.ext E9).other R11 (Or.inr hvc)) Via.refl ((EX.ext E9).wr R11) (Or.inr ⟨(hw _ (List.mem_of_getElem? (i := 34) rfl)), rfl, rfl⟩) (hw _ (List.mem_of_getElem? (i := 7) rfl)) (ty := (.array .byte)) (by decide) rfl rfl (Or.inl hS) hz d_jdk_42_method_149_54 ?_
    intro T12 h12 W12 R12
    show Fi p e below s Z _ _ _ _ T12 (mkF m 57 #[.val (.ref x), .val (.ref ca), .val (.int 0), .val (.int (Int32.ofNat cs.length)), .val .null, .val (.ref b9)] [])
    have hne5 : b9 ≠ x := own_en (by omega)
    have K8 : Keep h0 h12 [x] := ((own_xK E9 [x]).wr R11 (Or.inl (List.mem_singleton.mpr rfl))).wr R12 (Or.inl (List.mem_singleton.mpr rfl))
    exact W12.retU hEL me d_jdk_42_method_149_57 ⟨K8, b9, k9, ((EX.ext E9).wr R11).wr R12, ((FC.ext E9).same R11).other R12 (Or.inr hvc.symm), ((FV.ext E9).other R11 (Or.inr hvc)).same R12, (A9.other R11 hne5).other R12 hne5, by omega, hC8⟩ (by decide) (by decide)

set_option maxRecDepth 65536 in
set_option maxHeartbeats 4000000 in
theorem c_init3 {l : Launch} {Z : State} {a0 : Array Value} {kn : Bool} (g : Gl Z a0) {ws : List Cond} {h0 : Heap} {ss : List Addr} (hO : Old Z Z.heap.size h0) {x ca : Addr} {kca : ClassId} {cs : List Int32} {dv vv vc : Value} (EX : Exa Z h0 x "java/lang/String") (FV : Fld Z h0 x "java/lang/String" "value" "[B" vv) (FC : Fld Z h0 x "java/lang/String" "coder" "B" vc) (Aca : Arv Z h0 ca kca .char (Int32.ofNat cs.length) (cs.map Value.int) dv) (hS : x ∈ ss) (hz : Z.heap.size ≤ x) (hC8 : C8 cs) (hl : cs.length ≤ 8) :
    Con l Z consts_1 kn ws (⟨"java/lang/String", "<init>", "([C)V"⟩ : MethodName) jdk_42_method_3_code 2 none ({ frames := 3, cells := 4, slots := 8, locals := 52 } : Room) #[(.ref x), (.ref ca)] h0 ss (rU fun h => Keep h0 h [x] ∧ Lat Z h x cs) := by
  have hw := g.1
  have hEL := g.2.1
  refine Con.of (plainFor_of_name pn_1) hO ?_
  intro p e s m below meth c T0 me W0
  refine Fi.entry (L := #[.val (.ref x), .val (.ref ca)]) (by first | (simp [entryFrame, mkF, argsToLocals, Value.category, maxLocals]; done) | (simp [entryFrame, mkF, argsToLocals, Value.category]; done) | rfl) ?_
  refine W0.aloadN me d_jdk_42_method_3_0 rfl rfl ?_
  refine W0.aloadN me d_jdk_42_method_3_1 rfl rfl ?_
  refine W0.iconst me d_jdk_42_method_3_2 (v := 0) rfl ?_
  refine W0.aloadN me d_jdk_42_method_3_3 rfl rfl ?_
  show Fi p e below s Z _ _ _ _ T0 (mkF m 4 #[.val (.ref x), .val (.ref ca)] [(.ref ca), (.int (0 : Int32)), (.ref ca), (.ref x)])
  refine W0.alen me Aca d_jdk_42_method_3_4 ?_
  refine W0.aconstNull me d_jdk_42_method_3_5 ?_
  show Fi p e below s Z _ _ _ _ T0 (mkF m 6 #[.val (.ref x), .val (.ref ca)] [.null, (.int (Int32.ofNat cs.length)), (.int (0 : Int32)), (.ref ca), (.ref x)])
  refine W0.callI me hEL (hw _ (List.mem_of_getElem? (i := 12) rfl)) (hw _ (List.mem_of_getElem? (i := 13) rfl)) (hw _ (List.mem_of_getElem? (i := 8) rfl)) (hw _ (List.mem_of_getElem? (i := 15) rfl)) rfl (a := x) (argsL := [(.ref ca), (.int (0 : Int32)), (.int (Int32.ofNat cs.length)), .null]) (rest := []) (c_init149 g W0.old EX FV FC Aca hS hz hC8 hl) d_jdk_42_method_3_6 (by decide) (fun _ q => q) rfl (lenOf pd_3 rfl) (own_le rfl) (own_le rfl) (own_le rfl) (own_le rfl) rfl ?_
  intro T1 h1 v1 W1 z1 q1
  obtain ⟨sf1, X1, rfl, K1, L1⟩ := q1
  show Fi p e below s Z _ _ _ _ T1 (mkF m 9 #[.val (.ref x), .val (.ref ca)] [])
  exact W1.retU hEL me d_jdk_42_method_3_9 ⟨K1, L1⟩ (by decide) (by decide)

set_option maxRecDepth 65536 in
set_option maxHeartbeats 4000000 in
theorem c_coder {l : Launch} {Z : State} {a0 : Array Value} {kn : Bool} (g : Gl Z a0) {ws : List Cond} {h0 : Heap} {ss : List Addr} (hO : Old Z Z.heap.size h0) {a : Addr} {cd : Int32} (FC : Fld Z h0 a "java/lang/String" "coder" "B" (.int cd)) (hcd : nar .byte cd = cd) :
    Con l Z consts_1 kn ws (⟨"java/lang/String", "coder", "()B"⟩ : MethodName) jdk_42_method_152_code 1 (some .byte) ({ frames := 0, cells := 0, slots := 0, locals := 0 } : Room) #[(.ref a)] h0 ss (rV fun v h => h0 = h ∧ v = .int cd) := by
  have hw := g.1
  have hEL := g.2.1
  refine Con.of (plainFor_of_name pn_1) hO ?_
  intro p e s m below meth c T0 me W0
  refine Fi.entry (L := #[.val (.ref a)]) (by first | (simp [entryFrame, mkF, argsToLocals, Value.category, maxLocals]; done) | (simp [entryFrame, mkF, argsToLocals, Value.category]; done) | rfl) ?_
  obtain ⟨G, O2, P2⟩ := g.2.2.1
  refine W0.getS me (hw _ (List.mem_of_getElem? (i := 19) rfl)) O2 Via.refl d_jdk_42_method_152_0 ?_
  intro T1 W1
  show Fi p e below s Z _ _ _ _ T1 (mkF m 3 #[.val (.ref a)] [(.int G)])
  refine W1.ifN_eq me d_jdk_42_method_152_3 P2 ?_
  refine W1.aloadN me d_jdk_42_method_152_6 rfl rfl ?_
  show Fi p e below s Z _ _ _ _ T1 (mkF m 7 #[.val (.ref a)] [(.ref a)])
  refine W1.getF me (hw _ (List.mem_of_getElem? (i := 31) rfl)) FC Via.refl d_jdk_42_method_152_7 ?_
  intro T2 W2
  show Fi p e below s Z _ _ _ _ T2 (mkF m 10 #[.val (.ref a)] [(.int cd)])
  refine W2.goto me d_jdk_42_method_152_10 (pc' := 14) (by decide) (by decide) ?_
  show Fi p e below s Z _ _ _ _ T2 (mkF m 14 #[.val (.ref a)] [(.int cd)])
  exact W2.retN hEL me (Or.inr (Or.inl rfl)) d_jdk_42_method_152_14 ⟨rfl, by rw [hcd]⟩ (by decide) (by decide)

set_option maxRecDepth 65536 in
set_option maxHeartbeats 4000000 in
theorem c_length {l : Launch} {Z : State} {a0 : Array Value} {kn : Bool} (g : Gl Z a0) {ws : List Cond} {h0 : Heap} {ss : List Addr} (hO : Old Z Z.heap.size h0) {a : Addr} {cs : List Int32} (L : Lat Z h0 a cs) :
    Con l Z consts_1 kn ws (⟨"java/lang/String", "length", "()I"⟩ : MethodName) jdk_42_method_54_code 1 (some .int) ({ frames := 1, cells := 0, slots := 0, locals := 13 } : Room) #[(.ref a)] h0 ss (rV fun v h => h0 = h ∧ v = .int (Int32.ofNat cs.length)) := by
  have hw := g.1
  have hEL := g.2.1
  refine Con.of (plainFor_of_name pn_1) hO ?_
  intro p e s m below meth c T0 me W0
  refine Fi.entry (L := #[.val (.ref a)]) (by first | (simp [entryFrame, mkF, argsToLocals, Value.category, maxLocals]; done) | (simp [entryFrame, mkF, argsToLocals, Value.category]; done) | rfl) ?_
  obtain ⟨vb, kb, EX, FC, FV, AB, hl, hC8⟩ := L
  refine W0.aloadN me d_jdk_42_method_54_0 rfl rfl ?_
  show Fi p e below s Z _ _ _ _ T0 (mkF m 1 #[.val (.ref a)] [(.ref a)])
  refine W0.getF me (hw _ (List.mem_of_getElem? (i := 33) rfl)) FV Via.refl d_jdk_42_method_54_1 ?_
  intro T1 W1
  show Fi p e below s Z _ _ _ _ T1 (mkF m 4 #[.val (.ref a)] [(.ref vb)])
  refine W1.alen me AB d_jdk_42_method_54_4 ?_
  refine W1.aloadN me d_jdk_42_method_54_5 rfl rfl ?_
  show Fi p e below s Z _ _ _ _ T1 (mkF m 6 #[.val (.ref a)] [(.ref a), (.int (Int32.ofNat cs.length))])
  refine W1.callV me hEL (hw _ (List.mem_of_getElem? (i := 92) rfl)) (hw _ (List.mem_of_getElem? (i := 93) rfl)) (fun hZ' => notFace_of_selects (args := #[]) (mvT (s := s.setVm _) hZ' (hw _ (List.mem_of_getElem? (i := 95) rfl)))) (hw _ (List.mem_of_getElem? (i := 95) rfl)) (hw _ (List.mem_of_getElem? (i := 94) rfl)) (hw _ (List.mem_of_getElem? (i := 8) rfl)) (hw _ (List.mem_of_getElem? (i := 96) rfl)) (a := a) (argsL := []) (rest := [(.int (Int32.ofNat cs.length))]) EX (c_coder (ss := []) g W1.old FC rfl) d_jdk_42_method_54_6 (by decide) (fun _ q => nomatch q) rfl (lenOf pd_4 rfl) (own_le rfl) (own_le rfl) (own_le rfl) (own_le rfl) rfl ?_
  intro T2 h2 v2 W2 z2 q2
  obtain ⟨sf2, X2, _, rfl, rfl, rfl⟩ := q2
  show Fi p e below s Z _ _ _ _ T2 (mkF m 9 #[.val (.ref a)] [(.int (0 : Int32)), (.int (Int32.ofNat cs.length))])
  refine W2.ishr me d_jdk_42_method_54_9 ?_
  show Fi p e below s Z _ _ _ _ T2 (mkF m 10 #[.val (.ref a)] [(.int ((Int32.ofNat cs.length) >>> ((0 : Int32) &&& 31)))])
  have e1 : Int32.ofNat cs.length >>> ((0 : Int32) &&& 31) = Int32.ofNat cs.length := by simp
  rw [e1]
  exact W2.retI hEL me d_jdk_42_method_54_10 ⟨rfl, rfl⟩ (by decide) (by decide)

set_option maxRecDepth 65536 in
set_option maxHeartbeats 4000000 in
theorem c_islat {l : Launch} {Z : State} {a0 : Array Value} {kn : Bool} (g : Gl Z a0) {ws : List Cond} {h0 : Heap} {ss : List Addr} (hO : Old Z Z.heap.size h0) {a : Addr} (FC : Fld Z h0 a "java/lang/String" "coder" "B" (.int 0)) :
    Con l Z consts_1 kn ws (⟨"java/lang/String", "isLatin1", "()Z"⟩ : MethodName) jdk_42_method_154_code 1 (some .boolean) ({ frames := 0, cells := 0, slots := 0, locals := 0 } : Room) #[(.ref a)] h0 ss (rV fun v h => h0 = h ∧ v = .int 1) := by
  have hw := g.1
  have hEL := g.2.1
  refine Con.of (plainFor_of_name pn_1) hO ?_
  intro p e s m below meth c T0 me W0
  refine Fi.entry (L := #[.val (.ref a)]) (by first | (simp [entryFrame, mkF, argsToLocals, Value.category, maxLocals]; done) | (simp [entryFrame, mkF, argsToLocals, Value.category]; done) | rfl) ?_
  obtain ⟨G, O2, P2⟩ := g.2.2.1
  refine W0.getS me (hw _ (List.mem_of_getElem? (i := 19) rfl)) O2 Via.refl d_jdk_42_method_154_0 ?_
  intro T1 W1
  show Fi p e below s Z _ _ _ _ T1 (mkF m 3 #[.val (.ref a)] [(.int G)])
  refine W1.ifN_eq me d_jdk_42_method_154_3 P2 ?_
  refine W1.aloadN me d_jdk_42_method_154_6 rfl rfl ?_
  show Fi p e below s Z _ _ _ _ T1 (mkF m 7 #[.val (.ref a)] [(.ref a)])
  refine W1.getF me (hw _ (List.mem_of_getElem? (i := 31) rfl)) FC Via.refl d_jdk_42_method_154_7 ?_
  intro T2 W2
  show Fi p e below s Z _ _ _ _ T2 (mkF m 10 #[.val (.ref a)] [(.int (0 : Int32))])
  refine W2.ifN_ne me d_jdk_42_method_154_10 rfl ?_
  refine W2.iconst me d_jdk_42_method_154_13 (v := 1) rfl ?_
  refine W2.goto me d_jdk_42_method_154_14 (pc' := 18) (by decide) (by decide) ?_
  show Fi p e below s Z _ _ _ _ T2 (mkF m 18 #[.val (.ref a)] [(.int (1 : Int32))])
  exact W2.retN hEL me (Or.inl rfl) d_jdk_42_method_154_18 ⟨rfl, rfl⟩ (by decide) (by decide)

set_option maxRecDepth 65536 in
set_option maxHeartbeats 4000000 in
theorem c_pchk {l : Launch} {Z : State} {a0 : Array Value} {kn : Bool} (g : Gl Z a0) {ws : List Cond} {h0 : Heap} {ss : List Addr} (hO : Old Z Z.heap.size h0) {i n : Int32} {G : Value} (rG : G.isRef = true) (hi : ¬ i < 0 ∧ i < n) :
    Con l Z consts_1 kn ws (⟨"jdk/internal/util/Preconditions", "checkIndex", "(IILjava/util/function/BiFunction;)I"⟩ : MethodName) jdk_41_method_11_code 3 (some .int) ({ frames := 0, cells := 0, slots := 0, locals := 0 } : Room) #[(.int i), (.int n), G] h0 ss (rV fun v h => h0 = h ∧ v = .int i) := by
  have hw := g.1
  have hEL := g.2.1
  refine Con.of (plainFor_of_name pn_2) hO ?_
  intro p e s m below meth c T0 me W0
  have hcG : G.category = 1 := XT.cat1 rG
  refine Fi.entry (L := #[.val (.int i), .val (.int n), .val G]) (by rcases ref_cases rG with rfl | ⟨ga, rfl⟩ <;> simp [entryFrame, mkF, argsToLocals, Value.category]) ?_
  refine W0.iloadN me d_jdk_41_method_11_0 rfl ?_
  show Fi p e below s Z _ _ _ _ T0 (mkF m 1 #[.val (.int i), .val (.int n), .val G] [(.int i)])
  refine W0.ifN_lt me d_jdk_41_method_11_1 hi.1 ?_
  refine W0.iloadN me d_jdk_41_method_11_4 rfl ?_
  refine W0.iloadN me d_jdk_41_method_11_5 rfl ?_
  show Fi p e below s Z _ _ _ _ T0 (mkF m 6 #[.val (.int i), .val (.int n), .val G] [(.int n), (.int i)])
  refine W0.icY_lt me d_jdk_41_method_11_6 hi.2 (pc' := 16) (by decide) (by decide) ?_
  refine W0.iloadN me d_jdk_41_method_11_16 rfl ?_
  show Fi p e below s Z _ _ _ _ T0 (mkF m 17 #[.val (.int i), .val (.int n), .val G] [(.int i)])
  exact W0.retI hEL me d_jdk_41_method_11_17 ⟨rfl, rfl⟩ (by decide) (by decide)

set_option maxRecDepth 65536 in
set_option maxHeartbeats 4000000 in
theorem c_schk {l : Launch} {Z : State} {a0 : Array Value} {kn : Bool} (g : Gl Z a0) {ws : List Cond} {h0 : Heap} {ss : List Addr} (hO : Old Z Z.heap.size h0) {i n : Int32} (hi : ¬ i < 0 ∧ i < n) :
    Con l Z consts_1 kn ws (⟨"java/lang/String", "checkIndex", "(II)V"⟩ : MethodName) jdk_42_method_155_code 2 none ({ frames := 1, cells := 0, slots := 0, locals := 14 } : Room) #[(.int i), (.int n)] h0 ss (rU fun h => h0 = h) := by
  have hw := g.1
  have hEL := g.2.1
  refine Con.of (plainFor_of_name pn_1) hO ?_
  intro p e s m below meth c T0 me W0
  refine Fi.entry (L := #[.val (.int i), .val (.int n)]) (by first | (simp [entryFrame, mkF, argsToLocals, Value.category, maxLocals]; done) | (simp [entryFrame, mkF, argsToLocals, Value.category]; done) | rfl) ?_
  obtain ⟨G, O3, rG⟩ := g.2.2.2.1
  refine W0.iloadN me d_jdk_42_method_155_0 rfl ?_
  refine W0.iloadN me d_jdk_42_method_155_1 rfl ?_
  show Fi p e below s Z _ _ _ _ T0 (mkF m 2 #[.val (.int i), .val (.int n)] [(.int n), (.int i)])
  refine W0.getS me (hw _ (List.mem_of_getElem? (i := 188) rfl)) O3 Via.refl d_jdk_42_method_155_2 ?_
  intro T1 W1
  show Fi p e below s Z _ _ _ _ T1 (mkF m 5 #[.val (.int i), .val (.int n)] [G, (.int n), (.int i)])
  refine W1.callS me hEL (hw _ (List.mem_of_getElem? (i := 190) rfl)) (hw _ (List.mem_of_getElem? (i := 191) rfl)) (hw _ (List.mem_of_getElem? (i := 189) rfl)) (hw _ (List.mem_of_getElem? (i := 192) rfl)) (argsL := [(.int i), (.int n), G]) (rest := []) (c_pchk (ss := []) g W1.old rG hi) d_jdk_42_method_155_5 (by decide) (fun _ q => nomatch q) rfl (lenOf pd_5 rfl) (own_le rfl) (own_le rfl) (own_le rfl) (own_le rfl) rfl ?_
  intro T2 h2 v2 W2 z2 q2
  obtain ⟨sf2, X2, _, rfl, rfl, rfl⟩ := q2
  show Fi p e below s Z _ _ _ _ T2 (mkF m 8 #[.val (.int i), .val (.int n)] [(.int i)])
  refine W2.pop me d_jdk_42_method_155_8 rfl ?_
  show Fi p e below s Z _ _ _ _ T2 (mkF m 9 #[.val (.int i), .val (.int n)] [])
  exact W2.retU hEL me d_jdk_42_method_155_9 rfl (by decide) (by decide)

set_option maxRecDepth 65536 in
set_option maxHeartbeats 4000000 in
theorem c_latat {l : Launch} {Z : State} {a0 : Array Value} {kn : Bool} (g : Gl Z a0) {ws : List Cond} {h0 : Heap} {ss : List Addr} (hO : Old Z Z.heap.size h0) {b : Addr} {kb : ClassId} {cs : List Int32} {i : Nat} (AB : Arv Z h0 b kb .byte (Int32.ofNat cs.length) (lb cs) (.int 0)) (hl : cs.length < 2 ^ 20) (hC8 : C8 cs) (hi : i < cs.length) :
    Con l Z consts_1 kn ws (⟨"java/lang/StringLatin1", "charAt", "([BI)C"⟩ : MethodName) jdk_43_method_2_code 2 (some .char) ({ frames := 2, cells := 0, slots := 0, locals := 27 } : Room) #[(.ref b), (.int (Int32.ofNat i))] h0 ss (rV fun v h => h0 = h ∧ v = .int (cs.getD i 0)) := by
  have hw := g.1
  have hEL := g.2.1
  refine Con.of (plainFor_of_name pn_3) hO ?_
  intro p e s m below meth c T0 me W0
  refine Fi.entry (L := #[.val (.ref b), .val (.int (Int32.ofNat i))]) (by first | (simp [entryFrame, mkF, argsToLocals, Value.category, maxLocals]; done) | (simp [entryFrame, mkF, argsToLocals, Value.category]; done) | rfl) ?_
  refine W0.iloadN me d_jdk_43_method_2_0 rfl ?_
  refine W0.aloadN me d_jdk_43_method_2_1 rfl rfl ?_
  show Fi p e below s Z _ _ _ _ T0 (mkF m 2 #[.val (.ref b), .val (.int (Int32.ofNat i))] [(.ref b), (.int (Int32.ofNat i))])
  refine W0.alen me AB d_jdk_43_method_2_2 ?_
  refine W0.callS me hEL (hw _ (List.mem_of_getElem? (i := 185) rfl)) (hw _ (List.mem_of_getElem? (i := 186) rfl)) (hw _ (List.mem_of_getElem? (i := 8) rfl)) (hw _ (List.mem_of_getElem? (i := 187) rfl)) (argsL := [(.int (Int32.ofNat i)), (.int (Int32.ofNat cs.length))]) (rest := []) (c_schk (ss := []) g W0.old (on_in hi (by omega))) d_jdk_43_method_2_3 (by decide) (fun _ q => nomatch q) rfl (lenOf pd_6 rfl) (own_le rfl) (own_le rfl) (own_le rfl) (own_le rfl) rfl ?_
  intro T1 h1 v1 W1 z1 q1
  obtain ⟨sf1, X1, rfl, rfl⟩ := q1
  show Fi p e below s Z _ _ _ _ T1 (mkF m 6 #[.val (.ref b), .val (.int (Int32.ofNat i))] [])
  refine W1.aloadN me d_jdk_43_method_2_6 rfl rfl ?_
  refine W1.iloadN me d_jdk_43_method_2_7 rfl ?_
  show Fi p e below s Z _ _ _ _ T1 (mkF m 8 #[.val (.ref b), .val (.int (Int32.ofNat i))] [(.int (Int32.ofNat i)), (.ref b)])
  refine W1.baload me AB d_jdk_43_method_2_8 (on_in hi (by omega)) (v := .int (cs.getD i 0).toInt8.toInt32) (by rw [on_clamp (by omega), lb_get hi]) ?_
  show Fi p e below s Z _ _ _ _ T1 (mkF m 9 #[.val (.ref b), .val (.int (Int32.ofNat i))] [(.int (cs.getD i 0).toInt8.toInt32)])
  refine W1.sipush me d_jdk_43_method_2_9 (v := 255) rfl ?_
  refine W1.iand me d_jdk_43_method_2_12 ?_
  refine W1.i2c me d_jdk_43_method_2_13 ?_
  show Fi p e below s Z _ _ _ _ T1 (mkF m 14 #[.val (.ref b), .val (.int (Int32.ofNat i))] [(.int (((cs.getD i 0).toInt8.toInt32 &&& (255 : Int32)).toUInt32.toUInt16.toUInt32.toInt32))])
  have e1 := byte_back (hC8.at hi)
  have e2 : ((cs.getD i 0).toInt8.toInt32 &&& (255 : Int32)).toUInt32.toUInt16.toUInt32.toInt32 = cs.getD i 0 := by rw [i2c_mask, e1]
  rw [e2]
  exact W1.retN hEL me (Or.inr (Or.inr (Or.inl rfl))) d_jdk_43_method_2_14 ⟨rfl, by rw [nar_char_of (up16 (hC8.at hi))]⟩ (by decide) (by decide)

set_option maxRecDepth 65536 in
set_option maxHeartbeats 4000000 in
theorem c_charat {l : Launch} {Z : State} {a0 : Array Value} {kn : Bool} (g : Gl Z a0) {ws : List Cond} {h0 : Heap} {ss : List Addr} (hO : Old Z Z.heap.size h0) {a : Addr} {cs : List Int32} {i : Nat} (L : Lat Z h0 a cs) (hi : i < cs.length) :
    Con l Z consts_1 kn ws (⟨"java/lang/String", "charAt", "(I)C"⟩ : MethodName) jdk_42_method_56_code 2 (some .char) ({ frames := 3, cells := 0, slots := 0, locals := 40 } : Room) #[(.ref a), (.int (Int32.ofNat i))] h0 ss (rV fun v h => h0 = h ∧ v = .int (cs.getD i 0)) := by
  have hw := g.1
  have hEL := g.2.1
  refine Con.of (plainFor_of_name pn_1) hO ?_
  intro p e s m below meth c T0 me W0
  refine Fi.entry (L := #[.val (.ref a), .val (.int (Int32.ofNat i))]) (by first | (simp [entryFrame, mkF, argsToLocals, Value.category, maxLocals]; done) | (simp [entryFrame, mkF, argsToLocals, Value.category]; done) | rfl) ?_
  obtain ⟨vb, kb, EX, FC, FV, AB, hl, hC8⟩ := L
  refine W0.aloadN me d_jdk_42_method_56_0 rfl rfl ?_
  show Fi p e below s Z _ _ _ _ T0 (mkF m 1 #[.val (.ref a), .val (.int (Int32.ofNat i))] [(.ref a)])
  refine W0.callV me hEL (hw _ (List.mem_of_getElem? (i := 176) rfl)) (hw _ (List.mem_of_getElem? (i := 177) rfl)) (fun hZ' => notFace_of_selects (args := #[]) (mvT (s := s.setVm _) hZ' (hw _ (List.mem_of_getElem? (i := 179) rfl)))) (hw _ (List.mem_of_getElem? (i := 179) rfl)) (hw _ (List.mem_of_getElem? (i := 178) rfl)) (hw _ (List.mem_of_getElem? (i := 8) rfl)) (hw _ (List.mem_of_getElem? (i := 180) rfl)) (a := a) (argsL := []) (rest := []) EX (c_islat (ss := []) g W0.old FC) d_jdk_42_method_56_1 (by decide) (fun _ q => nomatch q) rfl (lenOf pd_7 rfl) (own_le rfl) (own_le rfl) (own_le rfl) (own_le rfl) rfl ?_
  intro T1 h1 v1 W1 z1 q1
  obtain ⟨sf1, X1, _, rfl, rfl, rfl⟩ := q1
  show Fi p e below s Z _ _ _ _ T1 (mkF m 4 #[.val (.ref a), .val (.int (Int32.ofNat i))] [(.int (1 : Int32))])
  refine W1.ifN_eq me d_jdk_42_method_56_4 (by decide) ?_
  refine W1.aloadN me d_jdk_42_method_56_7 rfl rfl ?_
  show Fi p e below s Z _ _ _ _ T1 (mkF m 8 #[.val (.ref a), .val (.int (Int32.ofNat i))] [(.ref a)])
  refine W1.getF me (hw _ (List.mem_of_getElem? (i := 33) rfl)) FV Via.refl d_jdk_42_method_56_8 ?_
  intro T2 W2
  show Fi p e below s Z _ _ _ _ T2 (mkF m 11 #[.val (.ref a), .val (.int (Int32.ofNat i))] [(.ref vb)])
  refine W2.iloadN me d_jdk_42_method_56_11 rfl ?_
  show Fi p e below s Z _ _ _ _ T2 (mkF m 12 #[.val (.ref a), .val (.int (Int32.ofNat i))] [(.int (Int32.ofNat i)), (.ref vb)])
  refine W2.callS me hEL (hw _ (List.mem_of_getElem? (i := 181) rfl)) (hw _ (List.mem_of_getElem? (i := 182) rfl)) (hw _ (List.mem_of_getElem? (i := 183) rfl)) (hw _ (List.mem_of_getElem? (i := 184) rfl)) (argsL := [(.ref vb), (.int (Int32.ofNat i))]) (rest := []) (c_latat (ss := []) g W2.old AB hl hC8 hi) d_jdk_42_method_56_12 (by decide) (fun _ q => nomatch q) rfl (lenOf pd_8 rfl) (own_le rfl) (own_le rfl) (own_le rfl) (own_le rfl) rfl ?_
  intro T3 h3 v3 W3 z3 q3
  obtain ⟨sf3, X3, _, rfl, rfl, rfl⟩ := q3
  show Fi p e below s Z _ _ _ _ T3 (mkF m 15 #[.val (.ref a), .val (.int (Int32.ofNat i))] [(.int (cs.getD i 0))])
  exact W3.retN hEL me (Or.inr (Or.inr (Or.inl rfl))) d_jdk_42_method_56_15 ⟨rfl, by rw [nar_char_of (up16 (hC8.at hi))]⟩ (by decide) (by decide)

set_option maxRecDepth 65536 in
set_option maxHeartbeats 4000000 in
theorem c_min {l : Launch} {Z : State} {a0 : Array Value} {kn : Bool} (g : Gl Z a0) {ws : List Cond} {h0 : Heap} {ss : List Addr} (hO : Old Z Z.heap.size h0) {x y : Int32} (hx : ¬ x < y) :
    Con l Z consts_1 kn ws (⟨"java/lang/Math", "min", "(II)I"⟩ : MethodName) jdk_29_method_69_code 2 (some .int) ({ frames := 0, cells := 0, slots := 0, locals := 0 } : Room) #[(.int x), (.int y)] h0 ss (rV fun v h => h0 = h ∧ v = .int y) := by
  have hw := g.1
  have hEL := g.2.1
  refine Con.of pf_0 hO ?_
  intro p e s m below meth c T0 me W0
  refine Fi.entry (L := #[.val (.int x), .val (.int y)]) (by first | (simp [entryFrame, mkF, argsToLocals, Value.category, maxLocals]; done) | (simp [entryFrame, mkF, argsToLocals, Value.category]; done) | rfl) ?_
  refine W0.iloadN me d_jdk_29_method_69_0 rfl ?_
  refine W0.iloadN me d_jdk_29_method_69_1 rfl ?_
  show Fi p e below s Z _ _ _ _ T0 (mkF m 2 #[.val (.int x), .val (.int y)] [(.int y), (.int x)])
  refine W0.ic_gt me d_jdk_29_method_69_2 (pc' := 9) (by decide) (by decide) (fun hb1 => ?_) (fun hb1 => ?_)
  ·
    show Fi p e below s Z _ _ _ _ T0 (mkF m 9 #[.val (.int x), .val (.int y)] [])
    refine W0.iloadN me d_jdk_29_method_69_9 rfl ?_
    show Fi p e below s Z _ _ _ _ T0 (mkF m 10 #[.val (.int x), .val (.int y)] [(.int y)])
    exact W0.retI hEL me d_jdk_29_method_69_10 ⟨rfl, rfl⟩ (by decide) (by decide)
  ·
    show Fi p e below s Z _ _ _ _ T0 (mkF m 5 #[.val (.int x), .val (.int y)] [])
    refine W0.iloadN me d_jdk_29_method_69_5 rfl ?_
    refine W0.goto me d_jdk_29_method_69_6 (pc' := 10) (by decide) (by decide) ?_
    show Fi p e below s Z _ _ _ _ T0 (mkF m 10 #[.val (.int x), .val (.int y)] [(.int x)])
    have exy : x = y := Int32.le_antisymm (Int32.not_lt.mp hb1) (Int32.not_lt.mp hx)
    exact W0.retI hEL me d_jdk_29_method_69_10 ⟨rfl, by rw [exy]⟩ (by decide) (by decide)

theorem own_or3 {o n : Nat} (ho : o < 17) (hn : n < 17) : ¬ (Int32.ofNat 16 ||| Int32.ofNat o ||| Int32.ofNat n) < 0 := (by decide : ∀ o, o < 17 → ∀ n, n < 17 → ¬ (Int32.ofNat 16 ||| Int32.ofNat o ||| Int32.ofNat n) < 0) o ho n hn
theorem own_maxl {n : Nat} (hn : n < 41) : Int32.ofNat n < (1073741823 : Int32) := (by decide : ∀ n, n < 41 → Int32.ofNat n < (1073741823 : Int32)) n hn

set_option maxRecDepth 65536 in
set_option maxHeartbeats 4000000 in
theorem c_ulen {l : Launch} {Z : State} {a0 : Array Value} {kn : Bool} (g : Gl Z a0) {ws : List Cond} {h0 : Heap} {ss : List Addr} (hO : Old Z Z.heap.size h0) {b : Addr} {kb : ClassId} {n : Nat} {vs : List Value} {dv : Value} (AB : Arv Z h0 b kb .byte (Int32.ofNat (n + n)) vs dv) (hn : n < 41) :
    Con l Z consts_1 kn ws (⟨"java/lang/StringUTF16", "length", "([B)I"⟩ : MethodName) jdk_52_method_6_code 1 (some .int) ({ frames := 0, cells := 0, slots := 0, locals := 0 } : Room) #[(.ref b)] h0 ss (rV fun v h => h0 = h ∧ v = .int (Int32.ofNat n)) := by
  have hw := g.1
  have hEL := g.2.1
  refine Con.of (plainFor_of_name pn_0) hO ?_
  intro p e s m below meth c T0 me W0
  refine Fi.entry (L := #[.val (.ref b)]) (by first | (simp [entryFrame, mkF, argsToLocals, Value.category, maxLocals]; done) | (simp [entryFrame, mkF, argsToLocals, Value.category]; done) | rfl) ?_
  refine W0.aloadN me d_jdk_52_method_6_0 rfl rfl ?_
  show Fi p e below s Z _ _ _ _ T0 (mkF m 1 #[.val (.ref b)] [(.ref b)])
  refine W0.alen me AB d_jdk_52_method_6_1 ?_
  show Fi p e below s Z _ _ _ _ T0 (mkF m 2 #[.val (.ref b)] [(.int (Int32.ofNat (n + n)))])
  refine W0.iconst me d_jdk_52_method_6_2 (v := 1) rfl ?_
  refine W0.ishr me d_jdk_52_method_6_3 ?_
  show Fi p e below s Z _ _ _ _ T0 (mkF m 4 #[.val (.ref b)] [(.int ((Int32.ofNat (n + n)) >>> ((1 : Int32) &&& 31)))])
  rw [own_shr1 hn]
  show Fi p e below s Z _ _ _ _ T0 (mkF m 4 #[.val (.ref b)] [(.int (Int32.ofNat n))])
  exact W0.retI hEL me d_jdk_52_method_6_4 ⟨rfl, rfl⟩ (by decide) (by decide)

set_option maxRecDepth 65536 in
set_option maxHeartbeats 4000000 in
theorem c_putchar {l : Launch} {Z : State} {a0 : Array Value} {kn : Bool} (g : Gl Z a0) {ws : List Cond} {h0 : Heap} {ss : List Addr} (hO : Old Z Z.heap.size h0) {b : Addr} {kb : ClassId} {cs : List Int32} {i N : Nat} {x : Int32} (AB : Arv Z h0 b kb .byte (Int32.ofNat N) (u16b cs) (.int 0)) (hi : cs.length = i) (hi41 : i < 41) (hN : i + i + 2 ≤ N) (hN2 : N < 2 ^ 20) (hS : b ∈ ss) (hz : Z.heap.size ≤ b) :
    Con l Z consts_1 kn ws (⟨"java/lang/StringUTF16", "putChar", "([BII)V"⟩ : MethodName) jdk_52_method_4_code 3 none ({ frames := 0, cells := 0, slots := 0, locals := 0 } : Room) #[(.ref b), (.int (Int32.ofNat i)), (.int x)] h0 ss (rU fun h => Keep h0 h [b] ∧ Arv Z h b kb .byte (Int32.ofNat N) (u16b (cs ++ [x])) (.int 0)) := by
  have hw := g.1
  have hEL := g.2.1
  refine Con.of (plainFor_of_name pn_0) hO ?_
  intro p e s m below meth c T0 me W0
  refine Fi.entry (L := #[.val (.ref b), .val (.int (Int32.ofNat i)), .val (.int x)]) (by first | (simp [entryFrame, mkF, argsToLocals, Value.category, maxLocals]; done) | (simp [entryFrame, mkF, argsToLocals, Value.category]; done) | rfl) ?_
  refine W0.getS me (hw _ (List.mem_of_getElem? (i := 206) rfl)) g.2.2.2.2.1 Via.refl d_jdk_52_method_4_0 ?_
  intro T1 W1
  show Fi p e below s Z _ _ _ _ T1 (mkF m 3 #[.val (.ref b), .val (.int (Int32.ofNat i)), .val (.int x)] [(.int (1 : Int32))])
  show Fi p e below s Z _ _ _ _ T1 (mkF m 3 #[.val (.ref b), .val (.int (Int32.ofNat i)), .val (.int x)] [(.int (1 : Int32))])
  refine W1.ifY_ne me d_jdk_52_method_4_3 (by decide) (pc' := 28) (by decide) (by decide) ?_
  show Fi p e below s Z _ _ _ _ T1 (mkF m 28 #[.val (.ref b), .val (.int (Int32.ofNat i)), .val (.int x)] [])
  refine W1.iloadN me d_jdk_52_method_4_28 rfl ?_
  refine W1.iconst me d_jdk_52_method_4_29 (v := 1) rfl ?_
  refine W1.ishl me d_jdk_52_method_4_30 ?_
  show Fi p e below s Z _ _ _ _ T1 (mkF m 31 #[.val (.ref b), .val (.int (Int32.ofNat i)), .val (.int x)] [(.int ((Int32.ofNat i) <<< ((1 : Int32) &&& 31)))])
  rw [own_shl1 hi41]
  show Fi p e below s Z _ _ _ _ T1 (mkF m 31 #[.val (.ref b), .val (.int (Int32.ofNat i)), .val (.int x)] [(.int (Int32.ofNat (i + i)))])
  refine W1.istoreN me d_jdk_52_method_4_31 (l' := #[.val (.ref b), .val (.int (Int32.ofNat (i + i))), .val (.int x)]) rfl ?_
  refine W1.aloadN me d_jdk_52_method_4_32 rfl rfl ?_
  refine W1.iloadN me d_jdk_52_method_4_33 rfl ?_
  show Fi p e below s Z _ _ _ _ T1 (mkF m 34 #[.val (.ref b), .val (.int (Int32.ofNat (i + i))), .val (.int x)] [(.int (Int32.ofNat (i + i))), (.ref b)])
  refine W1.iinc me d_jdk_52_method_4_34 (v := 1) rfl rfl (l' := #[.val (.ref b), .val (.int ((Int32.ofNat (i + i)) + (1 : Int32))), .val (.int x)]) rfl ?_
  rw [on_succ]
  show Fi p e below s Z _ _ _ _ T1 (mkF m 37 #[.val (.ref b), .val (.int (Int32.ofNat (i + i + 1))), .val (.int x)] [(.int (Int32.ofNat (i + i))), (.ref b)])
  refine W1.iloadN me d_jdk_52_method_4_37 rfl ?_
  show Fi p e below s Z _ _ _ _ T1 (mkF m 38 #[.val (.ref b), .val (.int (Int32.ofNat (i + i + 1))), .val (.int x)] [(.int x), (.int (Int32.ofNat (i + i))), (.ref b)])
  refine W1.getS me (hw _ (List.mem_of_getElem? (i := 207) rfl)) g.2.2.2.2.2.1 Via.refl d_jdk_52_method_4_38 ?_
  intro T2 W2
  show Fi p e below s Z _ _ _ _ T2 (mkF m 41 #[.val (.ref b), .val (.int (Int32.ofNat (i + i + 1))), .val (.int x)] [(.int (0 : Int32)), (.int x), (.int (Int32.ofNat (i + i))), (.ref b)])
  refine W2.ishr me d_jdk_52_method_4_41 ?_
  refine W2.i2b me d_jdk_52_method_4_42 ?_
  show Fi p e below s Z _ _ _ _ T2 (mkF m 43 #[.val (.ref b), .val (.int (Int32.ofNat (i + i + 1))), .val (.int x)] [(.int ((x >>> ((0 : Int32) &&& 31)).toInt8.toInt32)), (.int (Int32.ofNat (i + i))), (.ref b)])
  refine W2.bastoreP me AB (nar_byte_idem _) d_jdk_52_method_4_43 (i := i + i) (by rw [ub_len, hi]) (on_clamp (by omega)) (on_in (by omega) (by omega)) hS hz ?_
  intro T3 h3 W3 R3 A3
  show Fi p e below s Z _ _ _ _ T3 (mkF m 44 #[.val (.ref b), .val (.int (Int32.ofNat (i + i + 1))), .val (.int x)] [])
  refine W3.aloadN me d_jdk_52_method_4_44 rfl rfl ?_
  refine W3.iloadN me d_jdk_52_method_4_45 rfl ?_
  refine W3.iloadN me d_jdk_52_method_4_46 rfl ?_
  show Fi p e below s Z _ _ _ _ T3 (mkF m 47 #[.val (.ref b), .val (.int (Int32.ofNat (i + i + 1))), .val (.int x)] [(.int x), (.int (Int32.ofNat (i + i + 1))), (.ref b)])
  refine W3.getS me (hw _ (List.mem_of_getElem? (i := 208) rfl)) g.2.2.2.2.2.2 Via.refl d_jdk_52_method_4_47 ?_
  intro T4 W4
  show Fi p e below s Z _ _ _ _ T4 (mkF m 50 #[.val (.ref b), .val (.int (Int32.ofNat (i + i + 1))), .val (.int x)] [(.int (8 : Int32)), (.int x), (.int (Int32.ofNat (i + i + 1))), (.ref b)])
  refine W4.ishr me d_jdk_52_method_4_50 ?_
  refine W4.i2b me d_jdk_52_method_4_51 ?_
  show Fi p e below s Z _ _ _ _ T4 (mkF m 52 #[.val (.ref b), .val (.int (Int32.ofNat (i + i + 1))), .val (.int x)] [(.int ((x >>> ((8 : Int32) &&& 31)).toInt8.toInt32)), (.int (Int32.ofNat (i + i + 1))), (.ref b)])
  refine W4.bastoreP me A3 (nar_byte_idem _) d_jdk_52_method_4_52 (i := i + i + 1) (by rw [List.length_append, ub_len, hi]; rfl) (on_clamp (by omega)) (on_in (by omega) (by omega)) hS hz ?_
  intro T5 h5 W5 R5 A5
  show Fi p e below s Z _ _ _ _ T5 (mkF m 53 #[.val (.ref b), .val (.int (Int32.ofNat (i + i + 1))), .val (.int x)] [])
  exact W5.retU hEL me d_jdk_52_method_4_53 ⟨(Keep.of_wr R3).wr R5 (Or.inl (List.mem_cons_self ..)), by rw [ub_snoc] at A5; exact A5⟩ (by decide) (by decide)

set_option maxRecDepth 65536 in
set_option maxHeartbeats 4000000 in
theorem c_getchar {l : Launch} {Z : State} {a0 : Array Value} {kn : Bool} (g : Gl Z a0) {ws : List Cond} {h0 : Heap} {ss : List Addr} (hO : Old Z Z.heap.size h0) {b : Addr} {kb : ClassId} {cs : List Int32} {i N : Nat} (AB : Arv Z h0 b kb .byte (Int32.ofNat N) (u16b cs) (.int 0)) (hi : i < cs.length) (hl : cs.length < 41) (hN : cs.length + cs.length ≤ N) (hN2 : N < 2 ^ 20) (hC : C16 cs) :
    Con l Z consts_1 kn ws (⟨"java/lang/StringUTF16", "getChar", "([BI)C"⟩ : MethodName) jdk_52_method_5_code 2 (some .char) ({ frames := 0, cells := 0, slots := 0, locals := 0 } : Room) #[(.ref b), (.int (Int32.ofNat i))] h0 ss (rV fun v h => h0 = h ∧ v = .int (cs.getD i 0)) := by
  have hw := g.1
  have hEL := g.2.1
  refine Con.of (plainFor_of_name pn_0) hO ?_
  intro p e s m below meth c T0 me W0
  refine Fi.entry (L := #[.val (.ref b), .val (.int (Int32.ofNat i))]) (by first | (simp [entryFrame, mkF, argsToLocals, Value.category, maxLocals]; done) | (simp [entryFrame, mkF, argsToLocals, Value.category]; done) | rfl) ?_
  obtain ⟨x, hx⟩ : ∃ x, x = cs.getD i 0 := ⟨_, rfl⟩
  have hu := ub_get hi
  rw [← hx] at hu ⊢
  refine W0.getS me (hw _ (List.mem_of_getElem? (i := 206) rfl)) g.2.2.2.2.1 Via.refl d_jdk_52_method_5_0 ?_
  intro T1 W1
  show Fi p e below s Z _ _ _ _ T1 (mkF m 3 #[.val (.ref b), .val (.int (Int32.ofNat i))] [(.int (1 : Int32))])
  show Fi p e below s Z _ _ _ _ T1 (mkF m 3 #[.val (.ref b), .val (.int (Int32.ofNat i))] [(.int (1 : Int32))])
  refine W1.ifY_ne me d_jdk_52_method_5_3 (by decide) (pc' := 28) (by decide) (by decide) ?_
  show Fi p e below s Z _ _ _ _ T1 (mkF m 28 #[.val (.ref b), .val (.int (Int32.ofNat i))] [])
  refine W1.iloadN me d_jdk_52_method_5_28 rfl ?_
  refine W1.iconst me d_jdk_52_method_5_29 (v := 1) rfl ?_
  refine W1.ishl me d_jdk_52_method_5_30 ?_
  show Fi p e below s Z _ _ _ _ T1 (mkF m 31 #[.val (.ref b), .val (.int (Int32.ofNat i))] [(.int ((Int32.ofNat i) <<< ((1 : Int32) &&& 31)))])
  rw [own_shl1 (by omega)]
  show Fi p e below s Z _ _ _ _ T1 (mkF m 31 #[.val (.ref b), .val (.int (Int32.ofNat i))] [(.int (Int32.ofNat (i + i)))])
  refine W1.istoreN me d_jdk_52_method_5_31 (l' := #[.val (.ref b), .val (.int (Int32.ofNat (i + i)))]) rfl ?_
  refine W1.aloadN me d_jdk_52_method_5_32 rfl rfl ?_
  refine W1.iloadN me d_jdk_52_method_5_33 rfl ?_
  show Fi p e below s Z _ _ _ _ T1 (mkF m 34 #[.val (.ref b), .val (.int (Int32.ofNat (i + i)))] [(.int (Int32.ofNat (i + i))), (.ref b)])
  refine W1.iinc me d_jdk_52_method_5_34 (v := 1) rfl rfl (l' := #[.val (.ref b), .val (.int ((Int32.ofNat (i + i)) + (1 : Int32)))]) rfl ?_
  rw [on_succ]
  show Fi p e below s Z _ _ _ _ T1 (mkF m 37 #[.val (.ref b), .val (.int (Int32.ofNat (i + i + 1)))] [(.int (Int32.ofNat (i + i))), (.ref b)])
  refine W1.baload me AB d_jdk_52_method_5_37 (on_in (by omega) (by omega)) (v := .int (x >>> ((0 : Int32) &&& 31)).toInt8.toInt32) (by rw [on_clamp (by omega)]; exact hu.1) ?_
  show Fi p e below s Z _ _ _ _ T1 (mkF m 38 #[.val (.ref b), .val (.int (Int32.ofNat (i + i + 1)))] [(.int (x >>> ((0 : Int32) &&& 31)).toInt8.toInt32)])
  refine W1.sipush me d_jdk_52_method_5_38 (v := 255) rfl ?_
  refine W1.iand me d_jdk_52_method_5_41 ?_
  show Fi p e below s Z _ _ _ _ T1 (mkF m 42 #[.val (.ref b), .val (.int (Int32.ofNat (i + i + 1)))] [(.int ((x >>> ((0 : Int32) &&& 31)).toInt8.toInt32 &&& (255 : Int32)))])
  refine W1.getS me (hw _ (List.mem_of_getElem? (i := 207) rfl)) g.2.2.2.2.2.1 Via.refl d_jdk_52_method_5_42 ?_
  intro T2 W2
  show Fi p e below s Z _ _ _ _ T2 (mkF m 45 #[.val (.ref b), .val (.int (Int32.ofNat (i + i + 1)))] [(.int (0 : Int32)), (.int ((x >>> ((0 : Int32) &&& 31)).toInt8.toInt32 &&& (255 : Int32)))])
  refine W2.ishl me d_jdk_52_method_5_45 ?_
  refine W2.aloadN me d_jdk_52_method_5_46 rfl rfl ?_
  refine W2.iloadN me d_jdk_52_method_5_47 rfl ?_
  show Fi p e below s Z _ _ _ _ T2 (mkF m 48 #[.val (.ref b), .val (.int (Int32.ofNat (i + i + 1)))] [(.int (Int32.ofNat (i + i + 1))), (.ref b), (.int (((x >>> ((0 : Int32) &&& 31)).toInt8.toInt32 &&& (255 : Int32)) <<< ((0 : Int32) &&& 31)))])
  refine W2.baload me AB d_jdk_52_method_5_48 (on_in (by omega) (by omega)) (v := .int (x >>> ((8 : Int32) &&& 31)).toInt8.toInt32) (by rw [on_clamp (by omega)]; exact hu.2) ?_
  show Fi p e below s Z _ _ _ _ T2 (mkF m 49 #[.val (.ref b), .val (.int (Int32.ofNat (i + i + 1)))] [(.int (x >>> ((8 : Int32) &&& 31)).toInt8.toInt32), (.int (((x >>> ((0 : Int32) &&& 31)).toInt8.toInt32 &&& (255 : Int32)) <<< ((0 : Int32) &&& 31)))])
  refine W2.sipush me d_jdk_52_method_5_49 (v := 255) rfl ?_
  refine W2.iand me d_jdk_52_method_5_52 ?_
  show Fi p e below s Z _ _ _ _ T2 (mkF m 53 #[.val (.ref b), .val (.int (Int32.ofNat (i + i + 1)))] [(.int ((x >>> ((8 : Int32) &&& 31)).toInt8.toInt32 &&& (255 : Int32))), (.int (((x >>> ((0 : Int32) &&& 31)).toInt8.toInt32 &&& (255 : Int32)) <<< ((0 : Int32) &&& 31)))])
  refine W2.getS me (hw _ (List.mem_of_getElem? (i := 208) rfl)) g.2.2.2.2.2.2 Via.refl d_jdk_52_method_5_53 ?_
  intro T3 W3
  show Fi p e below s Z _ _ _ _ T3 (mkF m 56 #[.val (.ref b), .val (.int (Int32.ofNat (i + i + 1)))] [(.int (8 : Int32)), (.int ((x >>> ((8 : Int32) &&& 31)).toInt8.toInt32 &&& (255 : Int32))), (.int (((x >>> ((0 : Int32) &&& 31)).toInt8.toInt32 &&& (255 : Int32)) <<< ((0 : Int32) &&& 31)))])
  refine W3.ishl me d_jdk_52_method_5_56 ?_
  refine W3.ior me d_jdk_52_method_5_57 ?_
  refine W3.i2c me d_jdk_52_method_5_58 ?_
  show Fi p e below s Z _ _ _ _ T3 (mkF m 59 #[.val (.ref b), .val (.int (Int32.ofNat (i + i + 1)))] [(.int (((((x >>> ((0 : Int32) &&& 31)).toInt8.toInt32 &&& (255 : Int32)) <<< ((0 : Int32) &&& 31)) ||| (((x >>> ((8 : Int32) &&& 31)).toInt8.toInt32 &&& (255 : Int32)) <<< ((8 : Int32) &&& 31))).toUInt32.toUInt16.toUInt32.toInt32))])
  have hx16 : ¬ x < 0 ∧ ¬ (65535 : Int32) < x := hx ▸ hC.at hi
  rw [c16_back hx16]
  show Fi p e below s Z _ _ _ _ T3 (mkF m 59 #[.val (.ref b), .val (.int (Int32.ofNat (i + i + 1)))] [(.int x)])
  exact W3.retN hEL me (Or.inr (Or.inr (Or.inl rfl))) d_jdk_52_method_5_59 ⟨rfl, by rw [nar_char_of hx16]⟩ (by decide) (by decide)

set_option maxRecDepth 65536 in
set_option maxHeartbeats 4000000 in
theorem c_nbl {l : Launch} {Z : State} {a0 : Array Value} {kn : Bool} (g : Gl Z a0) {ws : List Cond} {h0 : Heap} {ss : List Addr} (hO : Old Z Z.heap.size h0) {n : Nat} (hn : n < 17) :
    Con l Z consts_1 kn ws (⟨"java/lang/StringUTF16", "newBytesLength", "(I)I"⟩ : MethodName) jdk_52_method_3_code 1 (some .int) ({ frames := 0, cells := 0, slots := 0, locals := 0 } : Room) #[(.int (Int32.ofNat n))] h0 ss (rV fun v h => h0 = h ∧ v = .int (Int32.ofNat (n + n))) := by
  have hw := g.1
  have hEL := g.2.1
  refine Con.of (plainFor_of_name pn_0) hO ?_
  intro p e s m below meth c T0 me W0
  refine Fi.entry (L := #[.val (.int (Int32.ofNat n))]) (by first | (simp [entryFrame, mkF, argsToLocals, Value.category, maxLocals]; done) | (simp [entryFrame, mkF, argsToLocals, Value.category]; done) | rfl) ?_
  refine W0.iloadN me d_jdk_52_method_3_0 rfl ?_
  show Fi p e below s Z _ _ _ _ T0 (mkF m 1 #[.val (.int (Int32.ofNat n))] [(.int (Int32.ofNat n))])
  refine W0.ifY_ge me d_jdk_52_method_3_1 (on_nneg (by omega)) (pc' := 12) (by decide) (by decide) ?_
  show Fi p e below s Z _ _ _ _ T0 (mkF m 12 #[.val (.int (Int32.ofNat n))] [])
  refine W0.iloadN me d_jdk_52_method_3_12 rfl ?_
  refine W0.ldcI me (hw _ (List.mem_of_getElem? (i := 202) rfl)) d_jdk_52_method_3_13 ?_
  show Fi p e below s Z _ _ _ _ T0 (mkF m 15 #[.val (.int (Int32.ofNat n))] [(.int (1073741823 : Int32)), (.int (Int32.ofNat n))])
  refine W0.icY_lt me d_jdk_52_method_3_15 (own_maxl (by omega)) (pc' := 55) (by decide) (by decide) ?_
  show Fi p e below s Z _ _ _ _ T0 (mkF m 55 #[.val (.int (Int32.ofNat n))] [])
  refine W0.iloadN me d_jdk_52_method_3_55 rfl ?_
  refine W0.iconst me d_jdk_52_method_3_56 (v := 1) rfl ?_
  refine W0.ishl me d_jdk_52_method_3_57 ?_
  show Fi p e below s Z _ _ _ _ T0 (mkF m 58 #[.val (.int (Int32.ofNat n))] [(.int ((Int32.ofNat n) <<< ((1 : Int32) &&& 31)))])
  rw [own_shl1 (by omega)]
  show Fi p e below s Z _ _ _ _ T0 (mkF m 58 #[.val (.int (Int32.ofNat n))] [(.int (Int32.ofNat (n + n)))])
  exact W0.retI hEL me d_jdk_52_method_3_58 ⟨rfl, rfl⟩ (by decide) (by decide)

set_option maxRecDepth 65536 in
set_option maxHeartbeats 4000000 in
theorem c_newbytes {l : Launch} {Z : State} {a0 : Array Value} {kn : Bool} (g : Gl Z a0) {ws : List Cond} {h0 : Heap} {ss : List Addr} (hO : Old Z Z.heap.size h0) {n : Nat} (hn : n < 17) :
    Con l Z consts_1 kn ws (⟨"java/lang/StringUTF16", "newBytesFor", "(I)[B"⟩ : MethodName) jdk_52_method_2_code 1 (some (.array .byte)) ({ frames := 1, cells := 1, slots := 32, locals := 12 } : Room) #[(.int (Int32.ofNat n))] h0 ss (rVs fun v h sf => Ext h0 h ∧ ∃ d kd, v = .ref d ∧ h0.size ≤ d ∧ sf d ∧ Arv Z h d kd .byte (Int32.ofNat (n + n)) [] (.int 0) ∧ Exa Z h d "[B") := by
  have hw := g.1
  have hEL := g.2.1
  refine Con.of (plainFor_of_name pn_0) hO ?_
  intro p e s m below meth c T0 me W0
  refine Fi.entry (L := #[.val (.int (Int32.ofNat n))]) (by first | (simp [entryFrame, mkF, argsToLocals, Value.category, maxLocals]; done) | (simp [entryFrame, mkF, argsToLocals, Value.category]; done) | rfl) ?_
  refine W0.iloadN me d_jdk_52_method_2_0 rfl ?_
  show Fi p e below s Z _ _ _ _ T0 (mkF m 1 #[.val (.int (Int32.ofNat n))] [(.int (Int32.ofNat n))])
  refine W0.callS me hEL (hw _ (List.mem_of_getElem? (i := 199) rfl)) (hw _ (List.mem_of_getElem? (i := 200) rfl)) (hw _ (List.mem_of_getElem? (i := 22) rfl)) (hw _ (List.mem_of_getElem? (i := 201) rfl)) (argsL := [(.int (Int32.ofNat n))]) (rest := []) (c_nbl (ss := []) g W0.old hn) d_jdk_52_method_2_1 (by decide) (fun _ q => nomatch q) rfl (lenOf pd_9 rfl) (own_le rfl) (own_le rfl) (own_le rfl) (own_le rfl) rfl ?_
  intro T1 h1 v1 W1 z1 q1
  obtain ⟨sf1, X1, _, rfl, rfl, rfl⟩ := q1
  show Fi p e below s Z _ _ _ _ T1 (mkF m 4 #[.val (.int (Int32.ofNat n))] [(.int (Int32.ofNat (n + n)))])
  refine W1.newAE me (hw _ (List.mem_of_getElem? (i := 24) rfl)) d_jdk_52_method_2_4 (on_nneg (by omega)) (cap := 32) (by rw [on_clamp (by omega)]; omega) (by decide) (own_le rfl) (own_le rfl) (ad := "[B") (by decide) ?_
  intro T2 h2 a2 k2 g2 W2 E2 A2 EB2
  show Fi p e below s Z _ _ _ _ T2 (mkF m 6 #[.val (.int (Int32.ofNat n))] [(.ref a2)])
  exact W2.retAs hEL me d_jdk_52_method_2_6 (fun sf q => ⟨E2, a2, k2, rfl, by omega, q _ (List.mem_cons_self ..), A2, EB2⟩) (by decide) (by decide) rfl rfl rfl

set_option maxRecDepth 65536 in
set_option maxHeartbeats 4000000 in
theorem c_tobytes16 {l : Launch} {Z : State} {a0 : Array Value} {kn : Bool} (g : Gl Z a0) {ws : List Cond} {h0 : Heap} {ss : List Addr} (hO : Old Z Z.heap.size h0) {ca : Addr} {kca : ClassId} {cs : List Int32} {dv : Value} (Aca : Arv Z h0 ca kca .char (Int32.ofNat cs.length) (cs.map Value.int) dv) (hl : cs.length < 17) :
    Con l Z consts_1 kn ws (⟨"java/lang/StringUTF16", "toBytes", "([CII)[B"⟩ : MethodName) jdk_52_method_14_code 5 (some (.array .byte)) ({ frames := 2, cells := 1, slots := 32, locals := 24 } : Room) #[(.ref ca), (.int (0 : Int32)), (.int (Int32.ofNat cs.length))] h0 ss (rV fun v h => Ext h0 h ∧ ∃ d kd, v = .ref d ∧ h0.size ≤ d ∧ Arv Z h d kd .byte (Int32.ofNat (cs.length + cs.length)) (u16b cs) (.int 0)) := by
  have hw := g.1
  have hEL := g.2.1
  refine Con.of (plainFor_of_name pn_0) hO ?_
  intro p e s m below meth c T0 me W0
  refine Fi.entry (L := #[.val (.ref ca), .val (.int (0 : Int32)), .val (.int (Int32.ofNat cs.length)), .unset, .unset]) (by first | (simp [entryFrame, mkF, argsToLocals, Value.category, maxLocals]; done) | (simp [entryFrame, mkF, argsToLocals, Value.category]; done) | rfl) ?_
  have hclt := own_lt Aca.lt
  refine W0.iloadN me d_jdk_52_method_14_0 rfl ?_
  show Fi p e below s Z _ _ _ _ T0 (mkF m 1 #[.val (.ref ca), .val (.int (0 : Int32)), .val (.int (Int32.ofNat cs.length)), .unset, .unset] [(.int (Int32.ofNat cs.length))])
  refine W0.callS me hEL (hw _ (List.mem_of_getElem? (i := 196) rfl)) (hw _ (List.mem_of_getElem? (i := 197) rfl)) (hw _ (List.mem_of_getElem? (i := 22) rfl)) (hw _ (List.mem_of_getElem? (i := 198) rfl)) (argsL := [(.int (Int32.ofNat cs.length))]) (rest := []) (c_newbytes (ss := []) g W0.old hl) d_jdk_52_method_14_1 (by decide) (fun _ q => nomatch q) rfl (lenOf pd_10 rfl) (own_le rfl) (own_le rfl) (own_le rfl) (own_le rfl) rfl ?_
  intro T1 h1 v1 W1 z1 q1
  obtain ⟨sf1, X1, _, rfl, E1, d1, k1, rfl, y1, s1, A1, EB1⟩ := q1
  show Fi p e below s Z _ _ _ _ T1 (mkF m 4 #[.val (.ref ca), .val (.int (0 : Int32)), .val (.int (Int32.ofNat cs.length)), .unset, .unset] [(.ref d1)])
  replace W1 := X1 [d1] (allS s1 all0)
  have hzd : Z.heap.size ≤ d1 := by have := hO.2.1; omega
  have hne : ca ≠ d1 := own_ne (by omega)
  have loop : ∀ (r i : Nat) (TL : State) (hL : Heap), i + r = cs.length → Wk p l e ({ frames := 2, cells := 1, slots := 32, locals := 24 } : Room) s m #[(.ref ca), (.int (0 : Int32)), (.int (Int32.ofNat cs.length))] below meth c Z consts_1 kn "java/lang/StringUTF16" TL hL ([d1] ++ ss) 1 32 → Keep h1 hL [d1] → Arv Z hL d1 k1 .byte (Int32.ofNat (cs.length + cs.length)) (u16b (cs.take i)) (.int 0) →
      Fi p e below s Z consts_1 1 32 (rV fun v h => Ext h0 h ∧ ∃ d kd, v = .ref d ∧ h0.size ≤ d ∧ Arv Z h d kd .byte (Int32.ofNat (cs.length + cs.length)) (u16b cs) (.int 0)) TL (mkF m 8 #[.val (.ref ca), .val (.int (Int32.ofNat i)), .val (.int (Int32.ofNat cs.length)), .val (.ref d1), .val (.int (Int32.ofNat i))] []) := by
    intro r
    induction r with
    | zero =>
      intro i TL hL hi WL K A
      refine WL.iload me d_jdk_52_method_14_8 rfl ?_
      refine WL.iloadN me d_jdk_52_method_14_10 rfl ?_
      show Fi p e below s Z _ _ _ _ TL (mkF m 11 #[.val (.ref ca), .val (.int (Int32.ofNat i)), .val (.int (Int32.ofNat cs.length)), .val (.ref d1), .val (.int (Int32.ofNat i))] [(.int (Int32.ofNat cs.length)), (.int (Int32.ofNat i))])
      refine WL.icY_ge me d_jdk_52_method_14_11 (on_nlt (by omega) (by omega)) (pc' := 32) (by decide) (by decide) ?_
      show Fi p e below s Z _ _ _ _ TL (mkF m 32 #[.val (.ref ca), .val (.int (Int32.ofNat i)), .val (.int (Int32.ofNat cs.length)), .val (.ref d1), .val (.int (Int32.ofNat i))] [])
      refine WL.aloadN me d_jdk_52_method_14_32 rfl rfl ?_
      show Fi p e below s Z _ _ _ _ TL (mkF m 33 #[.val (.ref ca), .val (.int (Int32.ofNat i)), .val (.int (Int32.ofNat cs.length)), .val (.ref d1), .val (.int (Int32.ofNat i))] [(.ref d1)])
      have e1 : cs.take i = cs := List.take_of_length_le (by omega)
      rw [e1] at A
      exact WL.retA hEL me d_jdk_52_method_14_33 ⟨own_xk E1 K (allS y1 all0), d1, k1, rfl, y1, A⟩ (by decide) (by decide) rfl rfl rfl
    | succ r ih =>
      intro i TL hL hi WL K A
      have hlt : i < cs.length := by omega
      have Ac := (Aca.ext E1).keep K (ninS hne nin0)
      refine WL.iload me d_jdk_52_method_14_8 rfl ?_
      refine WL.iloadN me d_jdk_52_method_14_10 rfl ?_
      show Fi p e below s Z _ _ _ _ TL (mkF m 11 #[.val (.ref ca), .val (.int (Int32.ofNat i)), .val (.int (Int32.ofNat cs.length)), .val (.ref d1), .val (.int (Int32.ofNat i))] [(.int (Int32.ofNat cs.length)), (.int (Int32.ofNat i))])
      refine WL.icN_ge me d_jdk_52_method_14_11 (on_lt hlt (by omega)) ?_
      show Fi p e below s Z _ _ _ _ TL (mkF m 14 #[.val (.ref ca), .val (.int (Int32.ofNat i)), .val (.int (Int32.ofNat cs.length)), .val (.ref d1), .val (.int (Int32.ofNat i))] [])
      refine WL.aloadN me d_jdk_52_method_14_14 rfl rfl ?_
      refine WL.iload me d_jdk_52_method_14_15 rfl ?_
      refine WL.aloadN me d_jdk_52_method_14_17 rfl rfl ?_
      refine WL.iloadN me d_jdk_52_method_14_18 rfl ?_
      show Fi p e below s Z _ _ _ _ TL (mkF m 19 #[.val (.ref ca), .val (.int (Int32.ofNat i)), .val (.int (Int32.ofNat cs.length)), .val (.ref d1), .val (.int (Int32.ofNat i))] [(.int (Int32.ofNat i)), (.ref ca), (.int (Int32.ofNat i)), (.ref d1)])
      refine WL.caload me Ac d_jdk_52_method_14_19 (on_in hlt (by omega)) (v := .int (cs.getD i 0)) (by rw [on_clamp (by omega), ci_get hlt]) ?_
      show Fi p e below s Z _ _ _ _ TL (mkF m 20 #[.val (.ref ca), .val (.int (Int32.ofNat i)), .val (.int (Int32.ofNat cs.length)), .val (.ref d1), .val (.int (Int32.ofNat i))] [(.int (cs.getD i 0)), (.int (Int32.ofNat i)), (.ref d1)])
      refine WL.callS me hEL (hw _ (List.mem_of_getElem? (i := 203) rfl)) (hw _ (List.mem_of_getElem? (i := 204) rfl)) (hw _ (List.mem_of_getElem? (i := 22) rfl)) (hw _ (List.mem_of_getElem? (i := 205) rfl)) (argsL := [(.ref d1), (.int (Int32.ofNat i)), (.int (cs.getD i 0))]) (rest := []) (c_putchar g WL.old A (by rw [List.length_take]; omega) (by omega) (by omega) (by omega) (List.mem_cons_self ..) hzd) d_jdk_52_method_14_20 (by decide) (fun _ q => q) rfl (lenOf pd_11 rfl) (own_le rfl) (own_le rfl) (own_le rfl) (own_le rfl) rfl ?_
      intro T12 h12 v12 W12 z12 q12
      obtain ⟨sf12, X12, rfl, K12, A12⟩ := q12
      show Fi p e below s Z _ _ _ _ T12 (mkF m 23 #[.val (.ref ca), .val (.int (Int32.ofNat i)), .val (.int (Int32.ofNat cs.length)), .val (.ref d1), .val (.int (Int32.ofNat i))] [])
      refine W12.iinc me d_jdk_52_method_14_23 (v := 1) rfl rfl (l' := #[.val (.ref ca), .val (.int ((Int32.ofNat i) + (1 : Int32))), .val (.int (Int32.ofNat cs.length)), .val (.ref d1), .val (.int (Int32.ofNat i))]) rfl ?_
      refine W12.iinc me d_jdk_52_method_14_26 (v := 1) rfl rfl (l' := #[.val (.ref ca), .val (.int ((Int32.ofNat i) + (1 : Int32))), .val (.int (Int32.ofNat cs.length)), .val (.ref d1), .val (.int ((Int32.ofNat i) + (1 : Int32)))]) rfl ?_
      refine W12.goto me d_jdk_52_method_14_29 (pc' := 8) (by decide) (by decide) ?_
      show Fi p e below s Z _ _ _ _ T12 (mkF m 8 #[.val (.ref ca), .val (.int ((Int32.ofNat i) + (1 : Int32))), .val (.int (Int32.ofNat cs.length)), .val (.ref d1), .val (.int ((Int32.ofNat i) + (1 : Int32)))] [])
      rw [on_succ]
      exact ih (i + 1) T12 h12 (by omega) W12 (K.trans K12 (fun x hx => Or.inl hx)) (by rw [take_snoc hlt] at A12; exact A12)
  refine W1.astoreN me d_jdk_52_method_14_4 (l' := #[.val (.ref ca), .val (.int (0 : Int32)), .val (.int (Int32.ofNat cs.length)), .val (.ref d1), .unset]) rfl rfl ?_
  refine W1.iconst me d_jdk_52_method_14_5 (v := 0) rfl ?_
  refine W1.istore me d_jdk_52_method_14_6 (l' := #[.val (.ref ca), .val (.int (0 : Int32)), .val (.int (Int32.ofNat cs.length)), .val (.ref d1), .val (.int (0 : Int32))]) rfl ?_
  show Fi p e below s Z _ _ _ _ T1 (mkF m 8 #[.val (.ref ca), .val (.int (0 : Int32)), .val (.int (Int32.ofNat cs.length)), .val (.ref d1), .val (.int (0 : Int32))] [])
  exact loop cs.length 0 T1 h1 (by omega) W1 (Keep.refl _ _) A1

set_option maxRecDepth 65536 in
set_option maxHeartbeats 4000000 in
theorem c_compressX {l : Launch} {Z : State} {a0 : Array Value} {kn : Bool} (g : Gl Z a0) {ws : List Cond} {h0 : Heap} {ss : List Addr} (hO : Old Z Z.heap.size h0) {ca b : Addr} {kca kb : ClassId} {cs : List Int32} {dv : Value} {f : Nat} (Aca : Arv Z h0 ca kca .char (Int32.ofNat cs.length) (cs.map Value.int) dv) (A0 : Arv Z h0 b kb .byte (Int32.ofNat cs.length) [] (.int 0)) (hne : ca ≠ b) (hS : b ∈ ss) (hz : Z.heap.size ≤ b) (hl : cs.length < 2 ^ 20) (hf : f < cs.length) (hbig : (255 : Int32) < cs.getD f 0) (hsm : ∀ j, j < f → ¬ cs.getD j 0 < 0 ∧ ¬ (255 : Int32) < cs.getD j 0) :
    Con l Z consts_1 kn ws (⟨"java/lang/StringUTF16", "compress", "([CI[BII)I"⟩ : MethodName) jdk_52_method_21_code 7 (some .int) ({ frames := 0, cells := 0, slots := 0, locals := 0 } : Room) #[(.ref ca), (.int (0 : Int32)), (.ref b), (.int (0 : Int32)), (.int (Int32.ofNat cs.length))] h0 ss (rV fun v h => Keep h0 h [b] ∧ v = .int (Int32.ofNat f)) := by
  have hw := g.1
  have hEL := g.2.1
  refine Con.of (plainFor_of_name pn_0) hO ?_
  intro p e s m below meth c T0 me W0
  refine Fi.entry (L := #[.val (.ref ca), .val (.int (0 : Int32)), .val (.ref b), .val (.int (0 : Int32)), .val (.int (Int32.ofNat cs.length)), .unset, .unset]) (by first | (simp [entryFrame, mkF, argsToLocals, Value.category, maxLocals]; done) | (simp [entryFrame, mkF, argsToLocals, Value.category]; done) | rfl) ?_
  have loop : ∀ (r i : Nat) (T1 : State) (h1 : Heap) (o : Slot), i + r = f → (o = .unset ∨ ∃ w, o = .val w ∧ w.category = 1) → Wk p l e ({ frames := 0, cells := 0, slots := 0, locals := 0 } : Room) s m #[(.ref ca), (.int (0 : Int32)), (.ref b), (.int (0 : Int32)), (.int (Int32.ofNat cs.length))] below meth c Z consts_1 kn "java/lang/StringUTF16" T1 h1 ss 0 0 → Keep h0 h1 [b] → Arv Z h1 b kb .byte (Int32.ofNat cs.length) (lb (cs.take i)) (.int 0) →
      Fi p e below s Z consts_1 0 0 (rV fun v h => Keep h0 h [b] ∧ v = .int (Int32.ofNat f)) T1 (mkF m 3 #[.val (.ref ca), .val (.int (Int32.ofNat i)), .val (.ref b), .val (.int (Int32.ofNat i)), .val (.int (Int32.ofNat cs.length)), .val (.int (Int32.ofNat i)), o] []) := by
    intro r
    induction r with
    | zero =>
      intro i T1 h1 o hi ho W1 K A
      have hlt : i < cs.length := by omega
      have Ac := Aca.keep K (ninS hne nin0)
      obtain ⟨x, hx⟩ : ∃ x, x = cs.getD i 0 := ⟨_, rfl⟩
      refine W1.iload me d_jdk_52_method_21_3 rfl ?_
      refine W1.iload me d_jdk_52_method_21_5 rfl ?_
      refine W1.icN_ge me d_jdk_52_method_21_7 (on_lt hlt (by omega)) ?_
      refine W1.aloadN me d_jdk_52_method_21_10 rfl rfl ?_
      refine W1.iloadN me d_jdk_52_method_21_11 rfl ?_
      refine W1.caload me Ac d_jdk_52_method_21_12 (on_in hlt (by omega)) (v := .int x) (by rw [on_clamp (by omega), ci_get hlt, hx]) ?_
      refine W1.istore me d_jdk_52_method_21_13 (l' := #[.val (.ref ca), .val (.int (Int32.ofNat i)), .val (.ref b), .val (.int (Int32.ofNat i)), .val (.int (Int32.ofNat cs.length)), .val (.int (Int32.ofNat i)), .val (.int x)]) (XS.store1 (i := 6) rfl ho rfl) ?_
      refine W1.iload me d_jdk_52_method_21_15 rfl ?_
      refine W1.sipush me d_jdk_52_method_21_17 (v := 255) rfl ?_
      have ei : i = f := by omega
      subst ei
      refine W1.icN_le me d_jdk_52_method_21_20 (hx ▸ hbig) ?_
      refine W1.iload me d_jdk_52_method_21_23 rfl ?_
      show Fi p e below s Z _ _ _ _ T1 (mkF m 25 #[.val (.ref ca), .val (.int (Int32.ofNat i)), .val (.ref b), .val (.int (Int32.ofNat i)), .val (.int (Int32.ofNat cs.length)), .val (.int (Int32.ofNat i)), .val (.int x)] [(.int (Int32.ofNat i))])
      exact W1.retI hEL me d_jdk_52_method_21_25 ⟨K, rfl⟩ (by decide) (by decide)
    | succ r ih =>
      intro i T1 h1 o hi ho W1 K A
      have hlt : i < cs.length := by omega
      have Ac := Aca.keep K (ninS hne nin0)
      obtain ⟨x, hx⟩ : ∃ x, x = cs.getD i 0 := ⟨_, rfl⟩
      refine W1.iload me d_jdk_52_method_21_3 rfl ?_
      refine W1.iload me d_jdk_52_method_21_5 rfl ?_
      refine W1.icN_ge me d_jdk_52_method_21_7 (on_lt hlt (by omega)) ?_
      refine W1.aloadN me d_jdk_52_method_21_10 rfl rfl ?_
      refine W1.iloadN me d_jdk_52_method_21_11 rfl ?_
      refine W1.caload me Ac d_jdk_52_method_21_12 (on_in hlt (by omega)) (v := .int x) (by rw [on_clamp (by omega), ci_get hlt, hx]) ?_
      refine W1.istore me d_jdk_52_method_21_13 (l' := #[.val (.ref ca), .val (.int (Int32.ofNat i)), .val (.ref b), .val (.int (Int32.ofNat i)), .val (.int (Int32.ofNat cs.length)), .val (.int (Int32.ofNat i)), .val (.int x)]) (XS.store1 (i := 6) rfl ho rfl) ?_
      refine W1.iload me d_jdk_52_method_21_15 rfl ?_
      refine W1.sipush me d_jdk_52_method_21_17 (v := 255) rfl ?_
      refine W1.icY_le me d_jdk_52_method_21_20 (hx ▸ (hsm i (by omega)).2) (pc' := 26) (by decide) (by decide) ?_
      refine W1.aloadN me d_jdk_52_method_21_26 rfl rfl ?_
      refine W1.iloadN me d_jdk_52_method_21_27 rfl ?_
      refine W1.iload me d_jdk_52_method_21_28 rfl ?_
      refine W1.i2b me d_jdk_52_method_21_30 ?_
      show Fi p e below s Z _ _ _ _ T1 (mkF m 31 #[.val (.ref ca), .val (.int (Int32.ofNat i)), .val (.ref b), .val (.int (Int32.ofNat i)), .val (.int (Int32.ofNat cs.length)), .val (.int (Int32.ofNat i)), .val (.int x)] [(.int (x.toInt8.toInt32)), (.int (Int32.ofNat i)), (.ref b)])
      refine W1.bastoreP me A (nar_byte_idem x) d_jdk_52_method_21_31 (i := i) (by rw [lb_len, List.length_take]; omega) (on_clamp (by omega)) (on_in hlt (by omega)) hS hz ?_
      intro T2 h2 W2 R2 A2
      refine W2.iinc me d_jdk_52_method_21_32 (v := 1) rfl rfl (l' := #[.val (.ref ca), .val (.int ((Int32.ofNat i) + (1 : Int32))), .val (.ref b), .val (.int (Int32.ofNat i)), .val (.int (Int32.ofNat cs.length)), .val (.int (Int32.ofNat i)), .val (.int x)]) rfl ?_
      refine W2.iinc me d_jdk_52_method_21_35 (v := 1) rfl rfl (l' := #[.val (.ref ca), .val (.int ((Int32.ofNat i) + (1 : Int32))), .val (.ref b), .val (.int ((Int32.ofNat i) + (1 : Int32))), .val (.int (Int32.ofNat cs.length)), .val (.int (Int32.ofNat i)), .val (.int x)]) rfl ?_
      refine W2.iinc me d_jdk_52_method_21_38 (v := 1) rfl rfl (l' := #[.val (.ref ca), .val (.int ((Int32.ofNat i) + (1 : Int32))), .val (.ref b), .val (.int ((Int32.ofNat i) + (1 : Int32))), .val (.int (Int32.ofNat cs.length)), .val (.int ((Int32.ofNat i) + (1 : Int32))), .val (.int x)]) rfl ?_
      refine W2.goto me d_jdk_52_method_21_41 (pc' := 3) (by decide) (by decide) ?_
      show Fi p e below s Z _ _ _ _ T2 (mkF m 3 #[.val (.ref ca), .val (.int ((Int32.ofNat i) + (1 : Int32))), .val (.ref b), .val (.int ((Int32.ofNat i) + (1 : Int32))), .val (.int (Int32.ofNat cs.length)), .val (.int ((Int32.ofNat i) + (1 : Int32))), .val (.int x)] [])
      rw [on_succ]
      exact ih (i + 1) T2 h2 (.val (.int x)) (by omega) (Or.inr ⟨_, rfl, rfl⟩) W2 (K.wr R2 (Or.inl (List.mem_singleton.mpr rfl))) (by rw [hx, lb_take_succ hlt] at A2; exact A2)
  refine W0.iconst me d_jdk_52_method_21_0 (v := 0) rfl ?_
  refine W0.istore me d_jdk_52_method_21_1 (l' := #[.val (.ref ca), .val (.int (0 : Int32)), .val (.ref b), .val (.int (0 : Int32)), .val (.int (Int32.ofNat cs.length)), .val (.int (0 : Int32)), .unset]) rfl ?_
  exact loop f 0 T0 h0 .unset (by omega) (Or.inl rfl) W0 (Keep.refl _ _) A0

set_option maxRecDepth 65536 in
set_option maxHeartbeats 4000000 in
theorem c_compress1X {l : Launch} {Z : State} {a0 : Array Value} {kn : Bool} (g : Gl Z a0) {ws : List Cond} {h0 : Heap} {ss : List Addr} (hO : Old Z Z.heap.size h0) {ca : Addr} {kca : ClassId} {cs : List Int32} {dv : Value} {f : Nat} (Aca : Arv Z h0 ca kca .char (Int32.ofNat cs.length) (cs.map Value.int) dv) (hC : C16 cs) (hl : cs.length ≤ 8) (hf : f < cs.length) (hbig : (255 : Int32) < cs.getD f 0) (hsm : ∀ j, j < f → ¬ cs.getD j 0 < 0 ∧ ¬ (255 : Int32) < cs.getD j 0) :
    Con l Z consts_1 kn ws (⟨"java/lang/StringUTF16", "compress", "([CII)[B"⟩ : MethodName) jdk_52_method_16_code 6 (some (.array .byte)) ({ frames := 3, cells := 2, slots := 40, locals := 40 } : Room) #[(.ref ca), (.int (0 : Int32)), (.int (Int32.ofNat cs.length))] h0 ss (rV fun v h => Ext h0 h ∧ ∃ b kb, v = .ref b ∧ h0.size ≤ b ∧ Arv Z h b kb .byte (Int32.ofNat (cs.length + cs.length)) (u16b cs) (.int 0)) := by
  have hw := g.1
  have hEL := g.2.1
  refine Con.of (plainFor_of_name pn_0) hO ?_
  intro p e s m below meth c T0 me W0
  refine Fi.entry (L := #[.val (.ref ca), .val (.int (0 : Int32)), .val (.int (Int32.ofNat cs.length)), .unset, .unset, .unset]) (by first | (simp [entryFrame, mkF, argsToLocals, Value.category, maxLocals]; done) | (simp [entryFrame, mkF, argsToLocals, Value.category]; done) | rfl) ?_
  have hlt1 := own_lt Aca.lt
  refine W0.iloadN me d_jdk_52_method_16_0 rfl ?_
  show Fi p e below s Z _ _ _ _ T0 (mkF m 1 #[.val (.ref ca), .val (.int (0 : Int32)), .val (.int (Int32.ofNat cs.length)), .unset, .unset, .unset] [(.int (Int32.ofNat cs.length))])
  refine W0.newA me (hw _ (List.mem_of_getElem? (i := 24) rfl)) d_jdk_52_method_16_1 (on_nneg (by omega)) (cap := 8) (by rw [on_clamp (by omega)]; exact hl) (own_le rfl) (own_le rfl) (own_le rfl) ?_
  intro T1 h1 a1 k1 g1 W1 E1 A1
  show Fi p e below s Z _ _ _ _ T1 (mkF m 3 #[.val (.ref ca), .val (.int (0 : Int32)), .val (.int (Int32.ofNat cs.length)), .unset, .unset, .unset] [(.ref a1)])
  refine W1.astoreN me d_jdk_52_method_16_3 (l' := #[.val (.ref ca), .val (.int (0 : Int32)), .val (.int (Int32.ofNat cs.length)), .val (.ref a1), .unset, .unset]) rfl rfl ?_
  refine W1.aloadN me d_jdk_52_method_16_4 rfl rfl ?_
  refine W1.iloadN me d_jdk_52_method_16_5 rfl ?_
  refine W1.aloadN me d_jdk_52_method_16_6 rfl rfl ?_
  refine W1.iconst me d_jdk_52_method_16_7 (v := 0) rfl ?_
  refine W1.iloadN me d_jdk_52_method_16_8 rfl ?_
  show Fi p e below s Z _ _ _ _ T1 (mkF m 9 #[.val (.ref ca), .val (.int (0 : Int32)), .val (.int (Int32.ofNat cs.length)), .val (.ref a1), .unset, .unset] [(.int (Int32.ofNat cs.length)), (.int (0 : Int32)), (.ref a1), (.int (0 : Int32)), (.ref ca)])
  refine W1.callS me hEL (hw _ (List.mem_of_getElem? (i := 25) rfl)) (hw _ (List.mem_of_getElem? (i := 26) rfl)) (hw _ (List.mem_of_getElem? (i := 22) rfl)) (hw _ (List.mem_of_getElem? (i := 27) rfl)) (argsL := [(.ref ca), (.int (0 : Int32)), (.ref a1), (.int (0 : Int32)), (.int (Int32.ofNat cs.length))]) (rest := []) (c_compressX g W1.old (Aca.ext E1) A1 (own_ne (by omega)) (List.mem_cons_self ..) (by have := hO.2.1; omega) (by omega) hf hbig hsm) d_jdk_52_method_16_9 (by decide) (fun _ q => q) rfl (lenOf pd_0 rfl) (own_le rfl) (own_le rfl) (own_le rfl) (own_le rfl) rfl ?_
  intro T2 h2 v2 W2 z2 q2
  obtain ⟨sf2, X2, _, rfl, K2, rfl⟩ := q2
  show Fi p e below s Z _ _ _ _ T2 (mkF m 12 #[.val (.ref ca), .val (.int (0 : Int32)), .val (.int (Int32.ofNat cs.length)), .val (.ref a1), .unset, .unset] [(.int (Int32.ofNat f))])
  have EE2 := own_xk E1 K2 (allS (by omega) all0)
  refine W2.istore me d_jdk_52_method_16_12 (l' := #[.val (.ref ca), .val (.int (0 : Int32)), .val (.int (Int32.ofNat cs.length)), .val (.ref a1), .val (.int (Int32.ofNat f)), .unset]) rfl ?_
  refine W2.iload me d_jdk_52_method_16_14 rfl ?_
  refine W2.iloadN me d_jdk_52_method_16_16 rfl ?_
  show Fi p e below s Z _ _ _ _ T2 (mkF m 17 #[.val (.ref ca), .val (.int (0 : Int32)), .val (.int (Int32.ofNat cs.length)), .val (.ref a1), .val (.int (Int32.ofNat f)), .unset] [(.int (Int32.ofNat cs.length)), (.int (Int32.ofNat f))])
  refine W2.icN_eq me d_jdk_52_method_16_17 (fun q => absurd ((on_inj (by omega) (by omega)).mp q) (by omega)) ?_
  show Fi p e below s Z _ _ _ _ T2 (mkF m 20 #[.val (.ref ca), .val (.int (0 : Int32)), .val (.int (Int32.ofNat cs.length)), .val (.ref a1), .val (.int (Int32.ofNat f)), .unset] [])
  refine W2.aloadN me d_jdk_52_method_16_20 rfl rfl ?_
  refine W2.iloadN me d_jdk_52_method_16_21 rfl ?_
  refine W2.iloadN me d_jdk_52_method_16_22 rfl ?_
  show Fi p e below s Z _ _ _ _ T2 (mkF m 23 #[.val (.ref ca), .val (.int (0 : Int32)), .val (.int (Int32.ofNat cs.length)), .val (.ref a1), .val (.int (Int32.ofNat f)), .unset] [(.int (Int32.ofNat cs.length)), (.int (0 : Int32)), (.ref ca)])
  refine W2.callS me hEL (hw _ (List.mem_of_getElem? (i := 193) rfl)) (hw _ (List.mem_of_getElem? (i := 194) rfl)) (hw _ (List.mem_of_getElem? (i := 22) rfl)) (hw _ (List.mem_of_getElem? (i := 195) rfl)) (argsL := [(.ref ca), (.int (0 : Int32)), (.int (Int32.ofNat cs.length))]) (rest := []) (c_tobytes16 (ss := []) g W2.old (Aca.ext EE2) (by omega)) d_jdk_52_method_16_23 (by decide) (fun _ q => nomatch q) rfl (lenOf pd_1 rfl) (own_le rfl) (own_le rfl) (own_le rfl) (own_le rfl) rfl ?_
  intro T3 h3 v3 W3 z3 q3
  obtain ⟨sf3, X3, _, rfl, E3, d3, k3, rfl, y3, A3⟩ := q3
  show Fi p e below s Z _ _ _ _ T3 (mkF m 26 #[.val (.ref ca), .val (.int (0 : Int32)), .val (.int (Int32.ofNat cs.length)), .val (.ref a1), .val (.int (Int32.ofNat f)), .unset] [(.ref d3)])
  refine W3.astore me d_jdk_52_method_16_26 (l' := #[.val (.ref ca), .val (.int (0 : Int32)), .val (.int (Int32.ofNat cs.length)), .val (.ref a1), .val (.int (Int32.ofNat f)), .val (.ref d3)]) rfl rfl ?_
  refine W3.aload me d_jdk_52_method_16_28 rfl rfl ?_
  refine W3.iload me d_jdk_52_method_16_30 rfl ?_
  show Fi p e below s Z _ _ _ _ T3 (mkF m 32 #[.val (.ref ca), .val (.int (0 : Int32)), .val (.int (Int32.ofNat cs.length)), .val (.ref a1), .val (.int (Int32.ofNat f)), .val (.ref d3)] [(.int (Int32.ofNat f)), (.ref d3)])
  refine W3.callS me hEL (hw _ (List.mem_of_getElem? (i := 209) rfl)) (hw _ (List.mem_of_getElem? (i := 210) rfl)) (hw _ (List.mem_of_getElem? (i := 22) rfl)) (hw _ (List.mem_of_getElem? (i := 211) rfl)) (argsL := [(.ref d3), (.int (Int32.ofNat f))]) (rest := []) (c_getchar (ss := []) g W3.old A3 hf (by omega) (Nat.le_refl _) (by omega) hC) d_jdk_52_method_16_32 (by decide) (fun _ q => nomatch q) rfl (lenOf pd_8 rfl) (own_le rfl) (own_le rfl) (own_le rfl) (own_le rfl) rfl ?_
  intro T4 h4 v4 W4 z4 q4
  obtain ⟨sf4, X4, _, rfl, rfl, rfl⟩ := q4
  show Fi p e below s Z _ _ _ _ T4 (mkF m 35 #[.val (.ref ca), .val (.int (0 : Int32)), .val (.int (Int32.ofNat cs.length)), .val (.ref a1), .val (.int (Int32.ofNat f)), .val (.ref d3)] [(.int (cs.getD f 0))])
  refine W4.sipush me d_jdk_52_method_16_35 (v := 255) rfl ?_
  show Fi p e below s Z _ _ _ _ T4 (mkF m 38 #[.val (.ref ca), .val (.int (0 : Int32)), .val (.int (Int32.ofNat cs.length)), .val (.ref a1), .val (.int (Int32.ofNat f)), .val (.ref d3)] [(.int (255 : Int32)), (.int (cs.getD f 0))])
  refine W4.icY_gt me d_jdk_52_method_16_38 hbig (pc' := 54) (by decide) (by decide) ?_
  show Fi p e below s Z _ _ _ _ T4 (mkF m 54 #[.val (.ref ca), .val (.int (0 : Int32)), .val (.int (Int32.ofNat cs.length)), .val (.ref a1), .val (.int (Int32.ofNat f)), .val (.ref d3)] [])
  refine W4.aload me d_jdk_52_method_16_54 rfl rfl ?_
  show Fi p e below s Z _ _ _ _ T4 (mkF m 56 #[.val (.ref ca), .val (.int (0 : Int32)), .val (.int (Int32.ofNat cs.length)), .val (.ref a1), .val (.int (Int32.ofNat f)), .val (.ref d3)] [(.ref d3)])
  have hsz := EE2.1
  exact W4.retA hEL me d_jdk_52_method_16_56 ⟨own_xt EE2 E3, d3, k3, rfl, by omega, A3⟩ (by decide) (by decide) rfl rfl rfl

set_option maxRecDepth 65536 in
set_option maxHeartbeats 4000000 in
theorem c_coderlen16 {l : Launch} {Z : State} {a0 : Array Value} {kn : Bool} (g : Gl Z a0) {ws : List Cond} {h0 : Heap} {ss : List Addr} (hO : Old Z Z.heap.size h0) {b : Addr} {n : Nat} {kb : ClassId} {vs : List Value} {dv : Value} (A : Arv Z h0 b kb .byte (Int32.ofNat (n + n)) vs dv) (hn : n < 41) (h1 : 0 < n) :
    Con l Z consts_1 kn ws (⟨"java/lang/StringUTF16", "coderFromArrayLen", "([BI)B"⟩ : MethodName) jdk_52_method_15_code 2 (some .byte) ({ frames := 0, cells := 0, slots := 0, locals := 0 } : Room) #[(.ref b), (.int (Int32.ofNat n))] h0 ss (rV fun v h => h0 = h ∧ v = .int 1) := by
  have hw := g.1
  have hEL := g.2.1
  refine Con.of (plainFor_of_name pn_0) hO ?_
  intro p e s m below meth c T0 me W0
  refine Fi.entry (L := #[.val (.ref b), .val (.int (Int32.ofNat n))]) (by first | (simp [entryFrame, mkF, argsToLocals, Value.category, maxLocals]; done) | (simp [entryFrame, mkF, argsToLocals, Value.category]; done) | rfl) ?_
  refine W0.iloadN me d_jdk_52_method_15_0 rfl ?_
  refine W0.aloadN me d_jdk_52_method_15_1 rfl rfl ?_
  show Fi p e below s Z _ _ _ _ T0 (mkF m 2 #[.val (.ref b), .val (.int (Int32.ofNat n))] [(.ref b), (.int (Int32.ofNat n))])
  refine W0.alen me A d_jdk_52_method_15_2 ?_
  show Fi p e below s Z _ _ _ _ T0 (mkF m 3 #[.val (.ref b), .val (.int (Int32.ofNat n))] [(.int (Int32.ofNat (n + n))), (.int (Int32.ofNat n))])
  refine W0.isub me d_jdk_52_method_15_3 ?_
  refine W0.bipush me d_jdk_52_method_15_4 (v := 31) rfl ?_
  refine W0.iushr me d_jdk_52_method_15_6 ?_
  refine W0.i2b me d_jdk_52_method_15_7 ?_
  show Fi p e below s Z _ _ _ _ T0 (mkF m 8 #[.val (.ref b), .val (.int (Int32.ofNat n))] [(.int ((XT.ushr ((Int32.ofNat n) - (Int32.ofNat (n + n))) (31 : Int32)).toInt8.toInt32))])
  rw [own_cdl hn h1]
  show Fi p e below s Z _ _ _ _ T0 (mkF m 8 #[.val (.ref b), .val (.int (Int32.ofNat n))] [(.int (1 : Int32))])
  exact W0.retN hEL me (Or.inr (Or.inl rfl)) d_jdk_52_method_15_8 ⟨rfl, rfl⟩ (by decide) (by decide)

set_option maxRecDepth 65536 in
set_option maxHeartbeats 4000000 in
theorem c_init149X {l : Launch} {Z : State} {a0 : Array Value} {kn : Bool} (g : Gl Z a0) {ws : List Cond} {h0 : Heap} {ss : List Addr} (hO : Old Z Z.heap.size h0) {x ca : Addr} {kca : ClassId} {cs : List Int32} {dv vv vc : Value} (EX : Exa Z h0 x "java/lang/String") (FV : Fld Z h0 x "java/lang/String" "value" "[B" vv) (FC : Fld Z h0 x "java/lang/String" "coder" "B" vc) (Aca : Arv Z h0 ca kca .char (Int32.ofNat cs.length) (cs.map Value.int) dv) (hS : x ∈ ss) (hz : Z.heap.size ≤ x) (hC : C16 cs) (h8 : ¬ C8 cs) (hl : cs.length ≤ 8) :
    Con l Z consts_1 kn ws (⟨"java/lang/String", "<init>", "([CIILjava/lang/Void;)V"⟩ : MethodName) jdk_42_method_149_code 6 none ({ frames := 4, cells := 2, slots := 40, locals := 57 } : Room) #[(.ref x), (.ref ca), (.int (0 : Int32)), (.int (Int32.ofNat cs.length)), .null] h0 ss (rU fun h => Keep h0 h [x] ∧ ∃ b, StB Z h x b true cs) := by
  have hw := g.1
  have hEL := g.2.1
  refine Con.of (plainFor_of_name pn_1) hO ?_
  intro p e s m below meth c T0 me W0
  refine Fi.entry (L := #[.val (.ref x), .val (.ref ca), .val (.int (0 : Int32)), .val (.int (Int32.ofNat cs.length)), .val .null, .unset]) (by first | (simp [entryFrame, mkF, argsToLocals, Value.category, maxLocals]; done) | (simp [entryFrame, mkF, argsToLocals, Value.category]; done) | rfl) ?_
  have hLV : Laid Z a0 "java/lang/String" "java/lang/String" "value" "[B" := Or.inr (hw _ (List.mem_of_getElem? (i := 34) rfl))
  have hLC : Laid Z a0 "java/lang/String" "java/lang/String" "coder" "B" := Or.inr (hw _ (List.mem_of_getElem? (i := 32) rfl))
  have hvc : Jvm.RoadKit.slotOf Z "java/lang/String" "value" "[B" ≠ Jvm.RoadKit.slotOf Z "java/lang/String" "coder" "B" := slot_ne hLV hLC (by decide) (t := .array .byte) (t' := .byte) (by decide) (by decide)
  obtain ⟨f, hf, hbig, hsm⟩ := own_first hC h8
  have hxlt := own_lt EX.lt
  refine W0.aloadN me d_jdk_42_method_149_0 rfl rfl ?_
  show Fi p e below s Z _ _ _ _ T0 (mkF m 1 #[.val (.ref x), .val (.ref ca), .val (.int (0 : Int32)), .val (.int (Int32.ofNat cs.length)), .val .null, .unset] [(.ref x)])
  refine W0.initO me (hw _ (List.mem_of_getElem? (i := 16) rfl)) (hw _ (List.mem_of_getElem? (i := 17) rfl)) (hw _ (List.mem_of_getElem? (i := 18) rfl)) d_jdk_42_method_149_1 rfl (own_le rfl) (own_le rfl) ?_
  intro T1 W1
  show Fi p e below s Z _ _ _ _ T1 (mkF m 4 #[.val (.ref x), .val (.ref ca), .val (.int (0 : Int32)), .val (.int (Int32.ofNat cs.length)), .val .null, .unset] [])
  refine W1.iloadN me d_jdk_42_method_149_4 rfl ?_
  show Fi p e below s Z _ _ _ _ T1 (mkF m 5 #[.val (.ref x), .val (.ref ca), .val (.int (0 : Int32)), .val (.int (Int32.ofNat cs.length)), .val .null, .unset] [(.int (Int32.ofNat cs.length))])
  refine W1.ifY_ne me d_jdk_42_method_149_5 (fun q => absurd ((on_inj (by omega) (n := 0) (by omega)).mp q) (by omega)) (pc' := 27) (by decide) (by decide) ?_
  show Fi p e below s Z _ _ _ _ T1 (mkF m 27 #[.val (.ref x), .val (.ref ca), .val (.int (0 : Int32)), .val (.int (Int32.ofNat cs.length)), .val .null, .unset] [])
  obtain ⟨G, O2, P2⟩ := g.2.2.1
  refine W1.getS me (hw _ (List.mem_of_getElem? (i := 19) rfl)) O2 Via.refl d_jdk_42_method_149_27 ?_
  intro T2 W2
  show Fi p e below s Z _ _ _ _ T2 (mkF m 30 #[.val (.ref x), .val (.ref ca), .val (.int (0 : Int32)), .val (.int (Int32.ofNat cs.length)), .val .null, .unset] [(.int G)])
  refine W2.ifN_eq me d_jdk_42_method_149_30 P2 ?_
  refine W2.aloadN me d_jdk_42_method_149_33 rfl rfl ?_
  refine W2.iloadN me d_jdk_42_method_149_34 rfl ?_
  refine W2.iloadN me d_jdk_42_method_149_35 rfl ?_
  show Fi p e below s Z _ _ _ _ T2 (mkF m 36 #[.val (.ref x), .val (.ref ca), .val (.int (0 : Int32)), .val (.int (Int32.ofNat cs.length)), .val .null, .unset] [(.int (Int32.ofNat cs.length)), (.int (0 : Int32)), (.ref ca)])
  refine W2.callS me hEL (hw _ (List.mem_of_getElem? (i := 20) rfl)) (hw _ (List.mem_of_getElem? (i := 21) rfl)) (hw _ (List.mem_of_getElem? (i := 22) rfl)) (hw _ (List.mem_of_getElem? (i := 23) rfl)) (argsL := [(.ref ca), (.int (0 : Int32)), (.int (Int32.ofNat cs.length))]) (rest := []) (c_compress1X (ss := []) g W2.old Aca hC hl hf hbig hsm) d_jdk_42_method_149_36 (by decide) (fun _ q => nomatch q) rfl (lenOf pd_1 rfl) (own_le rfl) (own_le rfl) (own_le rfl) (own_le rfl) rfl ?_
  intro T3 h3 v3 W3 z3 q3
  obtain ⟨sf3, X3, _, rfl, E3, b3, k3, rfl, y3, A3⟩ := q3
  show Fi p e below s Z _ _ _ _ T3 (mkF m 39 #[.val (.ref x), .val (.ref ca), .val (.int (0 : Int32)), .val (.int (Int32.ofNat cs.length)), .val .null, .unset] [(.ref b3)])
  refine W3.astore me d_jdk_42_method_149_39 (l' := #[.val (.ref x), .val (.ref ca), .val (.int (0 : Int32)), .val (.int (Int32.ofNat cs.length)), .val .null, .val (.ref b3)]) rfl rfl ?_
  refine W3.aloadN me d_jdk_42_method_149_41 rfl rfl ?_
  refine W3.aload me d_jdk_42_method_149_42 rfl rfl ?_
  refine W3.iloadN me d_jdk_42_method_149_44 rfl ?_
  show Fi p e below s Z _ _ _ _ T3 (mkF m 45 #[.val (.ref x), .val (.ref ca), .val (.int (0 : Int32)), .val (.int (Int32.ofNat cs.length)), .val .null, .val (.ref b3)] [(.int (Int32.ofNat cs.length)), (.ref b3), (.ref x)])
  refine W3.callS me hEL (hw _ (List.mem_of_getElem? (i := 28) rfl)) (hw _ (List.mem_of_getElem? (i := 29) rfl)) (hw _ (List.mem_of_getElem? (i := 22) rfl)) (hw _ (List.mem_of_getElem? (i := 30) rfl)) (argsL := [(.ref b3), (.int (Int32.ofNat cs.length))]) (rest := [(.ref x)]) (c_coderlen16 (ss := []) g W3.old A3 (by omega) (by omega)) d_jdk_42_method_149_45 (by decide) (fun _ q => nomatch q) rfl (lenOf pd_2 rfl) (own_le rfl) (own_le rfl) (own_le rfl) (own_le rfl) rfl ?_
  intro T4 h4 v4 W4 z4 q4
  obtain ⟨sf4, X4, _, rfl, rfl, rfl⟩ := q4
  show Fi p e below s Z _ _ _ _ T4 (mkF m 48 #[.val (.ref x), .val (.ref ca), .val (.int (0 : Int32)), .val (.int (Int32.ofNat cs.length)), .val .null, .val (.ref b3)] [(.int (1 : Int32)), (.ref x)])
  refine W4.putF me (hw _ (List.mem_of_getElem? (i := 31) rfl)) (FC.ext E3) Via.refl (EX.ext E3) (Or.inr ⟨(hw _ (List.mem_of_getElem? (i := 32) rfl)), rfl, rfl⟩) (hw _ (List.mem_of_getElem? (i := 7) rfl)) (ty := .byte) (by decide) rfl rfl (Or.inl hS) hz d_jdk_42_method_149_48 ?_
  intro T5 h5 W5 R5
  show Fi p e below s Z _ _ _ _ T5 (mkF m 51 #[.val (.ref x), .val (.ref ca), .val (.int (0 : Int32)), .val (.int (Int32.ofNat cs.length)), .val .null, .val (.ref b3)] [])
  refine W5.aloadN me d_jdk_42_method_149_51 rfl rfl ?_
  refine W5.aload me d_jdk_42_method_149_52 rfl rfl ?_
  show Fi p e below s Z _ _ _ _ T5 (mkF m 54 #[.val (.ref x), .val (.ref ca), .val (.int (0 : Int32)), .val (.int (Int32.ofNat cs.length)), .val .null, .val (.ref b3)] [(.ref b3), (.ref x)])
  refine W5.putF me (hw _ (List.mem_of_getElem? (i := 33) rfl)) ((FV.ext E3).other R5 (Or.inr hvc)) Via.refl ((EX.ext E3).wr R5) (Or.inr ⟨(hw _ (List.mem_of_getElem? (i := 34) rfl)), rfl, rfl⟩) (hw _ (List.mem_of_getElem? (i := 7) rfl)) (ty := (.array .byte)) (by decide) rfl rfl (Or.inl hS) hz d_jdk_42_method_149_54 ?_
  intro T6 h6 W6 R6
  show Fi p e below s Z _ _ _ _ T6 (mkF m 57 #[.val (.ref x), .val (.ref ca), .val (.int (0 : Int32)), .val (.int (Int32.ofNat cs.length)), .val .null, .val (.ref b3)] [])
  have hne5 : b3 ≠ x := own_en (by omega)
  have K8 : Keep h0 h6 [x] := ((own_xK E3 [x]).wr R5 (Or.inl (List.mem_singleton.mpr rfl))).wr R6 (Or.inl (List.mem_singleton.mpr rfl))
  exact W6.retU hEL me d_jdk_42_method_149_57 ⟨K8, b3, k3, ((EX.ext E3).wr R5).wr R6, ((FC.ext E3).same R5).other R6 (Or.inr hvc.symm), ((FV.ext E3).other R5 (Or.inr hvc)).same R6, (A3.other R5 hne5).other R6 hne5, by omega, hC⟩ (by decide) (by decide)

set_option maxRecDepth 65536 in
set_option maxHeartbeats 4000000 in
theorem c_init3E {l : Launch} {Z : State} {a0 : Array Value} {kn : Bool} (g : Gl Z a0) {ws : List Cond} {h0 : Heap} {ss : List Addr} (hO : Old Z Z.heap.size h0) {x ca : Addr} {kca : ClassId} {cs : List Int32} {dv vv vc : Value} (EX : Exa Z h0 x "java/lang/String") (FV : Fld Z h0 x "java/lang/String" "value" "[B" vv) (FC : Fld Z h0 x "java/lang/String" "coder" "B" vc) (Aca : Arv Z h0 ca kca .char (Int32.ofNat cs.length) (cs.map Value.int) dv) (hS : x ∈ ss) (hz : Z.heap.size ≤ x) (hC : C16 cs) (hl : cs.length ≤ 8) :
    Con l Z consts_1 kn ws (⟨"java/lang/String", "<init>", "([C)V"⟩ : MethodName) jdk_42_method_3_code 2 none ({ frames := 5, cells := 4, slots := 40, locals := 74 } : Room) #[(.ref x), (.ref ca)] h0 ss (rU fun h => Keep h0 h [x] ∧ ∃ b e, StB Z h x b e cs) := by
  have hw := g.1
  have hEL := g.2.1
  refine Con.of (plainFor_of_name pn_1) hO ?_
  intro p e s m below meth c T0 me W0
  refine Fi.entry (L := #[.val (.ref x), .val (.ref ca)]) (by first | (simp [entryFrame, mkF, argsToLocals, Value.category, maxLocals]; done) | (simp [entryFrame, mkF, argsToLocals, Value.category]; done) | rfl) ?_
  refine W0.aloadN me d_jdk_42_method_3_0 rfl rfl ?_
  refine W0.aloadN me d_jdk_42_method_3_1 rfl rfl ?_
  refine W0.iconst me d_jdk_42_method_3_2 (v := 0) rfl ?_
  refine W0.aloadN me d_jdk_42_method_3_3 rfl rfl ?_
  show Fi p e below s Z _ _ _ _ T0 (mkF m 4 #[.val (.ref x), .val (.ref ca)] [(.ref ca), (.int (0 : Int32)), (.ref ca), (.ref x)])
  refine W0.alen me Aca d_jdk_42_method_3_4 ?_
  show Fi p e below s Z _ _ _ _ T0 (mkF m 5 #[.val (.ref x), .val (.ref ca)] [(.int (Int32.ofNat cs.length)), (.int (0 : Int32)), (.ref ca), (.ref x)])
  refine W0.aconstNull me d_jdk_42_method_3_5 ?_
  show Fi p e below s Z _ _ _ _ T0 (mkF m 6 #[.val (.ref x), .val (.ref ca)] [.null, (.int (Int32.ofNat cs.length)), (.int (0 : Int32)), (.ref ca), (.ref x)])
  by_cases h8 : C8 cs
  ·
    show Fi p e below s Z _ _ _ _ T0 (mkF m 6 #[.val (.ref x), .val (.ref ca)] [.null, (.int (Int32.ofNat cs.length)), (.int (0 : Int32)), (.ref ca), (.ref x)])
    refine W0.callI me hEL (hw _ (List.mem_of_getElem? (i := 12) rfl)) (hw _ (List.mem_of_getElem? (i := 13) rfl)) (hw _ (List.mem_of_getElem? (i := 8) rfl)) (hw _ (List.mem_of_getElem? (i := 15) rfl)) rfl (a := x) (argsL := [(.ref ca), (.int (0 : Int32)), (.int (Int32.ofNat cs.length)), .null]) (rest := []) (c_init149 g W0.old EX FV FC Aca hS hz h8 hl) d_jdk_42_method_3_6 (by decide) (fun _ q => q) rfl (lenOf pd_3 rfl) (own_le rfl) (own_le rfl) (own_le rfl) (own_le rfl) rfl ?_
    intro T1 h1 v1 W1 z1 q1
    obtain ⟨sf1, X1, rfl, K1, L1⟩ := q1
    show Fi p e below s Z _ _ _ _ T1 (mkF m 9 #[.val (.ref x), .val (.ref ca)] [])
    obtain ⟨b1, LB1⟩ := L1.opn
    exact W1.retU hEL me d_jdk_42_method_3_9 ⟨K1, b1, false, StB.of LB1 (by omega)⟩ (by decide) (by decide)
  ·
    show Fi p e below s Z _ _ _ _ T0 (mkF m 6 #[.val (.ref x), .val (.ref ca)] [.null, (.int (Int32.ofNat cs.length)), (.int (0 : Int32)), (.ref ca), (.ref x)])
    refine W0.callI me hEL (hw _ (List.mem_of_getElem? (i := 12) rfl)) (hw _ (List.mem_of_getElem? (i := 13) rfl)) (hw _ (List.mem_of_getElem? (i := 8) rfl)) (hw _ (List.mem_of_getElem? (i := 15) rfl)) rfl (a := x) (argsL := [(.ref ca), (.int (0 : Int32)), (.int (Int32.ofNat cs.length)), .null]) (rest := []) (c_init149X g W0.old EX FV FC Aca hS hz hC h8 hl) d_jdk_42_method_3_6 (by decide) (fun _ q => q) rfl (lenOf pd_3 rfl) (own_le rfl) (own_le rfl) (own_le rfl) (own_le rfl) rfl ?_
    intro T2 h2 v2 W2 z2 q2
    obtain ⟨sf2, X2, rfl, K2, b2, L2⟩ := q2
    show Fi p e below s Z _ _ _ _ T2 (mkF m 9 #[.val (.ref x), .val (.ref ca)] [])
    exact W2.retU hEL me d_jdk_42_method_3_9 ⟨K2, b2, true, L2⟩ (by decide) (by decide)

set_option maxRecDepth 65536 in
set_option maxHeartbeats 4000000 in
theorem c_lenE {l : Launch} {Z : State} {a0 : Array Value} {kn : Bool} (g : Gl Z a0) {ws : List Cond} {h0 : Heap} {ss : List Addr} (hO : Old Z Z.heap.size h0) {u vb : Addr} {f : Bool} {ds : List Int32} (L : StB Z h0 u vb f ds) :
    Con l Z consts_1 kn ws (⟨"java/lang/String", "length", "()I"⟩ : MethodName) jdk_42_method_54_code 1 (some .int) ({ frames := 1, cells := 0, slots := 0, locals := 13 } : Room) #[(.ref u)] h0 ss (rV fun v h => h0 = h ∧ v = .int (Int32.ofNat ds.length)) := by
  have hw := g.1
  have hEL := g.2.1
  refine Con.of (plainFor_of_name pn_1) hO ?_
  intro p e s m below meth c T0 me W0
  refine Fi.entry (L := #[.val (.ref u)]) (by first | (simp [entryFrame, mkF, argsToLocals, Value.category, maxLocals]; done) | (simp [entryFrame, mkF, argsToLocals, Value.category]; done) | rfl) ?_
  obtain ⟨kb, EX, FC, FV, AB, hl, hok⟩ := L
  refine W0.aloadN me d_jdk_42_method_54_0 rfl rfl ?_
  show Fi p e below s Z _ _ _ _ T0 (mkF m 1 #[.val (.ref u)] [(.ref u)])
  refine W0.getF me (hw _ (List.mem_of_getElem? (i := 33) rfl)) FV Via.refl d_jdk_42_method_54_1 ?_
  intro T1 W1
  show Fi p e below s Z _ _ _ _ T1 (mkF m 4 #[.val (.ref u)] [(.ref vb)])
  refine W1.alen me AB d_jdk_42_method_54_4 ?_
  show Fi p e below s Z _ _ _ _ T1 (mkF m 5 #[.val (.ref u)] [(.int (Int32.ofNat (szB f ds.length)))])
  refine W1.aloadN me d_jdk_42_method_54_5 rfl rfl ?_
  show Fi p e below s Z _ _ _ _ T1 (mkF m 6 #[.val (.ref u)] [(.ref u), (.int (Int32.ofNat (szB f ds.length)))])
  refine W1.callV me hEL (hw _ (List.mem_of_getElem? (i := 92) rfl)) (hw _ (List.mem_of_getElem? (i := 93) rfl)) (fun hZ' => notFace_of_selects (args := #[]) (mvT (s := s.setVm _) hZ' (hw _ (List.mem_of_getElem? (i := 95) rfl)))) (hw _ (List.mem_of_getElem? (i := 95) rfl)) (hw _ (List.mem_of_getElem? (i := 94) rfl)) (hw _ (List.mem_of_getElem? (i := 8) rfl)) (hw _ (List.mem_of_getElem? (i := 96) rfl)) (a := u) (argsL := []) (rest := [(.int (Int32.ofNat (szB f ds.length)))]) EX (c_coder (ss := []) g W1.old FC (cdB_nar f)) d_jdk_42_method_54_6 (by decide) (fun _ q => nomatch q) rfl (lenOf pd_4 rfl) (own_le rfl) (own_le rfl) (own_le rfl) (own_le rfl) rfl ?_
  intro T2 h2 v2 W2 z2 q2
  obtain ⟨sf2, X2, _, rfl, rfl, rfl⟩ := q2
  show Fi p e below s Z _ _ _ _ T2 (mkF m 9 #[.val (.ref u)] [(.int (cdB f)), (.int (Int32.ofNat (szB f ds.length)))])
  refine W2.ishr me d_jdk_42_method_54_9 ?_
  show Fi p e below s Z _ _ _ _ T2 (mkF m 10 #[.val (.ref u)] [(.int ((Int32.ofNat (szB f ds.length)) >>> ((cdB f) &&& 31)))])
  rw [shrB f (by omega)]
  show Fi p e below s Z _ _ _ _ T2 (mkF m 10 #[.val (.ref u)] [(.int (Int32.ofNat ds.length))])
  exact W2.retI hEL me d_jdk_42_method_54_10 ⟨rfl, rfl⟩ (by decide) (by decide)

set_option maxRecDepth 65536 in
set_option maxHeartbeats 4000000 in
theorem c_islat16 {l : Launch} {Z : State} {a0 : Array Value} {kn : Bool} (g : Gl Z a0) {ws : List Cond} {h0 : Heap} {ss : List Addr} (hO : Old Z Z.heap.size h0) {a : Addr} (FC : Fld Z h0 a "java/lang/String" "coder" "B" (.int 1)) :
    Con l Z consts_1 kn ws (⟨"java/lang/String", "isLatin1", "()Z"⟩ : MethodName) jdk_42_method_154_code 1 (some .boolean) ({ frames := 0, cells := 0, slots := 0, locals := 0 } : Room) #[(.ref a)] h0 ss (rV fun v h => h0 = h ∧ v = .int 0) := by
  have hw := g.1
  have hEL := g.2.1
  refine Con.of (plainFor_of_name pn_1) hO ?_
  intro p e s m below meth c T0 me W0
  refine Fi.entry (L := #[.val (.ref a)]) (by first | (simp [entryFrame, mkF, argsToLocals, Value.category, maxLocals]; done) | (simp [entryFrame, mkF, argsToLocals, Value.category]; done) | rfl) ?_
  obtain ⟨G, O2, P2⟩ := g.2.2.1
  refine W0.getS me (hw _ (List.mem_of_getElem? (i := 19) rfl)) O2 Via.refl d_jdk_42_method_154_0 ?_
  intro T1 W1
  show Fi p e below s Z _ _ _ _ T1 (mkF m 3 #[.val (.ref a)] [(.int G)])
  refine W1.ifN_eq me d_jdk_42_method_154_3 P2 ?_
  refine W1.aloadN me d_jdk_42_method_154_6 rfl rfl ?_
  show Fi p e below s Z _ _ _ _ T1 (mkF m 7 #[.val (.ref a)] [(.ref a)])
  refine W1.getF me (hw _ (List.mem_of_getElem? (i := 31) rfl)) FC Via.refl d_jdk_42_method_154_7 ?_
  intro T2 W2
  show Fi p e below s Z _ _ _ _ T2 (mkF m 10 #[.val (.ref a)] [(.int (1 : Int32))])
  refine W2.ifY_ne me d_jdk_42_method_154_10 (by decide) (pc' := 17) (by decide) (by decide) ?_
  show Fi p e below s Z _ _ _ _ T2 (mkF m 17 #[.val (.ref a)] [])
  refine W2.iconst me d_jdk_42_method_154_17 (v := 0) rfl ?_
  show Fi p e below s Z _ _ _ _ T2 (mkF m 18 #[.val (.ref a)] [(.int (0 : Int32))])
  exact W2.retN hEL me (Or.inl rfl) d_jdk_42_method_154_18 ⟨rfl, rfl⟩ (by decide) (by decide)

set_option maxRecDepth 65536 in
set_option maxHeartbeats 4000000 in
theorem c_uchk {l : Launch} {Z : State} {a0 : Array Value} {kn : Bool} (g : Gl Z a0) {ws : List Cond} {h0 : Heap} {ss : List Addr} (hO : Old Z Z.heap.size h0) {b : Addr} {kb : ClassId} {i n : Nat} {vs : List Value} {dv : Value} (AB : Arv Z h0 b kb .byte (Int32.ofNat (n + n)) vs dv) (hn : n < 41) (hi : i < n) :
    Con l Z consts_1 kn ws (⟨"java/lang/StringUTF16", "checkIndex", "(I[B)V"⟩ : MethodName) jdk_52_method_91_code 2 none ({ frames := 2, cells := 0, slots := 0, locals := 27 } : Room) #[(.int (Int32.ofNat i)), (.ref b)] h0 ss (rU fun h => h0 = h) := by
  have hw := g.1
  have hEL := g.2.1
  refine Con.of (plainFor_of_name pn_0) hO ?_
  intro p e s m below meth c T0 me W0
  refine Fi.entry (L := #[.val (.int (Int32.ofNat i)), .val (.ref b)]) (by first | (simp [entryFrame, mkF, argsToLocals, Value.category, maxLocals]; done) | (simp [entryFrame, mkF, argsToLocals, Value.category]; done) | rfl) ?_
  refine W0.iloadN me d_jdk_52_method_91_0 rfl ?_
  refine W0.aloadN me d_jdk_52_method_91_1 rfl rfl ?_
  show Fi p e below s Z _ _ _ _ T0 (mkF m 2 #[.val (.int (Int32.ofNat i)), .val (.ref b)] [(.ref b), (.int (Int32.ofNat i))])
  refine W0.callS me hEL (hw _ (List.mem_of_getElem? (i := 228) rfl)) (hw _ (List.mem_of_getElem? (i := 229) rfl)) (hw _ (List.mem_of_getElem? (i := 22) rfl)) (hw _ (List.mem_of_getElem? (i := 230) rfl)) (argsL := [(.ref b)]) (rest := [(.int (Int32.ofNat i))]) (c_ulen (ss := []) g W0.old AB hn) d_jdk_52_method_91_2 (by decide) (fun _ q => nomatch q) rfl (lenOf pd_12 rfl) (own_le rfl) (own_le rfl) (own_le rfl) (own_le rfl) rfl ?_
  intro T1 h1 v1 W1 z1 q1
  obtain ⟨sf1, X1, _, rfl, rfl, rfl⟩ := q1
  show Fi p e below s Z _ _ _ _ T1 (mkF m 5 #[.val (.int (Int32.ofNat i)), .val (.ref b)] [(.int (Int32.ofNat n)), (.int (Int32.ofNat i))])
  refine W1.callS me hEL (hw _ (List.mem_of_getElem? (i := 246) rfl)) (hw _ (List.mem_of_getElem? (i := 186) rfl)) (hw _ (List.mem_of_getElem? (i := 8) rfl)) (hw _ (List.mem_of_getElem? (i := 187) rfl)) (argsL := [(.int (Int32.ofNat i)), (.int (Int32.ofNat n))]) (rest := []) (c_schk (ss := []) g W1.old (on_in hi (by omega))) d_jdk_52_method_91_5 (by decide) (fun _ q => nomatch q) rfl (lenOf pd_6 rfl) (own_le rfl) (own_le rfl) (own_le rfl) (own_le rfl) rfl ?_
  intro T2 h2 v2 W2 z2 q2
  obtain ⟨sf2, X2, rfl, rfl⟩ := q2
  show Fi p e below s Z _ _ _ _ T2 (mkF m 8 #[.val (.int (Int32.ofNat i)), .val (.ref b)] [])
  exact W2.retU hEL me d_jdk_52_method_91_8 rfl (by decide) (by decide)

set_option maxRecDepth 65536 in
set_option maxHeartbeats 4000000 in
theorem c_ucharat {l : Launch} {Z : State} {a0 : Array Value} {kn : Bool} (g : Gl Z a0) {ws : List Cond} {h0 : Heap} {ss : List Addr} (hO : Old Z Z.heap.size h0) {b : Addr} {kb : ClassId} {cs : List Int32} {i : Nat} (AB : Arv Z h0 b kb .byte (Int32.ofNat (cs.length + cs.length)) (u16b cs) (.int 0)) (hl : cs.length < 17) (hC : C16 cs) (hi : i < cs.length) :
    Con l Z consts_1 kn ws (⟨"java/lang/StringUTF16", "charAt", "([BI)C"⟩ : MethodName) jdk_52_method_83_code 2 (some .char) ({ frames := 3, cells := 0, slots := 0, locals := 40 } : Room) #[(.ref b), (.int (Int32.ofNat i))] h0 ss (rV fun v h => h0 = h ∧ v = .int (cs.getD i 0)) := by
  have hw := g.1
  have hEL := g.2.1
  refine Con.of (plainFor_of_name pn_0) hO ?_
  intro p e s m below meth c T0 me W0
  refine Fi.entry (L := #[.val (.ref b), .val (.int (Int32.ofNat i))]) (by first | (simp [entryFrame, mkF, argsToLocals, Value.category, maxLocals]; done) | (simp [entryFrame, mkF, argsToLocals, Value.category]; done) | rfl) ?_
  refine W0.iloadN me d_jdk_52_method_83_0 rfl ?_
  refine W0.aloadN me d_jdk_52_method_83_1 rfl rfl ?_
  show Fi p e below s Z _ _ _ _ T0 (mkF m 2 #[.val (.ref b), .val (.int (Int32.ofNat i))] [(.ref b), (.int (Int32.ofNat i))])
  refine W0.callS me hEL (hw _ (List.mem_of_getElem? (i := 243) rfl)) (hw _ (List.mem_of_getElem? (i := 244) rfl)) (hw _ (List.mem_of_getElem? (i := 22) rfl)) (hw _ (List.mem_of_getElem? (i := 245) rfl)) (argsL := [(.int (Int32.ofNat i)), (.ref b)]) (rest := []) (c_uchk (ss := []) g W0.old AB (by omega) hi) d_jdk_52_method_83_2 (by decide) (fun _ q => nomatch q) rfl (lenOf pd_13 rfl) (own_le rfl) (own_le rfl) (own_le rfl) (own_le rfl) rfl ?_
  intro T1 h1 v1 W1 z1 q1
  obtain ⟨sf1, X1, rfl, rfl⟩ := q1
  show Fi p e below s Z _ _ _ _ T1 (mkF m 5 #[.val (.ref b), .val (.int (Int32.ofNat i))] [])
  refine W1.aloadN me d_jdk_52_method_83_5 rfl rfl ?_
  refine W1.iloadN me d_jdk_52_method_83_6 rfl ?_
  show Fi p e below s Z _ _ _ _ T1 (mkF m 7 #[.val (.ref b), .val (.int (Int32.ofNat i))] [(.int (Int32.ofNat i)), (.ref b)])
  refine W1.callS me hEL (hw _ (List.mem_of_getElem? (i := 209) rfl)) (hw _ (List.mem_of_getElem? (i := 210) rfl)) (hw _ (List.mem_of_getElem? (i := 22) rfl)) (hw _ (List.mem_of_getElem? (i := 211) rfl)) (argsL := [(.ref b), (.int (Int32.ofNat i))]) (rest := []) (c_getchar (ss := []) g W1.old AB hi (by omega) (Nat.le_refl _) (by omega) hC) d_jdk_52_method_83_7 (by decide) (fun _ q => nomatch q) rfl (lenOf pd_8 rfl) (own_le rfl) (own_le rfl) (own_le rfl) (own_le rfl) rfl ?_
  intro T2 h2 v2 W2 z2 q2
  obtain ⟨sf2, X2, _, rfl, rfl, rfl⟩ := q2
  show Fi p e below s Z _ _ _ _ T2 (mkF m 10 #[.val (.ref b), .val (.int (Int32.ofNat i))] [(.int (cs.getD i 0))])
  exact W2.retN hEL me (Or.inr (Or.inr (Or.inl rfl))) d_jdk_52_method_83_10 ⟨rfl, by rw [nar_char_of (hC.at hi)]⟩ (by decide) (by decide)

set_option maxRecDepth 65536 in
set_option maxHeartbeats 4000000 in
theorem c_charE {l : Launch} {Z : State} {a0 : Array Value} {kn : Bool} (g : Gl Z a0) {ws : List Cond} {h0 : Heap} {ss : List Addr} (hO : Old Z Z.heap.size h0) {u vb : Addr} {f : Bool} {ds : List Int32} (L : StB Z h0 u vb f ds) {i : Nat} (hi : i < ds.length) :
    Con l Z consts_1 kn ws (⟨"java/lang/String", "charAt", "(I)C"⟩ : MethodName) jdk_42_method_56_code 2 (some .char) ({ frames := 4, cells := 0, slots := 0, locals := 53 } : Room) #[(.ref u), (.int (Int32.ofNat i))] h0 ss (rV fun v h => h0 = h ∧ v = .int (ds.getD i 0)) := by
  have hw := g.1
  have hEL := g.2.1
  refine Con.of (plainFor_of_name pn_1) hO ?_
  intro p e s m below meth c T0 me W0
  refine Fi.entry (L := #[.val (.ref u), .val (.int (Int32.ofNat i))]) (by first | (simp [entryFrame, mkF, argsToLocals, Value.category, maxLocals]; done) | (simp [entryFrame, mkF, argsToLocals, Value.category]; done) | rfl) ?_
  refine W0.aloadN me d_jdk_42_method_56_0 rfl rfl ?_
  show Fi p e below s Z _ _ _ _ T0 (mkF m 1 #[.val (.ref u), .val (.int (Int32.ofNat i))] [(.ref u)])
  cases f with
  | false =>
    show Fi p e below s Z _ _ _ _ T0 (mkF m 1 #[.val (.ref u), .val (.int (Int32.ofNat i))] [(.ref u)])
    obtain ⟨kb, EX, FC, FV, AB, hl, hok⟩ := L
    refine W0.callV me hEL (hw _ (List.mem_of_getElem? (i := 176) rfl)) (hw _ (List.mem_of_getElem? (i := 177) rfl)) (fun hZ' => notFace_of_selects (args := #[]) (mvT (s := s.setVm _) hZ' (hw _ (List.mem_of_getElem? (i := 179) rfl)))) (hw _ (List.mem_of_getElem? (i := 179) rfl)) (hw _ (List.mem_of_getElem? (i := 178) rfl)) (hw _ (List.mem_of_getElem? (i := 8) rfl)) (hw _ (List.mem_of_getElem? (i := 180) rfl)) (a := u) (argsL := []) (rest := []) EX (c_islat (ss := []) g W0.old FC) d_jdk_42_method_56_1 (by decide) (fun _ q => nomatch q) rfl (lenOf pd_7 rfl) (own_le rfl) (own_le rfl) (own_le rfl) (own_le rfl) rfl ?_
    intro T1 h1 v1 W1 z1 q1
    obtain ⟨sf1, X1, _, rfl, rfl, rfl⟩ := q1
    show Fi p e below s Z _ _ _ _ T1 (mkF m 4 #[.val (.ref u), .val (.int (Int32.ofNat i))] [(.int (1 : Int32))])
    refine W1.ifN_eq me d_jdk_42_method_56_4 (by decide) ?_
    show Fi p e below s Z _ _ _ _ T1 (mkF m 7 #[.val (.ref u), .val (.int (Int32.ofNat i))] [])
    refine W1.aloadN me d_jdk_42_method_56_7 rfl rfl ?_
    show Fi p e below s Z _ _ _ _ T1 (mkF m 8 #[.val (.ref u), .val (.int (Int32.ofNat i))] [(.ref u)])
    refine W1.getF me (hw _ (List.mem_of_getElem? (i := 33) rfl)) FV Via.refl d_jdk_42_method_56_8 ?_
    intro T2 W2
    show Fi p e below s Z _ _ _ _ T2 (mkF m 11 #[.val (.ref u), .val (.int (Int32.ofNat i))] [(.ref vb)])
    refine W2.iloadN me d_jdk_42_method_56_11 rfl ?_
    show Fi p e below s Z _ _ _ _ T2 (mkF m 12 #[.val (.ref u), .val (.int (Int32.ofNat i))] [(.int (Int32.ofNat i)), (.ref vb)])
    refine W2.callS me hEL (hw _ (List.mem_of_getElem? (i := 181) rfl)) (hw _ (List.mem_of_getElem? (i := 182) rfl)) (hw _ (List.mem_of_getElem? (i := 183) rfl)) (hw _ (List.mem_of_getElem? (i := 184) rfl)) (argsL := [(.ref vb), (.int (Int32.ofNat i))]) (rest := []) (c_latat (ss := []) g W2.old AB (Nat.lt_trans hl (by decide)) hok hi) d_jdk_42_method_56_12 (by decide) (fun _ q => nomatch q) rfl (lenOf pd_8 rfl) (own_le rfl) (own_le rfl) (own_le rfl) (own_le rfl) rfl ?_
    intro T3 h3 v3 W3 z3 q3
    obtain ⟨sf3, X3, _, rfl, rfl, rfl⟩ := q3
    show Fi p e below s Z _ _ _ _ T3 (mkF m 15 #[.val (.ref u), .val (.int (Int32.ofNat i))] [(.int (ds.getD i 0))])
    exact W3.retN hEL me (Or.inr (Or.inr (Or.inl rfl))) d_jdk_42_method_56_15 ⟨rfl, by rw [nar_char_of (up16 (C8.at hok hi))]⟩ (by decide) (by decide)
  | true =>
    show Fi p e below s Z _ _ _ _ T0 (mkF m 1 #[.val (.ref u), .val (.int (Int32.ofNat i))] [(.ref u)])
    obtain ⟨kb, EX, FC, FV, AB, hl, hok⟩ := L
    refine W0.callV me hEL (hw _ (List.mem_of_getElem? (i := 176) rfl)) (hw _ (List.mem_of_getElem? (i := 177) rfl)) (fun hZ' => notFace_of_selects (args := #[]) (mvT (s := s.setVm _) hZ' (hw _ (List.mem_of_getElem? (i := 179) rfl)))) (hw _ (List.mem_of_getElem? (i := 179) rfl)) (hw _ (List.mem_of_getElem? (i := 178) rfl)) (hw _ (List.mem_of_getElem? (i := 8) rfl)) (hw _ (List.mem_of_getElem? (i := 180) rfl)) (a := u) (argsL := []) (rest := []) EX (c_islat16 (ss := []) g W0.old FC) d_jdk_42_method_56_1 (by decide) (fun _ q => nomatch q) rfl (lenOf pd_7 rfl) (own_le rfl) (own_le rfl) (own_le rfl) (own_le rfl) rfl ?_
    intro T4 h4 v4 W4 z4 q4
    obtain ⟨sf4, X4, _, rfl, rfl, rfl⟩ := q4
    show Fi p e below s Z _ _ _ _ T4 (mkF m 4 #[.val (.ref u), .val (.int (Int32.ofNat i))] [(.int (0 : Int32))])
    refine W4.ifY_eq me d_jdk_42_method_56_4 (by decide) (pc' := 16) (by decide) (by decide) ?_
    show Fi p e below s Z _ _ _ _ T4 (mkF m 16 #[.val (.ref u), .val (.int (Int32.ofNat i))] [])
    refine W4.aloadN me d_jdk_42_method_56_16 rfl rfl ?_
    show Fi p e below s Z _ _ _ _ T4 (mkF m 17 #[.val (.ref u), .val (.int (Int32.ofNat i))] [(.ref u)])
    refine W4.getF me (hw _ (List.mem_of_getElem? (i := 33) rfl)) FV Via.refl d_jdk_42_method_56_17 ?_
    intro T5 W5
    show Fi p e below s Z _ _ _ _ T5 (mkF m 20 #[.val (.ref u), .val (.int (Int32.ofNat i))] [(.ref vb)])
    refine W5.iloadN me d_jdk_42_method_56_20 rfl ?_
    show Fi p e below s Z _ _ _ _ T5 (mkF m 21 #[.val (.ref u), .val (.int (Int32.ofNat i))] [(.int (Int32.ofNat i)), (.ref vb)])
    refine W5.callS me hEL (hw _ (List.mem_of_getElem? (i := 240) rfl)) (hw _ (List.mem_of_getElem? (i := 241) rfl)) (hw _ (List.mem_of_getElem? (i := 22) rfl)) (hw _ (List.mem_of_getElem? (i := 242) rfl)) (argsL := [(.ref vb), (.int (Int32.ofNat i))]) (rest := []) (c_ucharat (ss := []) g W5.old AB hl hok hi) d_jdk_42_method_56_21 (by decide) (fun _ q => nomatch q) rfl (lenOf pd_8 rfl) (own_le rfl) (own_le rfl) (own_le rfl) (own_le rfl) rfl ?_
    intro T6 h6 v6 W6 z6 q6
    obtain ⟨sf6, X6, _, rfl, rfl, rfl⟩ := q6
    show Fi p e below s Z _ _ _ _ T6 (mkF m 24 #[.val (.ref u), .val (.int (Int32.ofNat i))] [(.int (ds.getD i 0))])
    exact W6.retN hEL me (Or.inr (Or.inr (Or.inl rfl))) d_jdk_42_method_56_24 ⟨rfl, by rw [nar_char_of (C16.at hok hi)]⟩ (by decide) (by decide)

theorem szB_fit (e : Bool) {n m : Nat} (h : n + m ≤ 16) : szB e n + szB e m ≤ szB e 16 ∧ szB e 16 ≤ 32 := by cases e <;> simp only [szB] <;> omega
/-- a StringBuilder whose count isn't set yet -/
def SbP (Z : State) (h : Heap) (a b : Addr) (e : Bool) (n : Nat) (cs : List Int32) : Prop :=
  ∃ k : ClassId, Exa Z h a "java/lang/StringBuilder" ∧ Fld Z h a "java/lang/AbstractStringBuilder" "value" "[B" (.ref b) ∧ Fld Z h a "java/lang/AbstractStringBuilder" "coder" "B" (.int (cdB e)) ∧ Fld Z h a "java/lang/AbstractStringBuilder" "count" "I" (.int (Int32.ofNat n)) ∧ Fld Z h a "java/lang/AbstractStringBuilder" "maybeLatin1" "Z" (.int 0) ∧
    Arv Z h b k .byte (Int32.ofNat (szB e 16)) (encB e cs) (.int 0) ∧ Exa Z h b "[B"
theorem own_ka {h h' : Heap} {a b : Addr} (K : Keep h h' [a]) : Keep h h' [a, b] := ⟨K.1, fun x c q r => K.2.1 x c q (fun z => r (by rw [List.mem_singleton.mp z]; exact List.mem_cons_self ..)), K.2.2⟩

set_option maxRecDepth 65536 in
set_option maxHeartbeats 4000000 in
theorem c_asbinitB {l : Launch} {Z : State} {a0 : Array Value} {kn : Bool} (g : Gl Z a0) {ws : List Cond} {h0 : Heap} {ss : List Addr} (hO : Old Z Z.heap.size h0) {x : Addr} {vv vc : Value} (EX : Exa Z h0 x "java/lang/StringBuilder") (FV : Fld Z h0 x "java/lang/AbstractStringBuilder" "value" "[B" vv) (FC : Fld Z h0 x "java/lang/AbstractStringBuilder" "coder" "B" vc) (FN : Fld Z h0 x "java/lang/AbstractStringBuilder" "count" "I" (.int 0)) (FM : Fld Z h0 x "java/lang/AbstractStringBuilder" "maybeLatin1" "Z" (.int 0)) (hz : Z.heap.size ≤ x) :
    Con l Z consts_1 kn ws (⟨"java/lang/AbstractStringBuilder", "<init>", "(I)V"⟩ : MethodName) jdk_68_method_2_code 2 none ({ frames := 1, cells := 1, slots := 16, locals := 12 } : Room) #[(.ref x), (.int (16 : Int32))] h0 ss (rUs fun h sf => Keep h0 h [x] ∧ ∃ d, h0.size ≤ d ∧ sf d ∧ SbB Z h x d false []) := by
  have hw := g.1
  have hEL := g.2.1
  refine Con.of (plainFor_of_name pn_5) hO ?_
  intro p e s m below meth c T0 me W0
  refine Fi.entry (L := #[.val (.ref x), .val (.int (16 : Int32))]) (by first | (simp [entryFrame, mkF, argsToLocals, Value.category, maxLocals]; done) | (simp [entryFrame, mkF, argsToLocals, Value.category]; done) | rfl) ?_
  have n_value_coder : Jvm.RoadKit.slotOf Z "java/lang/AbstractStringBuilder" "value" "[B" ≠ Jvm.RoadKit.slotOf Z "java/lang/AbstractStringBuilder" "coder" "B" := slot_ne (Or.inl (hw _ (List.mem_of_getElem? (i := 74) rfl)) : Laid Z a0 "java/lang/StringBuilder" "java/lang/AbstractStringBuilder" "value" "[B") (Or.inl (hw _ (List.mem_of_getElem? (i := 76) rfl)) : Laid Z a0 "java/lang/StringBuilder" "java/lang/AbstractStringBuilder" "coder" "B") (by decide) (t := .array .byte) (t' := .byte) (by decide) (by decide)
  have n_value_count : Jvm.RoadKit.slotOf Z "java/lang/AbstractStringBuilder" "value" "[B" ≠ Jvm.RoadKit.slotOf Z "java/lang/AbstractStringBuilder" "count" "I" := slot_ne (Or.inl (hw _ (List.mem_of_getElem? (i := 74) rfl)) : Laid Z a0 "java/lang/StringBuilder" "java/lang/AbstractStringBuilder" "value" "[B") (Or.inl (hw _ (List.mem_of_getElem? (i := 98) rfl)) : Laid Z a0 "java/lang/StringBuilder" "java/lang/AbstractStringBuilder" "count" "I") (by decide) (t := .array .byte) (t' := .int) (by decide) (by decide)
  have n_value_maybeLatin1 : Jvm.RoadKit.slotOf Z "java/lang/AbstractStringBuilder" "value" "[B" ≠ Jvm.RoadKit.slotOf Z "java/lang/AbstractStringBuilder" "maybeLatin1" "Z" := slot_ne (Or.inl (hw _ (List.mem_of_getElem? (i := 74) rfl)) : Laid Z a0 "java/lang/StringBuilder" "java/lang/AbstractStringBuilder" "value" "[B") (Or.inl (hw _ (List.mem_of_getElem? (i := 239) rfl)) : Laid Z a0 "java/lang/StringBuilder" "java/lang/AbstractStringBuilder" "maybeLatin1" "Z") (by decide) (t := .array .byte) (t' := .boolean) (by decide) (by decide)
  have n_coder_count : Jvm.RoadKit.slotOf Z "java/lang/AbstractStringBuilder" "coder" "B" ≠ Jvm.RoadKit.slotOf Z "java/lang/AbstractStringBuilder" "count" "I" := slot_ne (Or.inl (hw _ (List.mem_of_getElem? (i := 76) rfl)) : Laid Z a0 "java/lang/StringBuilder" "java/lang/AbstractStringBuilder" "coder" "B") (Or.inl (hw _ (List.mem_of_getElem? (i := 98) rfl)) : Laid Z a0 "java/lang/StringBuilder" "java/lang/AbstractStringBuilder" "count" "I") (by decide) (t := .byte) (t' := .int) (by decide) (by decide)
  have n_coder_maybeLatin1 : Jvm.RoadKit.slotOf Z "java/lang/AbstractStringBuilder" "coder" "B" ≠ Jvm.RoadKit.slotOf Z "java/lang/AbstractStringBuilder" "maybeLatin1" "Z" := slot_ne (Or.inl (hw _ (List.mem_of_getElem? (i := 76) rfl)) : Laid Z a0 "java/lang/StringBuilder" "java/lang/AbstractStringBuilder" "coder" "B") (Or.inl (hw _ (List.mem_of_getElem? (i := 239) rfl)) : Laid Z a0 "java/lang/StringBuilder" "java/lang/AbstractStringBuilder" "maybeLatin1" "Z") (by decide) (t := .byte) (t' := .boolean) (by decide) (by decide)
  have n_count_maybeLatin1 : Jvm.RoadKit.slotOf Z "java/lang/AbstractStringBuilder" "count" "I" ≠ Jvm.RoadKit.slotOf Z "java/lang/AbstractStringBuilder" "maybeLatin1" "Z" := slot_ne (Or.inl (hw _ (List.mem_of_getElem? (i := 98) rfl)) : Laid Z a0 "java/lang/StringBuilder" "java/lang/AbstractStringBuilder" "count" "I") (Or.inl (hw _ (List.mem_of_getElem? (i := 239) rfl)) : Laid Z a0 "java/lang/StringBuilder" "java/lang/AbstractStringBuilder" "maybeLatin1" "Z") (by decide) (t := .int) (t' := .boolean) (by decide) (by decide)
  have hxlt := own_lt EX.lt
  refine W0.aloadN me d_jdk_68_method_2_0 rfl rfl ?_
  show Fi p e below s Z _ _ _ _ T0 (mkF m 1 #[.val (.ref x), .val (.int (16 : Int32))] [(.ref x)])
  refine W0.initO me (hw _ (List.mem_of_getElem? (i := 71) rfl)) (hw _ (List.mem_of_getElem? (i := 17) rfl)) (hw _ (List.mem_of_getElem? (i := 18) rfl)) d_jdk_68_method_2_1 rfl (own_le rfl) (own_le rfl) ?_
  intro T1 W1
  show Fi p e below s Z _ _ _ _ T1 (mkF m 4 #[.val (.ref x), .val (.int (16 : Int32))] [])
  obtain ⟨G, O2, P2⟩ := g.2.2.1
  refine W1.getS me (hw _ (List.mem_of_getElem? (i := 72) rfl)) O2 Via.refl d_jdk_68_method_2_4 ?_
  intro T2 W2
  show Fi p e below s Z _ _ _ _ T2 (mkF m 7 #[.val (.ref x), .val (.int (16 : Int32))] [(.int G)])
  refine W2.ifN_eq me d_jdk_68_method_2_7 P2 ?_
  refine W2.aloadN me d_jdk_68_method_2_10 rfl rfl ?_
  refine W2.iloadN me d_jdk_68_method_2_11 rfl ?_
  show Fi p e below s Z _ _ _ _ T2 (mkF m 12 #[.val (.ref x), .val (.int (16 : Int32))] [(.int (16 : Int32)), (.ref x)])
  refine W2.newAE me (hw _ (List.mem_of_getElem? (i := 24) rfl)) d_jdk_68_method_2_12 (by decide) (cap := 16) (by decide) (by decide) (own_le rfl) (own_le rfl) (ad := "[B") (by decide) ?_
  intro T3 h3 a3 k3 g3 W3 E3 A3 EB3
  show Fi p e below s Z _ _ _ _ T3 (mkF m 14 #[.val (.ref x), .val (.int (16 : Int32))] [(.ref a3), (.ref x)])
  refine W3.putF me (hw _ (List.mem_of_getElem? (i := 73) rfl)) (FV.ext E3) Via.refl (EX.ext E3) (Or.inl (hw _ (List.mem_of_getElem? (i := 74) rfl))) (hw _ (List.mem_of_getElem? (i := 60) rfl)) (ty := (.array .byte)) (by decide) rfl rfl (Or.inr (Or.inl ⟨"java/lang/StringBuilder", EX.ext E3, by decide, by decide⟩)) hz d_jdk_68_method_2_14 ?_
  intro T4 h4 W4 R4
  show Fi p e below s Z _ _ _ _ T4 (mkF m 17 #[.val (.ref x), .val (.int (16 : Int32))] [])
  refine W4.aloadN me d_jdk_68_method_2_17 rfl rfl ?_
  refine W4.iconst me d_jdk_68_method_2_18 (v := 0) rfl ?_
  show Fi p e below s Z _ _ _ _ T4 (mkF m 19 #[.val (.ref x), .val (.int (16 : Int32))] [(.int (0 : Int32)), (.ref x)])
  refine W4.putF me (hw _ (List.mem_of_getElem? (i := 75) rfl)) ((FC.ext E3).other R4 (Or.inr n_value_coder.symm)) Via.refl ((EX.ext E3).wr R4) (Or.inl (hw _ (List.mem_of_getElem? (i := 76) rfl))) (hw _ (List.mem_of_getElem? (i := 60) rfl)) (ty := .byte) (by decide) rfl rfl (Or.inr (Or.inl ⟨"java/lang/StringBuilder", (EX.ext E3).wr R4, by decide, by decide⟩)) hz d_jdk_68_method_2_19 ?_
  intro T5 h5 W5 R5
  show Fi p e below s Z _ _ _ _ T5 (mkF m 22 #[.val (.ref x), .val (.int (16 : Int32))] [])
  refine W5.goto me d_jdk_68_method_2_22 (pc' := 38) (by decide) (by decide) ?_
  show Fi p e below s Z _ _ _ _ T5 (mkF m 38 #[.val (.ref x), .val (.int (16 : Int32))] [])
  have hne : a3 ≠ x := own_en (by omega)
  have K : Keep h0 h5 [x] := ((own_xK E3 [x]).wr R4 (Or.inl (List.mem_singleton.mpr rfl))).wr R5 (Or.inl (List.mem_singleton.mpr rfl))
  have S : SbB Z h5 x a3 false [] := ⟨k3, ((EX.ext E3).wr R4).wr R5, ((FV.ext E3).same R4).other R5 (Or.inr n_value_coder), ((FC.ext E3).other R4 (Or.inr n_value_coder.symm)).same R5, ((FN.ext E3).other R4 (Or.inr n_value_count.symm)).other R5 (Or.inr n_coder_count.symm), ((FM.ext E3).other R4 (Or.inr n_value_maybeLatin1.symm)).other R5 (Or.inr n_coder_maybeLatin1.symm), (A3.other R4 hne).other R5 hne, (EB3.wr R4).wr R5, by decide, C8.nil⟩
  exact W5.retUs hEL me d_jdk_68_method_2_38 (fun sf q => ⟨K, a3, by omega, q _ (List.mem_cons_self ..), S⟩) (by decide) (by decide)

set_option maxRecDepth 65536 in
set_option maxHeartbeats 4000000 in
theorem c_sbinitB {l : Launch} {Z : State} {a0 : Array Value} {kn : Bool} (g : Gl Z a0) {ws : List Cond} {h0 : Heap} {ss : List Addr} (hO : Old Z Z.heap.size h0) {x : Addr} {vv vc : Value} (EX : Exa Z h0 x "java/lang/StringBuilder") (FV : Fld Z h0 x "java/lang/AbstractStringBuilder" "value" "[B" vv) (FC : Fld Z h0 x "java/lang/AbstractStringBuilder" "coder" "B" vc) (FN : Fld Z h0 x "java/lang/AbstractStringBuilder" "count" "I" (.int 0)) (FM : Fld Z h0 x "java/lang/AbstractStringBuilder" "maybeLatin1" "Z" (.int 0)) (hz : Z.heap.size ≤ x) :
    Con l Z consts_1 kn ws (⟨"java/lang/StringBuilder", "<init>", "()V"⟩ : MethodName) jdk_67_method_1_code 1 none ({ frames := 2, cells := 1, slots := 16, locals := 25 } : Room) #[(.ref x)] h0 ss (rUs fun h sf => Keep h0 h [x] ∧ ∃ d, h0.size ≤ d ∧ sf d ∧ SbB Z h x d false []) := by
  have hw := g.1
  have hEL := g.2.1
  refine Con.of (plainFor_of_name pn_6) hO ?_
  intro p e s m below meth c T0 me W0
  refine Fi.entry (L := #[.val (.ref x)]) (by first | (simp [entryFrame, mkF, argsToLocals, Value.category, maxLocals]; done) | (simp [entryFrame, mkF, argsToLocals, Value.category]; done) | rfl) ?_
  refine W0.aloadN me d_jdk_67_method_1_0 rfl rfl ?_
  refine W0.bipush me d_jdk_67_method_1_1 (v := 16) rfl ?_
  show Fi p e below s Z _ _ _ _ T0 (mkF m 3 #[.val (.ref x)] [(.int (16 : Int32)), (.ref x)])
  refine W0.callI me hEL (hw _ (List.mem_of_getElem? (i := 65) rfl)) (hw _ (List.mem_of_getElem? (i := 66) rfl)) (hw _ (List.mem_of_getElem? (i := 69) rfl)) (hw _ (List.mem_of_getElem? (i := 70) rfl)) rfl (a := x) (argsL := [(.int (16 : Int32))]) (rest := []) (c_asbinitB (ss := []) g W0.old EX FV FC FN FM hz) d_jdk_67_method_1_3 (by decide) (fun _ q => nomatch q) rfl (lenOf pd_14 rfl) (own_le rfl) (own_le rfl) (own_le rfl) (own_le rfl) rfl ?_
  intro T1 h1 v1 W1 z1 q1
  obtain ⟨sf1, X1, rfl, K1, d1, y1, s1, M1⟩ := q1
  show Fi p e below s Z _ _ _ _ T1 (mkF m 6 #[.val (.ref x)] [])
  exact (X1 [d1] (allS s1 all0)).retUs hEL me d_jdk_67_method_1_6 (fun sf q => ⟨K1, d1, y1, q _ (List.mem_cons_self ..), M1⟩) (by decide) (by decide)

set_option maxRecDepth 65536 in
set_option maxHeartbeats 4000000 in
theorem c_ensB {l : Launch} {Z : State} {a0 : Array Value} {kn : Bool} (g : Gl Z a0) {ws : List Cond} {h0 : Heap} {ss : List Addr} (hO : Old Z Z.heap.size h0) {a b : Addr} {ec : Bool} {cs : List Int32} (M : SbB Z h0 a b ec cs) {n : Nat} (hn : n ≤ 16) :
    Con l Z consts_1 kn ws (⟨"java/lang/AbstractStringBuilder", "ensureCapacityInternal", "(I)V"⟩ : MethodName) jdk_68_method_9_code 3 none ({ frames := 0, cells := 0, slots := 0, locals := 0 } : Room) #[(.ref a), (.int (Int32.ofNat n))] h0 ss (rU fun h => h0 = h) := by
  have hw := g.1
  have hEL := g.2.1
  refine Con.of (plainFor_of_name pn_5) hO ?_
  intro p e s m below meth c T0 me W0
  refine Fi.entry (L := #[.val (.ref a), .val (.int (Int32.ofNat n)), .unset]) (by first | (simp [entryFrame, mkF, argsToLocals, Value.category, maxLocals]; done) | (simp [entryFrame, mkF, argsToLocals, Value.category]; done) | rfl) ?_
  obtain ⟨k, EA, FV, FC, FN, FM, AB, EB, hcap, hok⟩ := M
  refine W0.aloadN me d_jdk_68_method_9_0 rfl rfl ?_
  show Fi p e below s Z _ _ _ _ T0 (mkF m 1 #[.val (.ref a), .val (.int (Int32.ofNat n)), .unset] [(.ref a)])
  refine W0.getF me (hw _ (List.mem_of_getElem? (i := 73) rfl)) FV Via.refl d_jdk_68_method_9_1 ?_
  intro T1 W1
  show Fi p e below s Z _ _ _ _ T1 (mkF m 4 #[.val (.ref a), .val (.int (Int32.ofNat n)), .unset] [(.ref b)])
  refine W1.alen me AB d_jdk_68_method_9_4 ?_
  show Fi p e below s Z _ _ _ _ T1 (mkF m 5 #[.val (.ref a), .val (.int (Int32.ofNat n)), .unset] [(.int (Int32.ofNat (szB ec 16)))])
  refine W1.aloadN me d_jdk_68_method_9_5 rfl rfl ?_
  show Fi p e below s Z _ _ _ _ T1 (mkF m 6 #[.val (.ref a), .val (.int (Int32.ofNat n)), .unset] [(.ref a), (.int (Int32.ofNat (szB ec 16)))])
  refine W1.getF me (hw _ (List.mem_of_getElem? (i := 75) rfl)) FC Via.refl d_jdk_68_method_9_6 ?_
  intro T2 W2
  show Fi p e below s Z _ _ _ _ T2 (mkF m 9 #[.val (.ref a), .val (.int (Int32.ofNat n)), .unset] [(.int (cdB ec)), (.int (Int32.ofNat (szB ec 16)))])
  refine W2.ishr me d_jdk_68_method_9_9 ?_
  rw [shrB ec (n := 16) (by decide)]
  show Fi p e below s Z _ _ _ _ T2 (mkF m 10 #[.val (.ref a), .val (.int (Int32.ofNat n)), .unset] [(.int (Int32.ofNat 16))])
  refine W2.istoreN me d_jdk_68_method_9_10 (l' := #[.val (.ref a), .val (.int (Int32.ofNat n)), .val (.int (Int32.ofNat 16))]) rfl ?_
  refine W2.iloadN me d_jdk_68_method_9_11 rfl ?_
  refine W2.iloadN me d_jdk_68_method_9_12 rfl ?_
  refine W2.isub me d_jdk_68_method_9_13 ?_
  show Fi p e below s Z _ _ _ _ T2 (mkF m 14 #[.val (.ref a), .val (.int (Int32.ofNat n)), .val (.int (Int32.ofNat 16))] [(.int ((Int32.ofNat n) - (Int32.ofNat 16)))])
  refine W2.ifY_le me d_jdk_68_method_9_14 (own_suble (by omega) (by omega)) (pc' := 38) (by decide) (by decide) ?_
  show Fi p e below s Z _ _ _ _ T2 (mkF m 38 #[.val (.ref a), .val (.int (Int32.ofNat n)), .val (.int (Int32.ofNat 16))] [])
  exact W2.retU hEL me d_jdk_68_method_9_38 rfl (by decide) (by decide)

set_option maxRecDepth 65536 in
set_option maxHeartbeats 4000000 in
theorem c_asblatB0 {l : Launch} {Z : State} {a0 : Array Value} {kn : Bool} (g : Gl Z a0) {ws : List Cond} {h0 : Heap} {ss : List Addr} (hO : Old Z Z.heap.size h0) {a b : Addr} {cs : List Int32} (M : SbB Z h0 a b false cs) :
    Con l Z consts_1 kn ws (⟨"java/lang/AbstractStringBuilder", "isLatin1", "()Z"⟩ : MethodName) jdk_68_method_68_code 1 (some .boolean) ({ frames := 0, cells := 0, slots := 0, locals := 0 } : Room) #[(.ref a)] h0 ss (rV fun v h => h0 = h ∧ v = .int 1) := by
  have hw := g.1
  have hEL := g.2.1
  refine Con.of (plainFor_of_name pn_5) hO ?_
  intro p e s m below meth c T0 me W0
  refine Fi.entry (L := #[.val (.ref a)]) (by first | (simp [entryFrame, mkF, argsToLocals, Value.category, maxLocals]; done) | (simp [entryFrame, mkF, argsToLocals, Value.category]; done) | rfl) ?_
  obtain ⟨k, EA, FV, FC, FN, FM, AB, EB, hcap, hok⟩ := M
  obtain ⟨G, O2, P2⟩ := g.2.2.1
  refine W0.getS me (hw _ (List.mem_of_getElem? (i := 72) rfl)) O2 Via.refl d_jdk_68_method_68_0 ?_
  intro T1 W1
  show Fi p e below s Z _ _ _ _ T1 (mkF m 3 #[.val (.ref a)] [(.int G)])
  refine W1.ifN_eq me d_jdk_68_method_68_3 P2 ?_
  refine W1.aloadN me d_jdk_68_method_68_6 rfl rfl ?_
  show Fi p e below s Z _ _ _ _ T1 (mkF m 7 #[.val (.ref a)] [(.ref a)])
  refine W1.getF me (hw _ (List.mem_of_getElem? (i := 75) rfl)) FC Via.refl d_jdk_68_method_68_7 ?_
  intro T2 W2
  show Fi p e below s Z _ _ _ _ T2 (mkF m 10 #[.val (.ref a)] [(.int (0 : Int32))])
  show Fi p e below s Z _ _ _ _ T2 (mkF m 10 #[.val (.ref a)] [(.int (0 : Int32))])
  refine W2.ifN_ne me d_jdk_68_method_68_10 (by decide) ?_
  show Fi p e below s Z _ _ _ _ T2 (mkF m 13 #[.val (.ref a)] [])
  refine W2.iconst me d_jdk_68_method_68_13 (v := 1) rfl ?_
  refine W2.goto me d_jdk_68_method_68_14 (pc' := 18) (by decide) (by decide) ?_
  show Fi p e below s Z _ _ _ _ T2 (mkF m 18 #[.val (.ref a)] [(.int (1 : Int32))])
  exact W2.retN hEL me (Or.inl rfl) d_jdk_68_method_68_18 ⟨rfl, rfl⟩ (by decide) (by decide)

set_option maxRecDepth 65536 in
set_option maxHeartbeats 4000000 in
theorem c_asblatB1 {l : Launch} {Z : State} {a0 : Array Value} {kn : Bool} (g : Gl Z a0) {ws : List Cond} {h0 : Heap} {ss : List Addr} (hO : Old Z Z.heap.size h0) {a b : Addr} {cs : List Int32} (M : SbB Z h0 a b true cs) :
    Con l Z consts_1 kn ws (⟨"java/lang/AbstractStringBuilder", "isLatin1", "()Z"⟩ : MethodName) jdk_68_method_68_code 1 (some .boolean) ({ frames := 0, cells := 0, slots := 0, locals := 0 } : Room) #[(.ref a)] h0 ss (rV fun v h => h0 = h ∧ v = .int 0) := by
  have hw := g.1
  have hEL := g.2.1
  refine Con.of (plainFor_of_name pn_5) hO ?_
  intro p e s m below meth c T0 me W0
  refine Fi.entry (L := #[.val (.ref a)]) (by first | (simp [entryFrame, mkF, argsToLocals, Value.category, maxLocals]; done) | (simp [entryFrame, mkF, argsToLocals, Value.category]; done) | rfl) ?_
  obtain ⟨k, EA, FV, FC, FN, FM, AB, EB, hcap, hok⟩ := M
  obtain ⟨G, O2, P2⟩ := g.2.2.1
  refine W0.getS me (hw _ (List.mem_of_getElem? (i := 72) rfl)) O2 Via.refl d_jdk_68_method_68_0 ?_
  intro T1 W1
  show Fi p e below s Z _ _ _ _ T1 (mkF m 3 #[.val (.ref a)] [(.int G)])
  refine W1.ifN_eq me d_jdk_68_method_68_3 P2 ?_
  refine W1.aloadN me d_jdk_68_method_68_6 rfl rfl ?_
  show Fi p e below s Z _ _ _ _ T1 (mkF m 7 #[.val (.ref a)] [(.ref a)])
  refine W1.getF me (hw _ (List.mem_of_getElem? (i := 75) rfl)) FC Via.refl d_jdk_68_method_68_7 ?_
  intro T2 W2
  show Fi p e below s Z _ _ _ _ T2 (mkF m 10 #[.val (.ref a)] [(.int (1 : Int32))])
  show Fi p e below s Z _ _ _ _ T2 (mkF m 10 #[.val (.ref a)] [(.int (1 : Int32))])
  refine W2.ifY_ne me d_jdk_68_method_68_10 (by decide) (pc' := 17) (by decide) (by decide) ?_
  show Fi p e below s Z _ _ _ _ T2 (mkF m 17 #[.val (.ref a)] [])
  refine W2.iconst me d_jdk_68_method_68_17 (v := 0) rfl ?_
  show Fi p e below s Z _ _ _ _ T2 (mkF m 18 #[.val (.ref a)] [(.int (0 : Int32))])
  exact W2.retN hEL me (Or.inl rfl) d_jdk_68_method_68_18 ⟨rfl, rfl⟩ (by decide) (by decide)

set_option maxRecDepth 65536 in
set_option maxHeartbeats 4000000 in
theorem c_fsz {l : Launch} {Z : State} {a0 : Array Value} {kn : Bool} (g : Gl Z a0) {ws : List Cond} {h0 : Heap} {ss : List Addr} (hO : Old Z Z.heap.size h0) {o n : Nat} {G : Value} (rG : G.isRef = true) (ho : o < 17) (hn : n < 17) (hs : o + n ≤ 16) :
    Con l Z consts_1 kn ws (⟨"jdk/internal/util/Preconditions", "checkFromIndexSize", "(IIILjava/util/function/BiFunction;)I"⟩ : MethodName) jdk_41_method_13_code 4 (some .int) ({ frames := 0, cells := 0, slots := 0, locals := 0 } : Room) #[(.int (Int32.ofNat o)), (.int (Int32.ofNat n)), (.int (Int32.ofNat 16)), G] h0 ss (rV fun v h => h0 = h ∧ v = .int (Int32.ofNat o)) := by
  have hw := g.1
  have hEL := g.2.1
  refine Con.of (plainFor_of_name pn_2) hO ?_
  intro p e s m below meth c T0 me W0
  have hcG : G.category = 1 := XT.cat1 rG
  refine Fi.entry (L := #[.val (.int (Int32.ofNat o)), .val (.int (Int32.ofNat n)), .val (.int (Int32.ofNat 16)), .val G]) (by rcases ref_cases rG with rfl | ⟨ga, rfl⟩ <;> simp [entryFrame, mkF, argsToLocals, Value.category]) ?_
  refine W0.iloadN me d_jdk_41_method_13_0 rfl ?_
  refine W0.iloadN me d_jdk_41_method_13_1 rfl ?_
  refine W0.ior me d_jdk_41_method_13_2 ?_
  refine W0.iloadN me d_jdk_41_method_13_3 rfl ?_
  refine W0.ior me d_jdk_41_method_13_4 ?_
  show Fi p e below s Z _ _ _ _ T0 (mkF m 5 #[.val (.int (Int32.ofNat o)), .val (.int (Int32.ofNat n)), .val (.int (Int32.ofNat 16)), .val G] [(.int (((Int32.ofNat 16) ||| (Int32.ofNat o)) ||| (Int32.ofNat n)))])
  refine W0.ifN_lt me d_jdk_41_method_13_5 (own_or3 ho hn) ?_
  show Fi p e below s Z _ _ _ _ T0 (mkF m 8 #[.val (.int (Int32.ofNat o)), .val (.int (Int32.ofNat n)), .val (.int (Int32.ofNat 16)), .val G] [])
  refine W0.iloadN me d_jdk_41_method_13_8 rfl ?_
  refine W0.iloadN me d_jdk_41_method_13_9 rfl ?_
  refine W0.iloadN me d_jdk_41_method_13_10 rfl ?_
  show Fi p e below s Z _ _ _ _ T0 (mkF m 11 #[.val (.int (Int32.ofNat o)), .val (.int (Int32.ofNat n)), .val (.int (Int32.ofNat 16)), .val G] [(.int (Int32.ofNat o)), (.int (Int32.ofNat 16)), (.int (Int32.ofNat n))])
  refine W0.isub me d_jdk_41_method_13_11 ?_
  rw [on_sub (by omega)]
  show Fi p e below s Z _ _ _ _ T0 (mkF m 12 #[.val (.int (Int32.ofNat o)), .val (.int (Int32.ofNat n)), .val (.int (Int32.ofNat 16)), .val G] [(.int (Int32.ofNat (16 - o))), (.int (Int32.ofNat n))])
  refine W0.icY_le me d_jdk_41_method_13_12 (on_nlt (by omega) (by omega)) (pc' := 23) (by decide) (by decide) ?_
  show Fi p e below s Z _ _ _ _ T0 (mkF m 23 #[.val (.int (Int32.ofNat o)), .val (.int (Int32.ofNat n)), .val (.int (Int32.ofNat 16)), .val G] [])
  refine W0.iloadN me d_jdk_41_method_13_23 rfl ?_
  show Fi p e below s Z _ _ _ _ T0 (mkF m 24 #[.val (.int (Int32.ofNat o)), .val (.int (Int32.ofNat n)), .val (.int (Int32.ofNat 16)), .val G] [(.int (Int32.ofNat o))])
  exact W0.retI hEL me d_jdk_41_method_13_24 ⟨rfl, rfl⟩ (by decide) (by decide)

set_option maxRecDepth 65536 in
set_option maxHeartbeats 4000000 in
theorem c_scbo {l : Launch} {Z : State} {a0 : Array Value} {kn : Bool} (g : Gl Z a0) {ws : List Cond} {h0 : Heap} {ss : List Addr} (hO : Old Z Z.heap.size h0) {o n : Nat} (hs : o + n ≤ 16) :
    Con l Z consts_1 kn ws (⟨"java/lang/String", "checkBoundsOffCount", "(III)I"⟩ : MethodName) jdk_42_method_157_code 3 (some .int) ({ frames := 1, cells := 0, slots := 0, locals := 15 } : Room) #[(.int (Int32.ofNat o)), (.int (Int32.ofNat n)), (.int (Int32.ofNat 16))] h0 ss (rV fun v h => h0 = h ∧ v = .int (Int32.ofNat o)) := by
  have hw := g.1
  have hEL := g.2.1
  refine Con.of (plainFor_of_name pn_1) hO ?_
  intro p e s m below meth c T0 me W0
  refine Fi.entry (L := #[.val (.int (Int32.ofNat o)), .val (.int (Int32.ofNat n)), .val (.int (Int32.ofNat 16))]) (by first | (simp [entryFrame, mkF, argsToLocals, Value.category, maxLocals]; done) | (simp [entryFrame, mkF, argsToLocals, Value.category]; done) | rfl) ?_
  obtain ⟨G, O3, rG⟩ := g.2.2.2.1
  refine W0.iloadN me d_jdk_42_method_157_0 rfl ?_
  refine W0.iloadN me d_jdk_42_method_157_1 rfl ?_
  refine W0.iloadN me d_jdk_42_method_157_2 rfl ?_
  show Fi p e below s Z _ _ _ _ T0 (mkF m 3 #[.val (.int (Int32.ofNat o)), .val (.int (Int32.ofNat n)), .val (.int (Int32.ofNat 16))] [(.int (Int32.ofNat 16)), (.int (Int32.ofNat n)), (.int (Int32.ofNat o))])
  refine W0.getS me (hw _ (List.mem_of_getElem? (i := 188) rfl)) O3 Via.refl d_jdk_42_method_157_3 ?_
  intro T1 W1
  show Fi p e below s Z _ _ _ _ T1 (mkF m 6 #[.val (.int (Int32.ofNat o)), .val (.int (Int32.ofNat n)), .val (.int (Int32.ofNat 16))] [G, (.int (Int32.ofNat 16)), (.int (Int32.ofNat n)), (.int (Int32.ofNat o))])
  refine W1.callS me hEL (hw _ (List.mem_of_getElem? (i := 234) rfl)) (hw _ (List.mem_of_getElem? (i := 235) rfl)) (hw _ (List.mem_of_getElem? (i := 189) rfl)) (hw _ (List.mem_of_getElem? (i := 236) rfl)) (argsL := [(.int (Int32.ofNat o)), (.int (Int32.ofNat n)), (.int (Int32.ofNat 16)), G]) (rest := []) (c_fsz (ss := []) g W1.old rG (by omega) (by omega) hs) d_jdk_42_method_157_6 (by decide) (fun _ q => nomatch q) rfl (lenOf pd_15 rfl) (own_le rfl) (own_le rfl) (own_le rfl) (own_le rfl) rfl ?_
  intro T2 h2 v2 W2 z2 q2
  obtain ⟨sf2, X2, _, rfl, rfl, rfl⟩ := q2
  show Fi p e below s Z _ _ _ _ T2 (mkF m 9 #[.val (.int (Int32.ofNat o)), .val (.int (Int32.ofNat n)), .val (.int (Int32.ofNat 16))] [(.int (Int32.ofNat o))])
  exact W2.retI hEL me d_jdk_42_method_157_9 ⟨rfl, rfl⟩ (by decide) (by decide)

set_option maxRecDepth 65536 in
set_option maxHeartbeats 4000000 in
theorem c_ucbo {l : Launch} {Z : State} {a0 : Array Value} {kn : Bool} (g : Gl Z a0) {ws : List Cond} {h0 : Heap} {ss : List Addr} (hO : Old Z Z.heap.size h0) {o n : Nat} {d : Addr} {kd : ClassId} {vs : List Value} {dv : Value} (A : Arv Z h0 d kd .byte (Int32.ofNat (16 + 16)) vs dv) (hs : o + n ≤ 16) :
    Con l Z consts_1 kn ws (⟨"java/lang/StringUTF16", "checkBoundsOffCount", "(II[B)V"⟩ : MethodName) jdk_52_method_94_code 3 none ({ frames := 2, cells := 0, slots := 0, locals := 29 } : Room) #[(.int (Int32.ofNat o)), (.int (Int32.ofNat n)), (.ref d)] h0 ss (rU fun h => h0 = h) := by
  have hw := g.1
  have hEL := g.2.1
  refine Con.of (plainFor_of_name pn_0) hO ?_
  intro p e s m below meth c T0 me W0
  refine Fi.entry (L := #[.val (.int (Int32.ofNat o)), .val (.int (Int32.ofNat n)), .val (.ref d)]) (by first | (simp [entryFrame, mkF, argsToLocals, Value.category, maxLocals]; done) | (simp [entryFrame, mkF, argsToLocals, Value.category]; done) | rfl) ?_
  refine W0.iloadN me d_jdk_52_method_94_0 rfl ?_
  refine W0.iloadN me d_jdk_52_method_94_1 rfl ?_
  refine W0.aloadN me d_jdk_52_method_94_2 rfl rfl ?_
  show Fi p e below s Z _ _ _ _ T0 (mkF m 3 #[.val (.int (Int32.ofNat o)), .val (.int (Int32.ofNat n)), .val (.ref d)] [(.ref d), (.int (Int32.ofNat n)), (.int (Int32.ofNat o))])
  refine W0.callS me hEL (hw _ (List.mem_of_getElem? (i := 228) rfl)) (hw _ (List.mem_of_getElem? (i := 229) rfl)) (hw _ (List.mem_of_getElem? (i := 22) rfl)) (hw _ (List.mem_of_getElem? (i := 230) rfl)) (argsL := [(.ref d)]) (rest := [(.int (Int32.ofNat n)), (.int (Int32.ofNat o))]) (c_ulen (ss := []) g W0.old (n := 16) A (by decide)) d_jdk_52_method_94_3 (by decide) (fun _ q => nomatch q) rfl (lenOf pd_12 rfl) (own_le rfl) (own_le rfl) (own_le rfl) (own_le rfl) rfl ?_
  intro T1 h1 v1 W1 z1 q1
  obtain ⟨sf1, X1, _, rfl, rfl, rfl⟩ := q1
  show Fi p e below s Z _ _ _ _ T1 (mkF m 6 #[.val (.int (Int32.ofNat o)), .val (.int (Int32.ofNat n)), .val (.ref d)] [(.int (Int32.ofNat 16)), (.int (Int32.ofNat n)), (.int (Int32.ofNat o))])
  refine W1.callS me hEL (hw _ (List.mem_of_getElem? (i := 231) rfl)) (hw _ (List.mem_of_getElem? (i := 232) rfl)) (hw _ (List.mem_of_getElem? (i := 8) rfl)) (hw _ (List.mem_of_getElem? (i := 233) rfl)) (argsL := [(.int (Int32.ofNat o)), (.int (Int32.ofNat n)), (.int (Int32.ofNat 16))]) (rest := []) (c_scbo (ss := []) g W1.old hs) d_jdk_52_method_94_6 (by decide) (fun _ q => nomatch q) rfl (lenOf pd_16 rfl) (own_le rfl) (own_le rfl) (own_le rfl) (own_le rfl) rfl ?_
  intro T2 h2 v2 W2 z2 q2
  obtain ⟨sf2, X2, _, rfl, rfl, rfl⟩ := q2
  show Fi p e below s Z _ _ _ _ T2 (mkF m 9 #[.val (.int (Int32.ofNat o)), .val (.int (Int32.ofNat n)), .val (.ref d)] [(.int (Int32.ofNat o))])
  refine W2.pop me d_jdk_52_method_94_9 rfl ?_
  show Fi p e below s Z _ _ _ _ T2 (mkF m 10 #[.val (.int (Int32.ofNat o)), .val (.int (Int32.ofNat n)), .val (.ref d)] [])
  exact W2.retU hEL me d_jdk_52_method_94_10 rfl (by decide) (by decide)

set_option maxRecDepth 65536 in
set_option maxHeartbeats 4000000 in
theorem c_uinfl {l : Launch} {Z : State} {a0 : Array Value} {kn : Bool} (g : Gl Z a0) {ws : List Cond} {h0 : Heap} {ss : List Addr} (hO : Old Z Z.heap.size h0) {b d : Addr} {kb kd : ClassId} {cs xs : List Int32} {o N : Nat} (AB : Arv Z h0 b kb .byte (Int32.ofNat N) (lb cs) (.int 0)) (A0 : Arv Z h0 d kd .byte (Int32.ofNat (16 + 16)) (u16b xs) (.int 0)) (ho : xs.length = o) (hs : o + cs.length ≤ 16) (hN : cs.length ≤ N) (hN2 : N < 2 ^ 20) (hne : b ≠ d) (hC8 : C8 cs) (hS : d ∈ ss) (hz : Z.heap.size ≤ d) :
    Con l Z consts_1 kn ws (⟨"java/lang/StringUTF16", "inflate", "([BI[BII)V"⟩ : MethodName) jdk_52_method_86_code 6 none ({ frames := 3, cells := 0, slots := 0, locals := 43 } : Room) #[(.ref b), (.int (0 : Int32)), (.ref d), (.int (Int32.ofNat o)), (.int (Int32.ofNat cs.length))] h0 ss (rU fun h => Keep h0 h [d] ∧ Arv Z h d kd .byte (Int32.ofNat (16 + 16)) (u16b (xs ++ cs)) (.int 0)) := by
  have hw := g.1
  have hEL := g.2.1
  refine Con.of (plainFor_of_name pn_0) hO ?_
  intro p e s m below meth c T0 me W0
  refine Fi.entry (L := #[.val (.ref b), .val (.int (0 : Int32)), .val (.ref d), .val (.int (Int32.ofNat o)), .val (.int (Int32.ofNat cs.length)), .unset]) (by first | (simp [entryFrame, mkF, argsToLocals, Value.category, maxLocals]; done) | (simp [entryFrame, mkF, argsToLocals, Value.category]; done) | rfl) ?_
  refine W0.iloadN me d_jdk_52_method_86_0 rfl ?_
  refine W0.iload me d_jdk_52_method_86_1 rfl ?_
  refine W0.aloadN me d_jdk_52_method_86_3 rfl rfl ?_
  show Fi p e below s Z _ _ _ _ T0 (mkF m 4 #[.val (.ref b), .val (.int (0 : Int32)), .val (.ref d), .val (.int (Int32.ofNat o)), .val (.int (Int32.ofNat cs.length)), .unset] [(.ref d), (.int (Int32.ofNat cs.length)), (.int (Int32.ofNat o))])
  refine W0.callS me hEL (hw _ (List.mem_of_getElem? (i := 225) rfl)) (hw _ (List.mem_of_getElem? (i := 226) rfl)) (hw _ (List.mem_of_getElem? (i := 22) rfl)) (hw _ (List.mem_of_getElem? (i := 227) rfl)) (argsL := [(.int (Int32.ofNat o)), (.int (Int32.ofNat cs.length)), (.ref d)]) (rest := []) (c_ucbo (ss := []) g W0.old A0 hs) d_jdk_52_method_86_4 (by decide) (fun _ q => nomatch q) rfl (lenOf pd_17 rfl) (own_le rfl) (own_le rfl) (own_le rfl) (own_le rfl) rfl ?_
  intro T1 h1 v1 W1 z1 q1
  obtain ⟨sf1, X1, rfl, rfl⟩ := q1
  show Fi p e below s Z _ _ _ _ T1 (mkF m 7 #[.val (.ref b), .val (.int (0 : Int32)), .val (.ref d), .val (.int (Int32.ofNat o)), .val (.int (Int32.ofNat cs.length)), .unset] [])
  have loop : ∀ (r i : Nat) (TL : State) (hL : Heap), i + r = cs.length → Wk p l e ({ frames := 3, cells := 0, slots := 0, locals := 43 } : Room) s m #[(.ref b), (.int (0 : Int32)), (.ref d), (.int (Int32.ofNat o)), (.int (Int32.ofNat cs.length))] below meth c Z consts_1 kn "java/lang/StringUTF16" TL hL ss 0 0 → Keep h0 hL [d] → Arv Z hL d kd .byte (Int32.ofNat (16 + 16)) (u16b (xs ++ cs.take i)) (.int 0) →
      Fi p e below s Z consts_1 0 0 (rU fun h => Keep h0 h [d] ∧ Arv Z h d kd .byte (Int32.ofNat (16 + 16)) (u16b (xs ++ cs)) (.int 0)) TL (mkF m 10 #[.val (.ref b), .val (.int (Int32.ofNat i)), .val (.ref d), .val (.int (Int32.ofNat (o + i))), .val (.int (Int32.ofNat cs.length)), .val (.int (Int32.ofNat i))] []) := by
    intro r
    induction r with
    | zero =>
      intro i TL hL hi WL K A
      refine WL.iload me d_jdk_52_method_86_10 rfl ?_
      refine WL.iload me d_jdk_52_method_86_12 rfl ?_
      show Fi p e below s Z _ _ _ _ TL (mkF m 14 #[.val (.ref b), .val (.int (Int32.ofNat i)), .val (.ref d), .val (.int (Int32.ofNat (o + i))), .val (.int (Int32.ofNat cs.length)), .val (.int (Int32.ofNat i))] [(.int (Int32.ofNat cs.length)), (.int (Int32.ofNat i))])
      refine WL.icY_ge me d_jdk_52_method_86_14 (on_nlt (by omega) (by omega)) (pc' := 41) (by decide) (by decide) ?_
      show Fi p e below s Z _ _ _ _ TL (mkF m 41 #[.val (.ref b), .val (.int (Int32.ofNat i)), .val (.ref d), .val (.int (Int32.ofNat (o + i))), .val (.int (Int32.ofNat cs.length)), .val (.int (Int32.ofNat i))] [])
      have e1 : cs.take i = cs := List.take_of_length_le (by omega)
      rw [e1] at A
      exact WL.retU hEL me d_jdk_52_method_86_41 ⟨K, A⟩ (by decide) (by decide)
    | succ r ih =>
      intro i TL hL hi WL K A
      refine WL.iload me d_jdk_52_method_86_10 rfl ?_
      refine WL.iload me d_jdk_52_method_86_12 rfl ?_
      show Fi p e below s Z _ _ _ _ TL (mkF m 14 #[.val (.ref b), .val (.int (Int32.ofNat i)), .val (.ref d), .val (.int (Int32.ofNat (o + i))), .val (.int (Int32.ofNat cs.length)), .val (.int (Int32.ofNat i))] [(.int (Int32.ofNat cs.length)), (.int (Int32.ofNat i))])
      have hlt : i < cs.length := by omega
      have Ab := AB.keep K (ninS hne nin0)
      refine WL.icN_ge me d_jdk_52_method_86_14 (on_lt hlt (by omega)) ?_
      show Fi p e below s Z _ _ _ _ TL (mkF m 17 #[.val (.ref b), .val (.int (Int32.ofNat i)), .val (.ref d), .val (.int (Int32.ofNat (o + i))), .val (.int (Int32.ofNat cs.length)), .val (.int (Int32.ofNat i))] [])
      refine WL.aloadN me d_jdk_52_method_86_17 rfl rfl ?_
      refine WL.iloadN me d_jdk_52_method_86_18 rfl ?_
      show Fi p e below s Z _ _ _ _ TL (mkF m 19 #[.val (.ref b), .val (.int (Int32.ofNat i)), .val (.ref d), .val (.int (Int32.ofNat (o + i))), .val (.int (Int32.ofNat cs.length)), .val (.int (Int32.ofNat i))] [(.int (Int32.ofNat (o + i))), (.ref d)])
      refine WL.iinc me d_jdk_52_method_86_19 (v := 1) rfl rfl (l' := #[.val (.ref b), .val (.int (Int32.ofNat i)), .val (.ref d), .val (.int ((Int32.ofNat (o + i)) + (1 : Int32))), .val (.int (Int32.ofNat cs.length)), .val (.int (Int32.ofNat i))]) rfl ?_
      rw [on_succ]
      show Fi p e below s Z _ _ _ _ TL (mkF m 22 #[.val (.ref b), .val (.int (Int32.ofNat i)), .val (.ref d), .val (.int (Int32.ofNat (o + i + 1))), .val (.int (Int32.ofNat cs.length)), .val (.int (Int32.ofNat i))] [(.int (Int32.ofNat (o + i))), (.ref d)])
      refine WL.aloadN me d_jdk_52_method_86_22 rfl rfl ?_
      refine WL.iloadN me d_jdk_52_method_86_23 rfl ?_
      show Fi p e below s Z _ _ _ _ TL (mkF m 24 #[.val (.ref b), .val (.int (Int32.ofNat i)), .val (.ref d), .val (.int (Int32.ofNat (o + i + 1))), .val (.int (Int32.ofNat cs.length)), .val (.int (Int32.ofNat i))] [(.int (Int32.ofNat i)), (.ref b), (.int (Int32.ofNat (o + i))), (.ref d)])
      refine WL.iinc me d_jdk_52_method_86_24 (v := 1) rfl rfl (l' := #[.val (.ref b), .val (.int ((Int32.ofNat i) + (1 : Int32))), .val (.ref d), .val (.int (Int32.ofNat (o + i + 1))), .val (.int (Int32.ofNat cs.length)), .val (.int (Int32.ofNat i))]) rfl ?_
      rw [on_succ]
      show Fi p e below s Z _ _ _ _ TL (mkF m 27 #[.val (.ref b), .val (.int (Int32.ofNat (i + 1))), .val (.ref d), .val (.int (Int32.ofNat (o + i + 1))), .val (.int (Int32.ofNat cs.length)), .val (.int (Int32.ofNat i))] [(.int (Int32.ofNat i)), (.ref b), (.int (Int32.ofNat (o + i))), (.ref d)])
      refine WL.baload me Ab d_jdk_52_method_86_27 (on_in (by omega) (by omega)) (v := .int (cs.getD i 0).toInt8.toInt32) (by rw [on_clamp (by omega), lb_get hlt]) ?_
      show Fi p e below s Z _ _ _ _ TL (mkF m 28 #[.val (.ref b), .val (.int (Int32.ofNat (i + 1))), .val (.ref d), .val (.int (Int32.ofNat (o + i + 1))), .val (.int (Int32.ofNat cs.length)), .val (.int (Int32.ofNat i))] [(.int (cs.getD i 0).toInt8.toInt32), (.int (Int32.ofNat (o + i))), (.ref d)])
      refine WL.sipush me d_jdk_52_method_86_28 (v := 255) rfl ?_
      refine WL.iand me d_jdk_52_method_86_31 ?_
      show Fi p e below s Z _ _ _ _ TL (mkF m 32 #[.val (.ref b), .val (.int (Int32.ofNat (i + 1))), .val (.ref d), .val (.int (Int32.ofNat (o + i + 1))), .val (.int (Int32.ofNat cs.length)), .val (.int (Int32.ofNat i))] [(.int ((cs.getD i 0).toInt8.toInt32 &&& (255 : Int32))), (.int (Int32.ofNat (o + i))), (.ref d)])
      rw [byte_back (hC8.at hlt)]
      show Fi p e below s Z _ _ _ _ TL (mkF m 32 #[.val (.ref b), .val (.int (Int32.ofNat (i + 1))), .val (.ref d), .val (.int (Int32.ofNat (o + i + 1))), .val (.int (Int32.ofNat cs.length)), .val (.int (Int32.ofNat i))] [(.int (cs.getD i 0)), (.int (Int32.ofNat (o + i))), (.ref d)])
      refine WL.callS me hEL (hw _ (List.mem_of_getElem? (i := 203) rfl)) (hw _ (List.mem_of_getElem? (i := 204) rfl)) (hw _ (List.mem_of_getElem? (i := 22) rfl)) (hw _ (List.mem_of_getElem? (i := 205) rfl)) (argsL := [(.ref d), (.int (Int32.ofNat (o + i))), (.int (cs.getD i 0))]) (rest := []) (c_putchar g WL.old A (by rw [List.length_append, List.length_take]; omega) (by omega) (by omega) (by decide) hS hz) d_jdk_52_method_86_32 (by decide) (fun _ q => q) rfl (lenOf pd_11 rfl) (own_le rfl) (own_le rfl) (own_le rfl) (own_le rfl) rfl ?_
      intro T7 h7 v7 W7 z7 q7
      obtain ⟨sf7, X7, rfl, K7, A7⟩ := q7
      show Fi p e below s Z _ _ _ _ T7 (mkF m 35 #[.val (.ref b), .val (.int (Int32.ofNat (i + 1))), .val (.ref d), .val (.int (Int32.ofNat (o + i + 1))), .val (.int (Int32.ofNat cs.length)), .val (.int (Int32.ofNat i))] [])
      show Fi p e below s Z _ _ _ _ T7 (mkF m 35 #[.val (.ref b), .val (.int (Int32.ofNat (i + 1))), .val (.ref d), .val (.int (Int32.ofNat (o + i + 1))), .val (.int (Int32.ofNat cs.length)), .val (.int (Int32.ofNat i))] [])
      refine W7.iinc me d_jdk_52_method_86_35 (v := 1) rfl rfl (l' := #[.val (.ref b), .val (.int (Int32.ofNat (i + 1))), .val (.ref d), .val (.int (Int32.ofNat (o + i + 1))), .val (.int (Int32.ofNat cs.length)), .val (.int ((Int32.ofNat i) + (1 : Int32)))]) rfl ?_
      rw [on_succ]
      show Fi p e below s Z _ _ _ _ T7 (mkF m 38 #[.val (.ref b), .val (.int (Int32.ofNat (i + 1))), .val (.ref d), .val (.int (Int32.ofNat (o + i + 1))), .val (.int (Int32.ofNat cs.length)), .val (.int (Int32.ofNat (i + 1)))] [])
      refine W7.goto me d_jdk_52_method_86_38 (pc' := 10) (by decide) (by decide) ?_
      show Fi p e below s Z _ _ _ _ T7 (mkF m 10 #[.val (.ref b), .val (.int (Int32.ofNat (i + 1))), .val (.ref d), .val (.int (Int32.ofNat (o + i + 1))), .val (.int (Int32.ofNat cs.length)), .val (.int (Int32.ofNat (i + 1)))] [])
      exact ih (i + 1) T7 h7 (by omega) W7 (K.trans K7 (fun x hx => Or.inl hx)) (by rw [List.append_assoc, take_snoc hlt] at A7; exact A7)
  refine W1.iconst me d_jdk_52_method_86_7 (v := 0) rfl ?_
  refine W1.istore me d_jdk_52_method_86_8 (l' := #[.val (.ref b), .val (.int (0 : Int32)), .val (.ref d), .val (.int (Int32.ofNat o)), .val (.int (Int32.ofNat cs.length)), .val (.int (0 : Int32))]) rfl ?_
  show Fi p e below s Z _ _ _ _ T1 (mkF m 10 #[.val (.ref b), .val (.int (0 : Int32)), .val (.ref d), .val (.int (Int32.ofNat o)), .val (.int (Int32.ofNat cs.length)), .val (.int (0 : Int32))] [])
  exact loop cs.length 0 T1 h0 (by omega) W1 (Keep.refl _ _) (by rw [List.take_zero, List.append_nil]; exact A0)

set_option maxRecDepth 65536 in
set_option maxHeartbeats 4000000 in
theorem c_linfl {l : Launch} {Z : State} {a0 : Array Value} {kn : Bool} (g : Gl Z a0) {ws : List Cond} {h0 : Heap} {ss : List Addr} (hO : Old Z Z.heap.size h0) {b d : Addr} {kb kd : ClassId} {cs xs : List Int32} {o N : Nat} (AB : Arv Z h0 b kb .byte (Int32.ofNat N) (lb cs) (.int 0)) (A0 : Arv Z h0 d kd .byte (Int32.ofNat (16 + 16)) (u16b xs) (.int 0)) (ho : xs.length = o) (hs : o + cs.length ≤ 16) (hN : cs.length ≤ N) (hN2 : N < 2 ^ 20) (hne : b ≠ d) (hC8 : C8 cs) (hS : d ∈ ss) (hz : Z.heap.size ≤ d) :
    Con l Z consts_1 kn ws (⟨"java/lang/StringLatin1", "inflate", "([BI[BII)V"⟩ : MethodName) jdk_43_method_50_code 5 none ({ frames := 4, cells := 0, slots := 0, locals := 60 } : Room) #[(.ref b), (.int (0 : Int32)), (.ref d), (.int (Int32.ofNat o)), (.int (Int32.ofNat cs.length))] h0 ss (rU fun h => Keep h0 h [d] ∧ Arv Z h d kd .byte (Int32.ofNat (16 + 16)) (u16b (xs ++ cs)) (.int 0)) := by
  have hw := g.1
  have hEL := g.2.1
  refine Con.of (plainFor_of_name pn_3) hO ?_
  intro p e s m below meth c T0 me W0
  refine Fi.entry (L := #[.val (.ref b), .val (.int (0 : Int32)), .val (.ref d), .val (.int (Int32.ofNat o)), .val (.int (Int32.ofNat cs.length))]) (by first | (simp [entryFrame, mkF, argsToLocals, Value.category, maxLocals]; done) | (simp [entryFrame, mkF, argsToLocals, Value.category]; done) | rfl) ?_
  refine W0.aloadN me d_jdk_43_method_50_0 rfl rfl ?_
  refine W0.iloadN me d_jdk_43_method_50_1 rfl ?_
  refine W0.aloadN me d_jdk_43_method_50_2 rfl rfl ?_
  refine W0.iloadN me d_jdk_43_method_50_3 rfl ?_
  refine W0.iload me d_jdk_43_method_50_4 rfl ?_
  show Fi p e below s Z _ _ _ _ T0 (mkF m 6 #[.val (.ref b), .val (.int (0 : Int32)), .val (.ref d), .val (.int (Int32.ofNat o)), .val (.int (Int32.ofNat cs.length))] [(.int (Int32.ofNat cs.length)), (.int (Int32.ofNat o)), (.ref d), (.int (0 : Int32)), (.ref b)])
  refine W0.callS me hEL (hw _ (List.mem_of_getElem? (i := 222) rfl)) (hw _ (List.mem_of_getElem? (i := 223) rfl)) (hw _ (List.mem_of_getElem? (i := 22) rfl)) (hw _ (List.mem_of_getElem? (i := 224) rfl)) (argsL := [(.ref b), (.int (0 : Int32)), (.ref d), (.int (Int32.ofNat o)), (.int (Int32.ofNat cs.length))]) (rest := []) (c_uinfl g W0.old AB A0 ho hs hN hN2 hne hC8 hS hz) d_jdk_43_method_50_6 (by decide) (fun _ q => q) rfl (lenOf pd_18 rfl) (own_le rfl) (own_le rfl) (own_le rfl) (own_le rfl) rfl ?_
  intro T1 h1 v1 W1 z1 q1
  obtain ⟨sf1, X1, rfl, K1, A1⟩ := q1
  show Fi p e below s Z _ _ _ _ T1 (mkF m 9 #[.val (.ref b), .val (.int (0 : Int32)), .val (.ref d), .val (.int (Int32.ofNat o)), .val (.int (Int32.ofNat cs.length))] [])
  exact W1.retU hEL me d_jdk_43_method_50_9 ⟨K1, A1⟩ (by decide) (by decide)

set_option maxRecDepth 65536 in
set_option maxHeartbeats 4000000 in
theorem c_infl1 {l : Launch} {Z : State} {a0 : Array Value} {kn : Bool} (g : Gl Z a0) {ws : List Cond} {h0 : Heap} {ss : List Addr} (hO : Old Z Z.heap.size h0) {a b : Addr} {cs : List Int32} (M : SbB Z h0 a b true cs) :
    Con l Z consts_1 kn ws (⟨"java/lang/AbstractStringBuilder", "inflate", "()V"⟩ : MethodName) jdk_68_method_11_code 2 none ({ frames := 1, cells := 0, slots := 0, locals := 12 } : Room) #[(.ref a)] h0 ss (rU fun h => h0 = h) := by
  have hw := g.1
  have hEL := g.2.1
  refine Con.of (plainFor_of_name pn_5) hO ?_
  intro p e s m below meth c T0 me W0
  refine Fi.entry (L := #[.val (.ref a), .unset]) (by first | (simp [entryFrame, mkF, argsToLocals, Value.category, maxLocals]; done) | (simp [entryFrame, mkF, argsToLocals, Value.category]; done) | rfl) ?_
  refine W0.aloadN me d_jdk_68_method_11_0 rfl rfl ?_
  show Fi p e below s Z _ _ _ _ T0 (mkF m 1 #[.val (.ref a), .unset] [(.ref a)])
  refine W0.callV me hEL (hw _ (List.mem_of_getElem? (i := 217) rfl)) (hw _ (List.mem_of_getElem? (i := 151) rfl)) (fun hZ' => notFace_of_selects (args := #[]) (mvT (s := s.setVm _) hZ' (hw _ (List.mem_of_getElem? (i := 153) rfl)))) (hw _ (List.mem_of_getElem? (i := 153) rfl)) (hw _ (List.mem_of_getElem? (i := 152) rfl)) (hw _ (List.mem_of_getElem? (i := 69) rfl)) (hw _ (List.mem_of_getElem? (i := 154) rfl)) (a := a) (argsL := []) (rest := []) M.exa (c_asblatB1 (ss := []) g W0.old M) d_jdk_68_method_11_1 (by decide) (fun _ q => nomatch q) rfl (lenOf pd_7 rfl) (own_le rfl) (own_le rfl) (own_le rfl) (own_le rfl) rfl ?_
  intro T1 h1 v1 W1 z1 q1
  obtain ⟨sf1, X1, _, rfl, rfl, rfl⟩ := q1
  show Fi p e below s Z _ _ _ _ T1 (mkF m 4 #[.val (.ref a), .unset] [(.int (0 : Int32))])
  show Fi p e below s Z _ _ _ _ T1 (mkF m 4 #[.val (.ref a), .unset] [(.int (0 : Int32))])
  refine W1.ifN_ne me d_jdk_68_method_11_4 (by decide) ?_
  show Fi p e below s Z _ _ _ _ T1 (mkF m 7 #[.val (.ref a), .unset] [])
  show Fi p e below s Z _ _ _ _ T1 (mkF m 7 #[.val (.ref a), .unset] [])
  exact W1.retU hEL me d_jdk_68_method_11_7 rfl (by decide) (by decide)

set_option maxRecDepth 65536 in
set_option maxHeartbeats 4000000 in
theorem c_infl0 {l : Launch} {Z : State} {a0 : Array Value} {kn : Bool} (g : Gl Z a0) {ws : List Cond} {h0 : Heap} {ss : List Addr} (hO : Old Z Z.heap.size h0) {a b : Addr} {cs : List Int32} (M : SbB Z h0 a b false cs) (hza : Z.heap.size ≤ a) :
    Con l Z consts_1 kn ws (⟨"java/lang/AbstractStringBuilder", "inflate", "()V"⟩ : MethodName) jdk_68_method_11_code 2 none ({ frames := 5, cells := 1, slots := 32, locals := 76 } : Room) #[(.ref a)] h0 ss (rUs fun h sf => Keep h0 h [a] ∧ ∃ d, h0.size ≤ d ∧ sf d ∧ SbB Z h a d true cs) := by
  have hw := g.1
  have hEL := g.2.1
  refine Con.of (plainFor_of_name pn_5) hO ?_
  intro p e s m below meth c T0 me W0
  refine Fi.entry (L := #[.val (.ref a), .unset]) (by first | (simp [entryFrame, mkF, argsToLocals, Value.category, maxLocals]; done) | (simp [entryFrame, mkF, argsToLocals, Value.category]; done) | rfl) ?_
  have n_value_coder : Jvm.RoadKit.slotOf Z "java/lang/AbstractStringBuilder" "value" "[B" ≠ Jvm.RoadKit.slotOf Z "java/lang/AbstractStringBuilder" "coder" "B" := slot_ne (Or.inl (hw _ (List.mem_of_getElem? (i := 74) rfl)) : Laid Z a0 "java/lang/StringBuilder" "java/lang/AbstractStringBuilder" "value" "[B") (Or.inl (hw _ (List.mem_of_getElem? (i := 76) rfl)) : Laid Z a0 "java/lang/StringBuilder" "java/lang/AbstractStringBuilder" "coder" "B") (by decide) (t := .array .byte) (t' := .byte) (by decide) (by decide)
  have n_value_count : Jvm.RoadKit.slotOf Z "java/lang/AbstractStringBuilder" "value" "[B" ≠ Jvm.RoadKit.slotOf Z "java/lang/AbstractStringBuilder" "count" "I" := slot_ne (Or.inl (hw _ (List.mem_of_getElem? (i := 74) rfl)) : Laid Z a0 "java/lang/StringBuilder" "java/lang/AbstractStringBuilder" "value" "[B") (Or.inl (hw _ (List.mem_of_getElem? (i := 98) rfl)) : Laid Z a0 "java/lang/StringBuilder" "java/lang/AbstractStringBuilder" "count" "I") (by decide) (t := .array .byte) (t' := .int) (by decide) (by decide)
  have n_value_maybeLatin1 : Jvm.RoadKit.slotOf Z "java/lang/AbstractStringBuilder" "value" "[B" ≠ Jvm.RoadKit.slotOf Z "java/lang/AbstractStringBuilder" "maybeLatin1" "Z" := slot_ne (Or.inl (hw _ (List.mem_of_getElem? (i := 74) rfl)) : Laid Z a0 "java/lang/StringBuilder" "java/lang/AbstractStringBuilder" "value" "[B") (Or.inl (hw _ (List.mem_of_getElem? (i := 239) rfl)) : Laid Z a0 "java/lang/StringBuilder" "java/lang/AbstractStringBuilder" "maybeLatin1" "Z") (by decide) (t := .array .byte) (t' := .boolean) (by decide) (by decide)
  have n_coder_count : Jvm.RoadKit.slotOf Z "java/lang/AbstractStringBuilder" "coder" "B" ≠ Jvm.RoadKit.slotOf Z "java/lang/AbstractStringBuilder" "count" "I" := slot_ne (Or.inl (hw _ (List.mem_of_getElem? (i := 76) rfl)) : Laid Z a0 "java/lang/StringBuilder" "java/lang/AbstractStringBuilder" "coder" "B") (Or.inl (hw _ (List.mem_of_getElem? (i := 98) rfl)) : Laid Z a0 "java/lang/StringBuilder" "java/lang/AbstractStringBuilder" "count" "I") (by decide) (t := .byte) (t' := .int) (by decide) (by decide)
  have n_coder_maybeLatin1 : Jvm.RoadKit.slotOf Z "java/lang/AbstractStringBuilder" "coder" "B" ≠ Jvm.RoadKit.slotOf Z "java/lang/AbstractStringBuilder" "maybeLatin1" "Z" := slot_ne (Or.inl (hw _ (List.mem_of_getElem? (i := 76) rfl)) : Laid Z a0 "java/lang/StringBuilder" "java/lang/AbstractStringBuilder" "coder" "B") (Or.inl (hw _ (List.mem_of_getElem? (i := 239) rfl)) : Laid Z a0 "java/lang/StringBuilder" "java/lang/AbstractStringBuilder" "maybeLatin1" "Z") (by decide) (t := .byte) (t' := .boolean) (by decide) (by decide)
  have n_count_maybeLatin1 : Jvm.RoadKit.slotOf Z "java/lang/AbstractStringBuilder" "count" "I" ≠ Jvm.RoadKit.slotOf Z "java/lang/AbstractStringBuilder" "maybeLatin1" "Z" := slot_ne (Or.inl (hw _ (List.mem_of_getElem? (i := 98) rfl)) : Laid Z a0 "java/lang/StringBuilder" "java/lang/AbstractStringBuilder" "count" "I") (Or.inl (hw _ (List.mem_of_getElem? (i := 239) rfl)) : Laid Z a0 "java/lang/StringBuilder" "java/lang/AbstractStringBuilder" "maybeLatin1" "Z") (by decide) (t := .int) (t' := .boolean) (by decide) (by decide)
  refine W0.aloadN me d_jdk_68_method_11_0 rfl rfl ?_
  show Fi p e below s Z _ _ _ _ T0 (mkF m 1 #[.val (.ref a), .unset] [(.ref a)])
  refine W0.callV me hEL (hw _ (List.mem_of_getElem? (i := 217) rfl)) (hw _ (List.mem_of_getElem? (i := 151) rfl)) (fun hZ' => notFace_of_selects (args := #[]) (mvT (s := s.setVm _) hZ' (hw _ (List.mem_of_getElem? (i := 153) rfl)))) (hw _ (List.mem_of_getElem? (i := 153) rfl)) (hw _ (List.mem_of_getElem? (i := 152) rfl)) (hw _ (List.mem_of_getElem? (i := 69) rfl)) (hw _ (List.mem_of_getElem? (i := 154) rfl)) (a := a) (argsL := []) (rest := []) M.exa (c_asblatB0 (ss := []) g W0.old M) d_jdk_68_method_11_1 (by decide) (fun _ q => nomatch q) rfl (lenOf pd_7 rfl) (own_le rfl) (own_le rfl) (own_le rfl) (own_le rfl) rfl ?_
  intro T1 h1 v1 W1 z1 q1
  obtain ⟨sf1, X1, _, rfl, rfl, rfl⟩ := q1
  show Fi p e below s Z _ _ _ _ T1 (mkF m 4 #[.val (.ref a), .unset] [(.int (1 : Int32))])
  show Fi p e below s Z _ _ _ _ T1 (mkF m 4 #[.val (.ref a), .unset] [(.int (1 : Int32))])
  refine W1.ifY_ne me d_jdk_68_method_11_4 (by decide) (pc' := 8) (by decide) (by decide) ?_
  show Fi p e below s Z _ _ _ _ T1 (mkF m 8 #[.val (.ref a), .unset] [])
  refine W1.aloadN me d_jdk_68_method_11_8 rfl rfl ?_
  show Fi p e below s Z _ _ _ _ T1 (mkF m 9 #[.val (.ref a), .unset] [(.ref a)])
  obtain ⟨k, EA, FV, FC, FN, FM, AB, EB, hcap, hok⟩ := M
  have halt := own_lt EA.lt
  have hblt := own_lt AB.lt
  refine W1.getF me (hw _ (List.mem_of_getElem? (i := 73) rfl)) FV Via.refl d_jdk_68_method_11_9 ?_
  intro T2 W2
  show Fi p e below s Z _ _ _ _ T2 (mkF m 12 #[.val (.ref a), .unset] [(.ref b)])
  refine W2.alen me AB d_jdk_68_method_11_12 ?_
  show Fi p e below s Z _ _ _ _ T2 (mkF m 13 #[.val (.ref a), .unset] [(.int (Int32.ofNat 16))])
  refine W2.callS me hEL (hw _ (List.mem_of_getElem? (i := 218) rfl)) (hw _ (List.mem_of_getElem? (i := 197) rfl)) (hw _ (List.mem_of_getElem? (i := 22) rfl)) (hw _ (List.mem_of_getElem? (i := 198) rfl)) (argsL := [(.int (Int32.ofNat 16))]) (rest := []) (c_newbytes (ss := []) g W2.old (n := 16) (by decide)) d_jdk_68_method_11_13 (by decide) (fun _ q => nomatch q) rfl (lenOf pd_10 rfl) (own_le rfl) (own_le rfl) (own_le rfl) (own_le rfl) rfl ?_
  intro T3 h3 v3 W3 z3 q3
  obtain ⟨sf3, X3, _, rfl, E3, d3, k3, rfl, y3, s3, A3, EB3⟩ := q3
  show Fi p e below s Z _ _ _ _ T3 (mkF m 16 #[.val (.ref a), .unset] [(.ref d3)])
  replace W3 := X3 [d3] (allS s3 all0)
  have hzd : Z.heap.size ≤ d3 := by have := hO.2.1; omega
  refine W3.astoreN me d_jdk_68_method_11_16 (l' := #[.val (.ref a), .val (.ref d3)]) rfl rfl ?_
  refine W3.aloadN me d_jdk_68_method_11_17 rfl rfl ?_
  show Fi p e below s Z _ _ _ _ T3 (mkF m 18 #[.val (.ref a), .val (.ref d3)] [(.ref a)])
  refine W3.getF me (hw _ (List.mem_of_getElem? (i := 73) rfl)) (FV.ext E3) Via.refl d_jdk_68_method_11_18 ?_
  intro T4 W4
  show Fi p e below s Z _ _ _ _ T4 (mkF m 21 #[.val (.ref a), .val (.ref d3)] [(.ref b)])
  refine W4.iconst me d_jdk_68_method_11_21 (v := 0) rfl ?_
  refine W4.aloadN me d_jdk_68_method_11_22 rfl rfl ?_
  refine W4.iconst me d_jdk_68_method_11_23 (v := 0) rfl ?_
  refine W4.aloadN me d_jdk_68_method_11_24 rfl rfl ?_
  show Fi p e below s Z _ _ _ _ T4 (mkF m 25 #[.val (.ref a), .val (.ref d3)] [(.ref a), (.int (0 : Int32)), (.ref d3), (.int (0 : Int32)), (.ref b)])
  refine W4.getF me (hw _ (List.mem_of_getElem? (i := 97) rfl)) (FN.ext E3) Via.refl d_jdk_68_method_11_25 ?_
  intro T5 W5
  show Fi p e below s Z _ _ _ _ T5 (mkF m 28 #[.val (.ref a), .val (.ref d3)] [(.int (Int32.ofNat cs.length)), (.int (0 : Int32)), (.ref d3), (.int (0 : Int32)), (.ref b)])
  refine W5.callS me hEL (hw _ (List.mem_of_getElem? (i := 219) rfl)) (hw _ (List.mem_of_getElem? (i := 220) rfl)) (hw _ (List.mem_of_getElem? (i := 183) rfl)) (hw _ (List.mem_of_getElem? (i := 221) rfl)) (argsL := [(.ref b), (.int (0 : Int32)), (.ref d3), (.int (0 : Int32)), (.int (Int32.ofNat cs.length))]) (rest := []) (c_linfl g W5.old (xs := []) (o := 0) (N := 16) (AB.ext E3) A3 rfl (by omega) hcap (by decide) (own_ne (by omega)) hok (List.mem_cons_self ..) hzd) d_jdk_68_method_11_28 (by decide) (fun _ q => q) rfl (lenOf pd_18 rfl) (own_le rfl) (own_le rfl) (own_le rfl) (own_le rfl) rfl ?_
  intro T6 h6 v6 W6 z6 q6
  obtain ⟨sf6, X6, rfl, K6, A6⟩ := q6
  show Fi p e below s Z _ _ _ _ T6 (mkF m 31 #[.val (.ref a), .val (.ref d3)] [])
  refine W6.aloadN me d_jdk_68_method_11_31 rfl rfl ?_
  refine W6.aloadN me d_jdk_68_method_11_32 rfl rfl ?_
  show Fi p e below s Z _ _ _ _ T6 (mkF m 33 #[.val (.ref a), .val (.ref d3)] [(.ref d3), (.ref a)])
  have had : a ≠ d3 := own_ne (by omega)
  have EA2 := (EA.ext E3).keep K6
  have FV2 := (FV.ext E3).keep K6 (ninS had nin0)
  have FC2 := (FC.ext E3).keep K6 (ninS had nin0)
  have FN2 := (FN.ext E3).keep K6 (ninS had nin0)
  have FM2 := (FM.ext E3).keep K6 (ninS had nin0)
  refine W6.putF me (hw _ (List.mem_of_getElem? (i := 73) rfl)) FV2 Via.refl EA2 (Or.inl (hw _ (List.mem_of_getElem? (i := 74) rfl))) (hw _ (List.mem_of_getElem? (i := 60) rfl)) (ty := (.array .byte)) (by decide) rfl rfl (Or.inr (Or.inl ⟨"java/lang/StringBuilder", EA2, by decide, by decide⟩)) hza d_jdk_68_method_11_33 ?_
  intro T7 h7 W7 R7
  show Fi p e below s Z _ _ _ _ T7 (mkF m 36 #[.val (.ref a), .val (.ref d3)] [])
  refine W7.aloadN me d_jdk_68_method_11_36 rfl rfl ?_
  refine W7.iconst me d_jdk_68_method_11_37 (v := 1) rfl ?_
  show Fi p e below s Z _ _ _ _ T7 (mkF m 38 #[.val (.ref a), .val (.ref d3)] [(.int (1 : Int32)), (.ref a)])
  refine W7.putF me (hw _ (List.mem_of_getElem? (i := 75) rfl)) (FC2.other R7 (Or.inr n_value_coder.symm)) Via.refl (EA2.wr R7) (Or.inl (hw _ (List.mem_of_getElem? (i := 76) rfl))) (hw _ (List.mem_of_getElem? (i := 60) rfl)) (ty := .byte) (by decide) rfl rfl (Or.inr (Or.inl ⟨"java/lang/StringBuilder", EA2.wr R7, by decide, by decide⟩)) hza d_jdk_68_method_11_38 ?_
  intro T8 h8 W8 R8
  show Fi p e below s Z _ _ _ _ T8 (mkF m 41 #[.val (.ref a), .val (.ref d3)] [])
  show Fi p e below s Z _ _ _ _ T8 (mkF m 41 #[.val (.ref a), .val (.ref d3)] [])
  have S : SbB Z h8 a d3 true cs := ⟨k3, (EA2.wr R7).wr R8, (FV2.same R7).other R8 (Or.inr n_value_coder), (FC2.other R7 (Or.inr n_value_coder.symm)).same R8, (FN2.other R7 (Or.inr n_value_count.symm)).other R8 (Or.inr n_coder_count.symm), (FM2.other R7 (Or.inr n_value_maybeLatin1.symm)).other R8 (Or.inr n_coder_maybeLatin1.symm), (A6.other R7 had.symm).other R8 had.symm, ((EB3.keep K6).wr R7).wr R8, hcap, C8.c16 hok⟩
  have K : Keep h0 h8 [a] := (((own_xK E3 [a]).trans K6 (fun z hz => Or.inr (by rw [List.mem_singleton.mp hz]; exact y3))).wr R7 (Or.inl (List.mem_cons_self ..))).wr R8 (Or.inl (List.mem_cons_self ..))
  exact W8.retUs hEL me d_jdk_68_method_11_41 (fun sf q => ⟨K, d3, y3, q _ (List.mem_cons_self ..), S⟩) (by decide) (by decide)

set_option maxRecDepth 65536 in
set_option maxHeartbeats 4000000 in
theorem c_infS {l : Launch} {Z : State} {a0 : Array Value} {kn : Bool} (g : Gl Z a0) {ws : List Cond} {h0 : Heap} {ss : List Addr} (hO : Old Z Z.heap.size h0) {a b : Addr} {ec : Bool} {cs : List Int32} (M : SbB Z h0 a b ec cs) {u vb : Addr} {ds : List Int32} (L : StB Z h0 u vb ec ds) :
    Con l Z consts_1 kn ws (⟨"java/lang/AbstractStringBuilder", "inflateIfNeededFor", "(Ljava/lang/String;)V"⟩ : MethodName) jdk_68_method_71_code 2 none ({ frames := 1, cells := 0, slots := 0, locals := 13 } : Room) #[(.ref a), (.ref u)] h0 ss (rU fun h => h0 = h) := by
  have hw := g.1
  have hEL := g.2.1
  refine Con.of (plainFor_of_name pn_5) hO ?_
  intro p e s m below meth c T0 me W0
  refine Fi.entry (L := #[.val (.ref a), .val (.ref u)]) (by first | (simp [entryFrame, mkF, argsToLocals, Value.category, maxLocals]; done) | (simp [entryFrame, mkF, argsToLocals, Value.category]; done) | rfl) ?_
  have M' := M
  obtain ⟨k, EA, FV, FC, FN, FM, AB, EB, hcap, hok⟩ := M
  obtain ⟨ku, UX, UC, UV, AU, ul, uok⟩ := L
  obtain ⟨G, O2, P2⟩ := g.2.2.1
  refine W0.getS me (hw _ (List.mem_of_getElem? (i := 72) rfl)) O2 Via.refl d_jdk_68_method_71_0 ?_
  intro T1 W1
  show Fi p e below s Z _ _ _ _ T1 (mkF m 3 #[.val (.ref a), .val (.ref u)] [(.int G)])
  refine W1.ifN_eq me d_jdk_68_method_71_3 P2 ?_
  refine W1.aloadN me d_jdk_68_method_71_6 rfl rfl ?_
  show Fi p e below s Z _ _ _ _ T1 (mkF m 7 #[.val (.ref a), .val (.ref u)] [(.ref a)])
  refine W1.getF me (hw _ (List.mem_of_getElem? (i := 75) rfl)) FC Via.refl d_jdk_68_method_71_7 ?_
  intro T2 W2
  show Fi p e below s Z _ _ _ _ T2 (mkF m 10 #[.val (.ref a), .val (.ref u)] [(.int (cdB ec))])
  refine W2.aloadN me d_jdk_68_method_71_10 rfl rfl ?_
  show Fi p e below s Z _ _ _ _ T2 (mkF m 11 #[.val (.ref a), .val (.ref u)] [(.ref u), (.int (cdB ec))])
  refine W2.callV me hEL (hw _ (List.mem_of_getElem? (i := 114) rfl)) (hw _ (List.mem_of_getElem? (i := 93) rfl)) (fun hZ' => notFace_of_selects (args := #[]) (mvT (s := s.setVm _) hZ' (hw _ (List.mem_of_getElem? (i := 95) rfl)))) (hw _ (List.mem_of_getElem? (i := 95) rfl)) (hw _ (List.mem_of_getElem? (i := 94) rfl)) (hw _ (List.mem_of_getElem? (i := 8) rfl)) (hw _ (List.mem_of_getElem? (i := 96) rfl)) (a := u) (argsL := []) (rest := [(.int (cdB ec))]) UX (c_coder (ss := []) g W2.old UC (cdB_nar ec)) d_jdk_68_method_71_11 (by decide) (fun _ q => nomatch q) rfl (lenOf pd_4 rfl) (own_le rfl) (own_le rfl) (own_le rfl) (own_le rfl) rfl ?_
  intro T3 h3 v3 W3 z3 q3
  obtain ⟨sf3, X3, _, rfl, rfl, rfl⟩ := q3
  show Fi p e below s Z _ _ _ _ T3 (mkF m 14 #[.val (.ref a), .val (.ref u)] [(.int (cdB ec)), (.int (cdB ec))])
  refine W3.icY_eq me d_jdk_68_method_71_14 rfl (pc' := 21) (by decide) (by decide) ?_
  show Fi p e below s Z _ _ _ _ T3 (mkF m 21 #[.val (.ref a), .val (.ref u)] [])
  show Fi p e below s Z _ _ _ _ T3 (mkF m 21 #[.val (.ref a), .val (.ref u)] [])
  exact W3.retU hEL me d_jdk_68_method_71_21 rfl (by decide) (by decide)

set_option maxRecDepth 65536 in
set_option maxHeartbeats 4000000 in
theorem c_infT {l : Launch} {Z : State} {a0 : Array Value} {kn : Bool} (g : Gl Z a0) {ws : List Cond} {h0 : Heap} {ss : List Addr} (hO : Old Z Z.heap.size h0) {a b : Addr} {cs : List Int32} (M : SbB Z h0 a b true cs) {u vb : Addr} {ds : List Int32} (L : StB Z h0 u vb false ds) :
    Con l Z consts_1 kn ws (⟨"java/lang/AbstractStringBuilder", "inflateIfNeededFor", "(Ljava/lang/String;)V"⟩ : MethodName) jdk_68_method_71_code 2 none ({ frames := 2, cells := 0, slots := 0, locals := 25 } : Room) #[(.ref a), (.ref u)] h0 ss (rU fun h => h0 = h) := by
  have hw := g.1
  have hEL := g.2.1
  refine Con.of (plainFor_of_name pn_5) hO ?_
  intro p e s m below meth c T0 me W0
  refine Fi.entry (L := #[.val (.ref a), .val (.ref u)]) (by first | (simp [entryFrame, mkF, argsToLocals, Value.category, maxLocals]; done) | (simp [entryFrame, mkF, argsToLocals, Value.category]; done) | rfl) ?_
  have M' := M
  obtain ⟨k, EA, FV, FC, FN, FM, AB, EB, hcap, hok⟩ := M
  obtain ⟨ku, UX, UC, UV, AU, ul, uok⟩ := L
  obtain ⟨G, O2, P2⟩ := g.2.2.1
  refine W0.getS me (hw _ (List.mem_of_getElem? (i := 72) rfl)) O2 Via.refl d_jdk_68_method_71_0 ?_
  intro T1 W1
  show Fi p e below s Z _ _ _ _ T1 (mkF m 3 #[.val (.ref a), .val (.ref u)] [(.int G)])
  refine W1.ifN_eq me d_jdk_68_method_71_3 P2 ?_
  refine W1.aloadN me d_jdk_68_method_71_6 rfl rfl ?_
  show Fi p e below s Z _ _ _ _ T1 (mkF m 7 #[.val (.ref a), .val (.ref u)] [(.ref a)])
  refine W1.getF me (hw _ (List.mem_of_getElem? (i := 75) rfl)) FC Via.refl d_jdk_68_method_71_7 ?_
  intro T2 W2
  show Fi p e below s Z _ _ _ _ T2 (mkF m 10 #[.val (.ref a), .val (.ref u)] [(.int (1 : Int32))])
  refine W2.aloadN me d_jdk_68_method_71_10 rfl rfl ?_
  show Fi p e below s Z _ _ _ _ T2 (mkF m 11 #[.val (.ref a), .val (.ref u)] [(.ref u), (.int (1 : Int32))])
  refine W2.callV me hEL (hw _ (List.mem_of_getElem? (i := 114) rfl)) (hw _ (List.mem_of_getElem? (i := 93) rfl)) (fun hZ' => notFace_of_selects (args := #[]) (mvT (s := s.setVm _) hZ' (hw _ (List.mem_of_getElem? (i := 95) rfl)))) (hw _ (List.mem_of_getElem? (i := 95) rfl)) (hw _ (List.mem_of_getElem? (i := 94) rfl)) (hw _ (List.mem_of_getElem? (i := 8) rfl)) (hw _ (List.mem_of_getElem? (i := 96) rfl)) (a := u) (argsL := []) (rest := [(.int (1 : Int32))]) UX (c_coder (ss := []) g W2.old UC rfl) d_jdk_68_method_71_11 (by decide) (fun _ q => nomatch q) rfl (lenOf pd_4 rfl) (own_le rfl) (own_le rfl) (own_le rfl) (own_le rfl) rfl ?_
  intro T3 h3 v3 W3 z3 q3
  obtain ⟨sf3, X3, _, rfl, rfl, rfl⟩ := q3
  show Fi p e below s Z _ _ _ _ T3 (mkF m 14 #[.val (.ref a), .val (.ref u)] [(.int (0 : Int32)), (.int (1 : Int32))])
  show Fi p e below s Z _ _ _ _ T3 (mkF m 14 #[.val (.ref a), .val (.ref u)] [(.int (0 : Int32)), (.int (1 : Int32))])
  refine W3.icN_eq me d_jdk_68_method_71_14 (by decide) ?_
  show Fi p e below s Z _ _ _ _ T3 (mkF m 17 #[.val (.ref a), .val (.ref u)] [])
  refine W3.aloadN me d_jdk_68_method_71_17 rfl rfl ?_
  show Fi p e below s Z _ _ _ _ T3 (mkF m 18 #[.val (.ref a), .val (.ref u)] [(.ref a)])
  refine W3.callP me hEL (hw _ (List.mem_of_getElem? (i := 212) rfl)) (hw _ (List.mem_of_getElem? (i := 213) rfl)) (hw _ (List.mem_of_getElem? (i := 214) rfl)) (hw _ (List.mem_of_getElem? (i := 215) rfl)) (hw _ (List.mem_of_getElem? (i := 69) rfl)) (hw _ (List.mem_of_getElem? (i := 216) rfl)) (a := a) (argsL := []) (rest := []) EA (c_infl1 (ss := []) g W3.old M') d_jdk_68_method_71_18 (by decide) (fun _ q => nomatch q) rfl (lenOf pd_19 rfl) (own_le rfl) (own_le rfl) (own_le rfl) (own_le rfl) rfl ?_
  intro T4 h4 v4 W4 z4 q4
  obtain ⟨sf4, X4, rfl, rfl⟩ := q4
  show Fi p e below s Z _ _ _ _ T4 (mkF m 21 #[.val (.ref a), .val (.ref u)] [])
  exact W4.retU hEL me d_jdk_68_method_71_21 rfl (by decide) (by decide)

set_option maxRecDepth 65536 in
set_option maxHeartbeats 4000000 in
theorem c_infF {l : Launch} {Z : State} {a0 : Array Value} {kn : Bool} (g : Gl Z a0) {ws : List Cond} {h0 : Heap} {ss : List Addr} (hO : Old Z Z.heap.size h0) {a b : Addr} {cs : List Int32} (M : SbB Z h0 a b false cs) {u vb : Addr} {ds : List Int32} (L : StB Z h0 u vb true ds) (hza : Z.heap.size ≤ a) :
    Con l Z consts_1 kn ws (⟨"java/lang/AbstractStringBuilder", "inflateIfNeededFor", "(Ljava/lang/String;)V"⟩ : MethodName) jdk_68_method_71_code 2 none ({ frames := 6, cells := 1, slots := 32, locals := 89 } : Room) #[(.ref a), (.ref u)] h0 ss (rUs fun h sf => Keep h0 h [a] ∧ ∃ d, h0.size ≤ d ∧ sf d ∧ SbB Z h a d true cs) := by
  have hw := g.1
  have hEL := g.2.1
  refine Con.of (plainFor_of_name pn_5) hO ?_
  intro p e s m below meth c T0 me W0
  refine Fi.entry (L := #[.val (.ref a), .val (.ref u)]) (by first | (simp [entryFrame, mkF, argsToLocals, Value.category, maxLocals]; done) | (simp [entryFrame, mkF, argsToLocals, Value.category]; done) | rfl) ?_
  have M' := M
  obtain ⟨k, EA, FV, FC, FN, FM, AB, EB, hcap, hok⟩ := M
  obtain ⟨ku, UX, UC, UV, AU, ul, uok⟩ := L
  obtain ⟨G, O2, P2⟩ := g.2.2.1
  refine W0.getS me (hw _ (List.mem_of_getElem? (i := 72) rfl)) O2 Via.refl d_jdk_68_method_71_0 ?_
  intro T1 W1
  show Fi p e below s Z _ _ _ _ T1 (mkF m 3 #[.val (.ref a), .val (.ref u)] [(.int G)])
  refine W1.ifN_eq me d_jdk_68_method_71_3 P2 ?_
  refine W1.aloadN me d_jdk_68_method_71_6 rfl rfl ?_
  show Fi p e below s Z _ _ _ _ T1 (mkF m 7 #[.val (.ref a), .val (.ref u)] [(.ref a)])
  refine W1.getF me (hw _ (List.mem_of_getElem? (i := 75) rfl)) FC Via.refl d_jdk_68_method_71_7 ?_
  intro T2 W2
  show Fi p e below s Z _ _ _ _ T2 (mkF m 10 #[.val (.ref a), .val (.ref u)] [(.int (0 : Int32))])
  refine W2.aloadN me d_jdk_68_method_71_10 rfl rfl ?_
  show Fi p e below s Z _ _ _ _ T2 (mkF m 11 #[.val (.ref a), .val (.ref u)] [(.ref u), (.int (0 : Int32))])
  refine W2.callV me hEL (hw _ (List.mem_of_getElem? (i := 114) rfl)) (hw _ (List.mem_of_getElem? (i := 93) rfl)) (fun hZ' => notFace_of_selects (args := #[]) (mvT (s := s.setVm _) hZ' (hw _ (List.mem_of_getElem? (i := 95) rfl)))) (hw _ (List.mem_of_getElem? (i := 95) rfl)) (hw _ (List.mem_of_getElem? (i := 94) rfl)) (hw _ (List.mem_of_getElem? (i := 8) rfl)) (hw _ (List.mem_of_getElem? (i := 96) rfl)) (a := u) (argsL := []) (rest := [(.int (0 : Int32))]) UX (c_coder (ss := []) g W2.old UC rfl) d_jdk_68_method_71_11 (by decide) (fun _ q => nomatch q) rfl (lenOf pd_4 rfl) (own_le rfl) (own_le rfl) (own_le rfl) (own_le rfl) rfl ?_
  intro T3 h3 v3 W3 z3 q3
  obtain ⟨sf3, X3, _, rfl, rfl, rfl⟩ := q3
  show Fi p e below s Z _ _ _ _ T3 (mkF m 14 #[.val (.ref a), .val (.ref u)] [(.int (1 : Int32)), (.int (0 : Int32))])
  show Fi p e below s Z _ _ _ _ T3 (mkF m 14 #[.val (.ref a), .val (.ref u)] [(.int (1 : Int32)), (.int (0 : Int32))])
  refine W3.icN_eq me d_jdk_68_method_71_14 (by decide) ?_
  show Fi p e below s Z _ _ _ _ T3 (mkF m 17 #[.val (.ref a), .val (.ref u)] [])
  refine W3.aloadN me d_jdk_68_method_71_17 rfl rfl ?_
  show Fi p e below s Z _ _ _ _ T3 (mkF m 18 #[.val (.ref a), .val (.ref u)] [(.ref a)])
  refine W3.callP me hEL (hw _ (List.mem_of_getElem? (i := 212) rfl)) (hw _ (List.mem_of_getElem? (i := 213) rfl)) (hw _ (List.mem_of_getElem? (i := 214) rfl)) (hw _ (List.mem_of_getElem? (i := 215) rfl)) (hw _ (List.mem_of_getElem? (i := 69) rfl)) (hw _ (List.mem_of_getElem? (i := 216) rfl)) (a := a) (argsL := []) (rest := []) EA (c_infl0 (ss := []) g W3.old M' hza) d_jdk_68_method_71_18 (by decide) (fun _ q => nomatch q) rfl (lenOf pd_19 rfl) (own_le rfl) (own_le rfl) (own_le rfl) (own_le rfl) rfl ?_
  intro T4 h4 v4 W4 z4 q4
  obtain ⟨sf4, X4, rfl, K4, d4, y4, s4, M4⟩ := q4
  show Fi p e below s Z _ _ _ _ T4 (mkF m 21 #[.val (.ref a), .val (.ref u)] [])
  exact (X4 [d4] (allS s4 all0)).retUs hEL me d_jdk_68_method_71_21 (fun sf q => ⟨K4, d4, y4, q _ (List.mem_cons_self ..), M4⟩) (by decide) (by decide)

set_option maxRecDepth 65536 in
set_option maxHeartbeats 4000000 in
theorem c_gbS {l : Launch} {Z : State} {a0 : Array Value} {kn : Bool} (g : Gl Z a0) {ws : List Cond} {h0 : Heap} {ss : List Addr} (hO : Old Z Z.heap.size h0) {u vb b : Addr} {kb : ClassId} {f : Bool} {cs ds : List Int32} (L : StB Z h0 u vb f ds) (AB : Arv Z h0 b kb .byte (Int32.ofNat (szB f 16)) (encB f cs) (.int 0)) (hfit : cs.length + ds.length ≤ 16) (hS : b ∈ ss) (hz : Z.heap.size ≤ b) :
    Con l Z consts_1 kn ws (⟨"java/lang/String", "getBytes", "([BIB)V"⟩ : MethodName) jdk_42_method_147_code 4 none ({ frames := 1, cells := 0, slots := 0, locals := 18 } : Room) #[(.ref u), (.ref b), (.int (Int32.ofNat cs.length)), (.int (cdB f))] h0 ss (rU fun h => Keep h0 h [b] ∧ Arv Z h b kb .byte (Int32.ofNat (szB f 16)) (encB f (cs ++ ds)) (.int 0)) := by
  have hw := g.1
  have hEL := g.2.1
  refine Con.of (plainFor_of_name pn_1) hO ?_
  intro p e s m below meth c T0 me W0
  refine Fi.entry (L := #[.val (.ref u), .val (.ref b), .val (.int (Int32.ofNat cs.length)), .val (.int (cdB f))]) (by first | (simp [entryFrame, mkF, argsToLocals, Value.category, maxLocals]; done) | (simp [entryFrame, mkF, argsToLocals, Value.category]; done) | rfl) ?_
  obtain ⟨ku, UX, UC, UV, AU, ul, uok⟩ := L
  have hz1 := szB_fit f hfit
  have hel := encB_len f ds
  have hec := encB_len f cs
  refine W0.aloadN me d_jdk_42_method_147_0 rfl rfl ?_
  show Fi p e below s Z _ _ _ _ T0 (mkF m 1 #[.val (.ref u), .val (.ref b), .val (.int (Int32.ofNat cs.length)), .val (.int (cdB f))] [(.ref u)])
  refine W0.callV me hEL (hw _ (List.mem_of_getElem? (i := 92) rfl)) (hw _ (List.mem_of_getElem? (i := 93) rfl)) (fun hZ' => notFace_of_selects (args := #[]) (mvT (s := s.setVm _) hZ' (hw _ (List.mem_of_getElem? (i := 95) rfl)))) (hw _ (List.mem_of_getElem? (i := 95) rfl)) (hw _ (List.mem_of_getElem? (i := 94) rfl)) (hw _ (List.mem_of_getElem? (i := 8) rfl)) (hw _ (List.mem_of_getElem? (i := 96) rfl)) (a := u) (argsL := []) (rest := []) UX (c_coder (ss := []) g W0.old UC (cdB_nar f)) d_jdk_42_method_147_1 (by decide) (fun _ q => nomatch q) rfl (lenOf pd_4 rfl) (own_le rfl) (own_le rfl) (own_le rfl) (own_le rfl) rfl ?_
  intro T1 h1 v1 W1 z1 q1
  obtain ⟨sf1, X1, _, rfl, rfl, rfl⟩ := q1
  show Fi p e below s Z _ _ _ _ T1 (mkF m 4 #[.val (.ref u), .val (.ref b), .val (.int (Int32.ofNat cs.length)), .val (.int (cdB f))] [(.int (cdB f))])
  refine W1.iloadN me d_jdk_42_method_147_4 rfl ?_
  show Fi p e below s Z _ _ _ _ T1 (mkF m 5 #[.val (.ref u), .val (.ref b), .val (.int (Int32.ofNat cs.length)), .val (.int (cdB f))] [(.int (cdB f)), (.int (cdB f))])
  refine W1.icN_ne me d_jdk_42_method_147_5 rfl ?_
  show Fi p e below s Z _ _ _ _ T1 (mkF m 8 #[.val (.ref u), .val (.ref b), .val (.int (Int32.ofNat cs.length)), .val (.int (cdB f))] [])
  refine W1.aloadN me d_jdk_42_method_147_8 rfl rfl ?_
  show Fi p e below s Z _ _ _ _ T1 (mkF m 9 #[.val (.ref u), .val (.ref b), .val (.int (Int32.ofNat cs.length)), .val (.int (cdB f))] [(.ref u)])
  refine W1.getF me (hw _ (List.mem_of_getElem? (i := 33) rfl)) UV Via.refl d_jdk_42_method_147_9 ?_
  intro T2 W2
  show Fi p e below s Z _ _ _ _ T2 (mkF m 12 #[.val (.ref u), .val (.ref b), .val (.int (Int32.ofNat cs.length)), .val (.int (cdB f))] [(.ref vb)])
  refine W2.iconst me d_jdk_42_method_147_12 (v := 0) rfl ?_
  refine W2.aloadN me d_jdk_42_method_147_13 rfl rfl ?_
  refine W2.iloadN me d_jdk_42_method_147_14 rfl ?_
  refine W2.iloadN me d_jdk_42_method_147_15 rfl ?_
  show Fi p e below s Z _ _ _ _ T2 (mkF m 16 #[.val (.ref u), .val (.ref b), .val (.int (Int32.ofNat cs.length)), .val (.int (cdB f))] [(.int (cdB f)), (.int (Int32.ofNat cs.length)), (.ref b), (.int (0 : Int32)), (.ref vb)])
  refine W2.ishl me d_jdk_42_method_147_16 ?_
  rw [shlB f (by omega)]
  show Fi p e below s Z _ _ _ _ T2 (mkF m 17 #[.val (.ref u), .val (.ref b), .val (.int (Int32.ofNat cs.length)), .val (.int (cdB f))] [(.int (Int32.ofNat (szB f cs.length))), (.ref b), (.int (0 : Int32)), (.ref vb)])
  refine W2.aloadN me d_jdk_42_method_147_17 rfl rfl ?_
  show Fi p e below s Z _ _ _ _ T2 (mkF m 18 #[.val (.ref u), .val (.ref b), .val (.int (Int32.ofNat cs.length)), .val (.int (cdB f))] [(.ref u), (.int (Int32.ofNat (szB f cs.length))), (.ref b), (.int (0 : Int32)), (.ref vb)])
  refine W2.getF me (hw _ (List.mem_of_getElem? (i := 33) rfl)) UV Via.refl d_jdk_42_method_147_18 ?_
  intro T3 W3
  show Fi p e below s Z _ _ _ _ T3 (mkF m 21 #[.val (.ref u), .val (.ref b), .val (.int (Int32.ofNat cs.length)), .val (.int (cdB f))] [(.ref vb), (.int (Int32.ofNat (szB f cs.length))), (.ref b), (.int (0 : Int32)), (.ref vb)])
  refine W3.alen me AU d_jdk_42_method_147_21 ?_
  show Fi p e below s Z _ _ _ _ T3 (mkF m 22 #[.val (.ref u), .val (.ref b), .val (.int (Int32.ofNat cs.length)), .val (.int (cdB f))] [(.int (Int32.ofNat (szB f ds.length))), (.int (Int32.ofNat (szB f cs.length))), (.ref b), (.int (0 : Int32)), (.ref vb)])
  refine W3.acopy me (hw _ (List.mem_of_getElem? (i := 120) rfl)) (hw _ (List.mem_of_getElem? (i := 123) rfl)) (hw _ (List.mem_of_getElem? (i := 121) rfl)) (hw _ (List.mem_of_getElem? (i := 122) rfl)) AU (own_pad AB (N := szB f 16)) rfl (Or.inl hS) hz (by decide) (on_nneg (by omega)) (on_nneg (by omega)) (by show 0 + _ ≤ _; omega) (by rw [on_clamp (by omega), on_clamp (by omega), on_clamp (by omega)]; omega) (us := encB f ds) (by rw [on_clamp (by omega), ← hel]; exact own_allV _) (by rw [on_clamp (by omega), on_clamp (by omega), own_padlen (by omega)]; omega) d_jdk_42_method_147_22 rfl (own_le rfl) (own_le rfl) ?_
  intro T4 h4 W4 K4 A4
  show Fi p e below s Z _ _ _ _ T4 (mkF m 25 #[.val (.ref u), .val (.ref b), .val (.int (Int32.ofNat cs.length)), .val (.int (cdB f))] [])
  refine W4.goto me d_jdk_42_method_147_25 (pc' := 43) (by decide) (by decide) ?_
  show Fi p e below s Z _ _ _ _ T4 (mkF m 43 #[.val (.ref u), .val (.ref b), .val (.int (Int32.ofNat cs.length)), .val (.int (cdB f))] [])
  have A' : Arv Z h4 b kb .byte (Int32.ofNat (szB f 16)) (encB f (cs ++ ds)) (.int 0) := by rw [encB_app]; exact own_laidV hec hel A4 (by omega) (by omega)
  exact W4.retU hEL me d_jdk_42_method_147_43 ⟨K4, A'⟩ (by decide) (by decide)

set_option maxRecDepth 65536 in
set_option maxHeartbeats 4000000 in
theorem c_gbT {l : Launch} {Z : State} {a0 : Array Value} {kn : Bool} (g : Gl Z a0) {ws : List Cond} {h0 : Heap} {ss : List Addr} (hO : Old Z Z.heap.size h0) {u vb b : Addr} {kb : ClassId} {cs ds : List Int32} (L : StB Z h0 u vb false ds) (AB : Arv Z h0 b kb .byte (Int32.ofNat (16 + 16)) (u16b cs) (.int 0)) (hfit : cs.length + ds.length ≤ 16) (hvb : vb ≠ b) (hS : b ∈ ss) (hz : Z.heap.size ≤ b) :
    Con l Z consts_1 kn ws (⟨"java/lang/String", "getBytes", "([BIB)V"⟩ : MethodName) jdk_42_method_147_code 4 none ({ frames := 5, cells := 0, slots := 0, locals := 76 } : Room) #[(.ref u), (.ref b), (.int (Int32.ofNat cs.length)), (.int (1 : Int32))] h0 ss (rU fun h => Keep h0 h [b] ∧ Arv Z h b kb .byte (Int32.ofNat (16 + 16)) (u16b (cs ++ ds)) (.int 0)) := by
  have hw := g.1
  have hEL := g.2.1
  refine Con.of (plainFor_of_name pn_1) hO ?_
  intro p e s m below meth c T0 me W0
  refine Fi.entry (L := #[.val (.ref u), .val (.ref b), .val (.int (Int32.ofNat cs.length)), .val (.int (1 : Int32))]) (by first | (simp [entryFrame, mkF, argsToLocals, Value.category, maxLocals]; done) | (simp [entryFrame, mkF, argsToLocals, Value.category]; done) | rfl) ?_
  obtain ⟨ku, UX, UC, UV, AU, ul, uok⟩ := L
  refine W0.aloadN me d_jdk_42_method_147_0 rfl rfl ?_
  show Fi p e below s Z _ _ _ _ T0 (mkF m 1 #[.val (.ref u), .val (.ref b), .val (.int (Int32.ofNat cs.length)), .val (.int (1 : Int32))] [(.ref u)])
  refine W0.callV me hEL (hw _ (List.mem_of_getElem? (i := 92) rfl)) (hw _ (List.mem_of_getElem? (i := 93) rfl)) (fun hZ' => notFace_of_selects (args := #[]) (mvT (s := s.setVm _) hZ' (hw _ (List.mem_of_getElem? (i := 95) rfl)))) (hw _ (List.mem_of_getElem? (i := 95) rfl)) (hw _ (List.mem_of_getElem? (i := 94) rfl)) (hw _ (List.mem_of_getElem? (i := 8) rfl)) (hw _ (List.mem_of_getElem? (i := 96) rfl)) (a := u) (argsL := []) (rest := []) UX (c_coder (ss := []) g W0.old UC rfl) d_jdk_42_method_147_1 (by decide) (fun _ q => nomatch q) rfl (lenOf pd_4 rfl) (own_le rfl) (own_le rfl) (own_le rfl) (own_le rfl) rfl ?_
  intro T1 h1 v1 W1 z1 q1
  obtain ⟨sf1, X1, _, rfl, rfl, rfl⟩ := q1
  show Fi p e below s Z _ _ _ _ T1 (mkF m 4 #[.val (.ref u), .val (.ref b), .val (.int (Int32.ofNat cs.length)), .val (.int (1 : Int32))] [(.int (0 : Int32))])
  refine W1.iloadN me d_jdk_42_method_147_4 rfl ?_
  show Fi p e below s Z _ _ _ _ T1 (mkF m 5 #[.val (.ref u), .val (.ref b), .val (.int (Int32.ofNat cs.length)), .val (.int (1 : Int32))] [(.int (1 : Int32)), (.int (0 : Int32))])
  refine W1.icY_ne me d_jdk_42_method_147_5 (by decide) (pc' := 28) (by decide) (by decide) ?_
  show Fi p e below s Z _ _ _ _ T1 (mkF m 28 #[.val (.ref u), .val (.ref b), .val (.int (Int32.ofNat cs.length)), .val (.int (1 : Int32))] [])
  refine W1.aloadN me d_jdk_42_method_147_28 rfl rfl ?_
  show Fi p e below s Z _ _ _ _ T1 (mkF m 29 #[.val (.ref u), .val (.ref b), .val (.int (Int32.ofNat cs.length)), .val (.int (1 : Int32))] [(.ref u)])
  refine W1.getF me (hw _ (List.mem_of_getElem? (i := 33) rfl)) UV Via.refl d_jdk_42_method_147_29 ?_
  intro T2 W2
  show Fi p e below s Z _ _ _ _ T2 (mkF m 32 #[.val (.ref u), .val (.ref b), .val (.int (Int32.ofNat cs.length)), .val (.int (1 : Int32))] [(.ref vb)])
  refine W2.iconst me d_jdk_42_method_147_32 (v := 0) rfl ?_
  refine W2.aloadN me d_jdk_42_method_147_33 rfl rfl ?_
  refine W2.iloadN me d_jdk_42_method_147_34 rfl ?_
  refine W2.aloadN me d_jdk_42_method_147_35 rfl rfl ?_
  show Fi p e below s Z _ _ _ _ T2 (mkF m 36 #[.val (.ref u), .val (.ref b), .val (.int (Int32.ofNat cs.length)), .val (.int (1 : Int32))] [(.ref u), (.int (Int32.ofNat cs.length)), (.ref b), (.int (0 : Int32)), (.ref vb)])
  refine W2.getF me (hw _ (List.mem_of_getElem? (i := 33) rfl)) UV Via.refl d_jdk_42_method_147_36 ?_
  intro T3 W3
  show Fi p e below s Z _ _ _ _ T3 (mkF m 39 #[.val (.ref u), .val (.ref b), .val (.int (Int32.ofNat cs.length)), .val (.int (1 : Int32))] [(.ref vb), (.int (Int32.ofNat cs.length)), (.ref b), (.int (0 : Int32)), (.ref vb)])
  refine W3.alen me AU d_jdk_42_method_147_39 ?_
  show Fi p e below s Z _ _ _ _ T3 (mkF m 40 #[.val (.ref u), .val (.ref b), .val (.int (Int32.ofNat cs.length)), .val (.int (1 : Int32))] [(.int (Int32.ofNat ds.length)), (.int (Int32.ofNat cs.length)), (.ref b), (.int (0 : Int32)), (.ref vb)])
  refine W3.callS me hEL (hw _ (List.mem_of_getElem? (i := 237) rfl)) (hw _ (List.mem_of_getElem? (i := 220) rfl)) (hw _ (List.mem_of_getElem? (i := 183) rfl)) (hw _ (List.mem_of_getElem? (i := 221) rfl)) (argsL := [(.ref vb), (.int (0 : Int32)), (.ref b), (.int (Int32.ofNat cs.length)), (.int (Int32.ofNat ds.length))]) (rest := []) (c_linfl g W3.old (N := ds.length) AU AB rfl hfit (Nat.le_refl _) (by omega) hvb uok hS hz) d_jdk_42_method_147_40 (by decide) (fun _ q => q) rfl (lenOf pd_18 rfl) (own_le rfl) (own_le rfl) (own_le rfl) (own_le rfl) rfl ?_
  intro T4 h4 v4 W4 z4 q4
  obtain ⟨sf4, X4, rfl, K4, A4⟩ := q4
  show Fi p e below s Z _ _ _ _ T4 (mkF m 43 #[.val (.ref u), .val (.ref b), .val (.int (Int32.ofNat cs.length)), .val (.int (1 : Int32))] [])
  exact W4.retU hEL me d_jdk_42_method_147_43 ⟨K4, A4⟩ (by decide) (by decide)

set_option maxRecDepth 65536 in
set_option maxHeartbeats 4000000 in
theorem c_putS {l : Launch} {Z : State} {a0 : Array Value} {kn : Bool} (g : Gl Z a0) {ws : List Cond} {h0 : Heap} {ss : List Addr} (hO : Old Z Z.heap.size h0) {a b : Addr} {ec : Bool} {cs : List Int32} (M : SbB Z h0 a b ec cs) {u vb : Addr} {ds : List Int32} (L : StB Z h0 u vb ec ds) (hfit : cs.length + ds.length ≤ 16) (hvb : vb ≠ b) (hS : b ∈ ss) (hza : Z.heap.size ≤ a) (hzb : Z.heap.size ≤ b) :
    Con l Z consts_1 kn ws (⟨"java/lang/AbstractStringBuilder", "putStringAt", "(ILjava/lang/String;)V"⟩ : MethodName) jdk_68_method_73_code 3 none ({ frames := 2, cells := 0, slots := 0, locals := 33 } : Room) #[(.ref a), (.int (Int32.ofNat cs.length)), (.ref u)] h0 ss (rUs fun h sf => Keep h0 h [a, b] ∧ ∃ d, (d = b ∨ h0.size ≤ d) ∧ sf d ∧ SbP Z h a d ec cs.length (cs ++ ds)) := by
  have hw := g.1
  have hEL := g.2.1
  refine Con.of (plainFor_of_name pn_5) hO ?_
  intro p e s m below meth c T0 me W0
  refine Fi.entry (L := #[.val (.ref a), .val (.int (Int32.ofNat cs.length)), .val (.ref u)]) (by first | (simp [entryFrame, mkF, argsToLocals, Value.category, maxLocals]; done) | (simp [entryFrame, mkF, argsToLocals, Value.category]; done) | rfl) ?_
  have M' := M
  obtain ⟨k, EA, FV, FC, FN, FM, AB, EB, hcap, hok⟩ := M
  refine W0.aloadN me d_jdk_68_method_73_0 rfl rfl ?_
  refine W0.aloadN me d_jdk_68_method_73_1 rfl rfl ?_
  show Fi p e below s Z _ _ _ _ T0 (mkF m 2 #[.val (.ref a), .val (.int (Int32.ofNat cs.length)), .val (.ref u)] [(.ref u), (.ref a)])
  refine W0.callP me hEL (hw _ (List.mem_of_getElem? (i := 109) rfl)) (hw _ (List.mem_of_getElem? (i := 110) rfl)) (hw _ (List.mem_of_getElem? (i := 111) rfl)) (hw _ (List.mem_of_getElem? (i := 112) rfl)) (hw _ (List.mem_of_getElem? (i := 69) rfl)) (hw _ (List.mem_of_getElem? (i := 113) rfl)) (a := a) (argsL := [(.ref u)]) (rest := []) EA (c_infS (ss := []) g W0.old M' L) d_jdk_68_method_73_2 (by decide) (fun _ q => nomatch q) rfl (lenOf pd_20 rfl) (own_le rfl) (own_le rfl) (own_le rfl) (own_le rfl) rfl ?_
  intro T1 h1 v1 W1 z1 q1
  obtain ⟨sf1, X1, rfl, rfl⟩ := q1
  show Fi p e below s Z _ _ _ _ T1 (mkF m 5 #[.val (.ref a), .val (.int (Int32.ofNat cs.length)), .val (.ref u)] [])
  refine W1.aloadN me d_jdk_68_method_73_5 rfl rfl ?_
  refine W1.aloadN me d_jdk_68_method_73_6 rfl rfl ?_
  show Fi p e below s Z _ _ _ _ T1 (mkF m 7 #[.val (.ref a), .val (.int (Int32.ofNat cs.length)), .val (.ref u)] [(.ref a), (.ref u)])
  refine W1.getF me (hw _ (List.mem_of_getElem? (i := 73) rfl)) FV Via.refl d_jdk_68_method_73_7 ?_
  intro T2 W2
  show Fi p e below s Z _ _ _ _ T2 (mkF m 10 #[.val (.ref a), .val (.int (Int32.ofNat cs.length)), .val (.ref u)] [(.ref b), (.ref u)])
  refine W2.iloadN me d_jdk_68_method_73_10 rfl ?_
  refine W2.aloadN me d_jdk_68_method_73_11 rfl rfl ?_
  show Fi p e below s Z _ _ _ _ T2 (mkF m 12 #[.val (.ref a), .val (.int (Int32.ofNat cs.length)), .val (.ref u)] [(.ref a), (.int (Int32.ofNat cs.length)), (.ref b), (.ref u)])
  refine W2.getF me (hw _ (List.mem_of_getElem? (i := 75) rfl)) FC Via.refl d_jdk_68_method_73_12 ?_
  intro T3 W3
  show Fi p e below s Z _ _ _ _ T3 (mkF m 15 #[.val (.ref a), .val (.int (Int32.ofNat cs.length)), .val (.ref u)] [(.int (cdB ec)), (.int (Int32.ofNat cs.length)), (.ref b), (.ref u)])
  refine W3.callV me hEL (hw _ (List.mem_of_getElem? (i := 115) rfl)) (hw _ (List.mem_of_getElem? (i := 116) rfl)) (fun hZ' => notFace_of_selects (args := #[]) (mvT (s := s.setVm _) hZ' (hw _ (List.mem_of_getElem? (i := 118) rfl)))) (hw _ (List.mem_of_getElem? (i := 118) rfl)) (hw _ (List.mem_of_getElem? (i := 117) rfl)) (hw _ (List.mem_of_getElem? (i := 8) rfl)) (hw _ (List.mem_of_getElem? (i := 119) rfl)) (a := u) (argsL := [(.ref b), (.int (Int32.ofNat cs.length)), (.int (cdB ec))]) (rest := []) L.exa (c_gbS g W3.old L AB hfit hS hzb) d_jdk_68_method_73_15 (by decide) (fun _ q => q) rfl (lenOf pd_21 rfl) (own_le rfl) (own_le rfl) (own_le rfl) (own_le rfl) rfl ?_
  intro T4 h4 v4 W4 z4 q4
  obtain ⟨sf4, X4, rfl, K4, A4⟩ := q4
  show Fi p e below s Z _ _ _ _ T4 (mkF m 18 #[.val (.ref a), .val (.int (Int32.ofNat cs.length)), .val (.ref u)] [])
  have hab : a ≠ b := EA.neArv AB (hw _ (List.mem_of_getElem? (i := 60) rfl))
  exact W4.retUs hEL me d_jdk_68_method_73_18 (fun sf q => ⟨own_keep1 K4, b, Or.inl rfl, q _ hS, k, EA.keep K4, FV.keep K4 (ninS hab nin0), FC.keep K4 (ninS hab nin0), FN.keep K4 (ninS hab nin0), FM.keep K4 (ninS hab nin0), A4, EB.keep K4⟩) (by decide) (by decide)

set_option maxRecDepth 65536 in
set_option maxHeartbeats 4000000 in
theorem c_putT {l : Launch} {Z : State} {a0 : Array Value} {kn : Bool} (g : Gl Z a0) {ws : List Cond} {h0 : Heap} {ss : List Addr} (hO : Old Z Z.heap.size h0) {a b : Addr} {cs : List Int32} (M : SbB Z h0 a b true cs) {u vb : Addr} {ds : List Int32} (L : StB Z h0 u vb false ds) (hfit : cs.length + ds.length ≤ 16) (hvb : vb ≠ b) (hS : b ∈ ss) (hza : Z.heap.size ≤ a) (hzb : Z.heap.size ≤ b) :
    Con l Z consts_1 kn ws (⟨"java/lang/AbstractStringBuilder", "putStringAt", "(ILjava/lang/String;)V"⟩ : MethodName) jdk_68_method_73_code 3 none ({ frames := 6, cells := 0, slots := 0, locals := 91 } : Room) #[(.ref a), (.int (Int32.ofNat cs.length)), (.ref u)] h0 ss (rUs fun h sf => Keep h0 h [a, b] ∧ ∃ d, (d = b ∨ h0.size ≤ d) ∧ sf d ∧ SbP Z h a d true cs.length (cs ++ ds)) := by
  have hw := g.1
  have hEL := g.2.1
  refine Con.of (plainFor_of_name pn_5) hO ?_
  intro p e s m below meth c T0 me W0
  refine Fi.entry (L := #[.val (.ref a), .val (.int (Int32.ofNat cs.length)), .val (.ref u)]) (by first | (simp [entryFrame, mkF, argsToLocals, Value.category, maxLocals]; done) | (simp [entryFrame, mkF, argsToLocals, Value.category]; done) | rfl) ?_
  have M' := M
  obtain ⟨k, EA, FV, FC, FN, FM, AB, EB, hcap, hok⟩ := M
  refine W0.aloadN me d_jdk_68_method_73_0 rfl rfl ?_
  refine W0.aloadN me d_jdk_68_method_73_1 rfl rfl ?_
  show Fi p e below s Z _ _ _ _ T0 (mkF m 2 #[.val (.ref a), .val (.int (Int32.ofNat cs.length)), .val (.ref u)] [(.ref u), (.ref a)])
  refine W0.callP me hEL (hw _ (List.mem_of_getElem? (i := 109) rfl)) (hw _ (List.mem_of_getElem? (i := 110) rfl)) (hw _ (List.mem_of_getElem? (i := 111) rfl)) (hw _ (List.mem_of_getElem? (i := 112) rfl)) (hw _ (List.mem_of_getElem? (i := 69) rfl)) (hw _ (List.mem_of_getElem? (i := 113) rfl)) (a := a) (argsL := [(.ref u)]) (rest := []) EA (c_infT (ss := []) g W0.old M' L) d_jdk_68_method_73_2 (by decide) (fun _ q => nomatch q) rfl (lenOf pd_20 rfl) (own_le rfl) (own_le rfl) (own_le rfl) (own_le rfl) rfl ?_
  intro T1 h1 v1 W1 z1 q1
  obtain ⟨sf1, X1, rfl, rfl⟩ := q1
  show Fi p e below s Z _ _ _ _ T1 (mkF m 5 #[.val (.ref a), .val (.int (Int32.ofNat cs.length)), .val (.ref u)] [])
  refine W1.aloadN me d_jdk_68_method_73_5 rfl rfl ?_
  refine W1.aloadN me d_jdk_68_method_73_6 rfl rfl ?_
  show Fi p e below s Z _ _ _ _ T1 (mkF m 7 #[.val (.ref a), .val (.int (Int32.ofNat cs.length)), .val (.ref u)] [(.ref a), (.ref u)])
  refine W1.getF me (hw _ (List.mem_of_getElem? (i := 73) rfl)) FV Via.refl d_jdk_68_method_73_7 ?_
  intro T2 W2
  show Fi p e below s Z _ _ _ _ T2 (mkF m 10 #[.val (.ref a), .val (.int (Int32.ofNat cs.length)), .val (.ref u)] [(.ref b), (.ref u)])
  refine W2.iloadN me d_jdk_68_method_73_10 rfl ?_
  refine W2.aloadN me d_jdk_68_method_73_11 rfl rfl ?_
  show Fi p e below s Z _ _ _ _ T2 (mkF m 12 #[.val (.ref a), .val (.int (Int32.ofNat cs.length)), .val (.ref u)] [(.ref a), (.int (Int32.ofNat cs.length)), (.ref b), (.ref u)])
  refine W2.getF me (hw _ (List.mem_of_getElem? (i := 75) rfl)) FC Via.refl d_jdk_68_method_73_12 ?_
  intro T3 W3
  show Fi p e below s Z _ _ _ _ T3 (mkF m 15 #[.val (.ref a), .val (.int (Int32.ofNat cs.length)), .val (.ref u)] [(.int (1 : Int32)), (.int (Int32.ofNat cs.length)), (.ref b), (.ref u)])
  refine W3.callV me hEL (hw _ (List.mem_of_getElem? (i := 115) rfl)) (hw _ (List.mem_of_getElem? (i := 116) rfl)) (fun hZ' => notFace_of_selects (args := #[]) (mvT (s := s.setVm _) hZ' (hw _ (List.mem_of_getElem? (i := 118) rfl)))) (hw _ (List.mem_of_getElem? (i := 118) rfl)) (hw _ (List.mem_of_getElem? (i := 117) rfl)) (hw _ (List.mem_of_getElem? (i := 8) rfl)) (hw _ (List.mem_of_getElem? (i := 119) rfl)) (a := u) (argsL := [(.ref b), (.int (Int32.ofNat cs.length)), (.int (1 : Int32))]) (rest := []) L.exa (c_gbT g W3.old L AB hfit hvb hS hzb) d_jdk_68_method_73_15 (by decide) (fun _ q => q) rfl (lenOf pd_21 rfl) (own_le rfl) (own_le rfl) (own_le rfl) (own_le rfl) rfl ?_
  intro T4 h4 v4 W4 z4 q4
  obtain ⟨sf4, X4, rfl, K4, A4⟩ := q4
  show Fi p e below s Z _ _ _ _ T4 (mkF m 18 #[.val (.ref a), .val (.int (Int32.ofNat cs.length)), .val (.ref u)] [])
  have hab : a ≠ b := EA.neArv AB (hw _ (List.mem_of_getElem? (i := 60) rfl))
  exact W4.retUs hEL me d_jdk_68_method_73_18 (fun sf q => ⟨own_keep1 K4, b, Or.inl rfl, q _ hS, k, EA.keep K4, FV.keep K4 (ninS hab nin0), FC.keep K4 (ninS hab nin0), FN.keep K4 (ninS hab nin0), FM.keep K4 (ninS hab nin0), A4, EB.keep K4⟩) (by decide) (by decide)

set_option maxRecDepth 65536 in
set_option maxHeartbeats 4000000 in
theorem c_putF {l : Launch} {Z : State} {a0 : Array Value} {kn : Bool} (g : Gl Z a0) {ws : List Cond} {h0 : Heap} {ss : List Addr} (hO : Old Z Z.heap.size h0) {a b : Addr} {cs : List Int32} (M : SbB Z h0 a b false cs) {u vb : Addr} {ds : List Int32} (L : StB Z h0 u vb true ds) (hfit : cs.length + ds.length ≤ 16) (hvb : vb ≠ b) (hS : b ∈ ss) (hza : Z.heap.size ≤ a) (hzb : Z.heap.size ≤ b) :
    Con l Z consts_1 kn ws (⟨"java/lang/AbstractStringBuilder", "putStringAt", "(ILjava/lang/String;)V"⟩ : MethodName) jdk_68_method_73_code 3 none ({ frames := 7, cells := 1, slots := 32, locals := 102 } : Room) #[(.ref a), (.int (Int32.ofNat cs.length)), (.ref u)] h0 ss (rUs fun h sf => Keep h0 h [a, b] ∧ ∃ d, (d = b ∨ h0.size ≤ d) ∧ sf d ∧ SbP Z h a d true cs.length (cs ++ ds)) := by
  have hw := g.1
  have hEL := g.2.1
  refine Con.of (plainFor_of_name pn_5) hO ?_
  intro p e s m below meth c T0 me W0
  refine Fi.entry (L := #[.val (.ref a), .val (.int (Int32.ofNat cs.length)), .val (.ref u)]) (by first | (simp [entryFrame, mkF, argsToLocals, Value.category, maxLocals]; done) | (simp [entryFrame, mkF, argsToLocals, Value.category]; done) | rfl) ?_
  have M' := M
  obtain ⟨k, EA, FV, FC, FN, FM, AB, EB, hcap, hok⟩ := M
  refine W0.aloadN me d_jdk_68_method_73_0 rfl rfl ?_
  refine W0.aloadN me d_jdk_68_method_73_1 rfl rfl ?_
  show Fi p e below s Z _ _ _ _ T0 (mkF m 2 #[.val (.ref a), .val (.int (Int32.ofNat cs.length)), .val (.ref u)] [(.ref u), (.ref a)])
  refine W0.callP me hEL (hw _ (List.mem_of_getElem? (i := 109) rfl)) (hw _ (List.mem_of_getElem? (i := 110) rfl)) (hw _ (List.mem_of_getElem? (i := 111) rfl)) (hw _ (List.mem_of_getElem? (i := 112) rfl)) (hw _ (List.mem_of_getElem? (i := 69) rfl)) (hw _ (List.mem_of_getElem? (i := 113) rfl)) (a := a) (argsL := [(.ref u)]) (rest := []) EA (c_infF (ss := []) g W0.old M' L hza) d_jdk_68_method_73_2 (by decide) (fun _ q => nomatch q) rfl (lenOf pd_20 rfl) (own_le rfl) (own_le rfl) (own_le rfl) (own_le rfl) rfl ?_
  intro T1 h1 v1 W1 z1 q1
  obtain ⟨sf1, X1, rfl, K1, d1, y1, s1, M1⟩ := q1
  show Fi p e below s Z _ _ _ _ T1 (mkF m 5 #[.val (.ref a), .val (.int (Int32.ofNat cs.length)), .val (.ref u)] [])
  replace W1 := X1 [d1] (allS s1 all0)
  have hzd : Z.heap.size ≤ d1 := by have := hO.2.1; omega
  have hua : u ≠ a := Exa.ne L.exa EA (by decide)
  have hva : vb ≠ a := by obtain ⟨_, _, _, _, q, _⟩ := L; exact (EA.neArv q (hw _ (List.mem_of_getElem? (i := 60) rfl))).symm
  have L2 := L.keep K1 (ninS hua nin0) (ninS hva nin0)
  obtain ⟨k2, EA2, FV2, FC2, FN2, FM2, AB2, EB2, hcap2, hok2⟩ := M1
  refine W1.aloadN me d_jdk_68_method_73_5 rfl rfl ?_
  refine W1.aloadN me d_jdk_68_method_73_6 rfl rfl ?_
  show Fi p e below s Z _ _ _ _ T1 (mkF m 7 #[.val (.ref a), .val (.int (Int32.ofNat cs.length)), .val (.ref u)] [(.ref a), (.ref u)])
  refine W1.getF me (hw _ (List.mem_of_getElem? (i := 73) rfl)) FV2 Via.refl d_jdk_68_method_73_7 ?_
  intro T2 W2
  show Fi p e below s Z _ _ _ _ T2 (mkF m 10 #[.val (.ref a), .val (.int (Int32.ofNat cs.length)), .val (.ref u)] [(.ref d1), (.ref u)])
  refine W2.iloadN me d_jdk_68_method_73_10 rfl ?_
  refine W2.aloadN me d_jdk_68_method_73_11 rfl rfl ?_
  show Fi p e below s Z _ _ _ _ T2 (mkF m 12 #[.val (.ref a), .val (.int (Int32.ofNat cs.length)), .val (.ref u)] [(.ref a), (.int (Int32.ofNat cs.length)), (.ref d1), (.ref u)])
  refine W2.getF me (hw _ (List.mem_of_getElem? (i := 75) rfl)) FC2 Via.refl d_jdk_68_method_73_12 ?_
  intro T3 W3
  show Fi p e below s Z _ _ _ _ T3 (mkF m 15 #[.val (.ref a), .val (.int (Int32.ofNat cs.length)), .val (.ref u)] [(.int (1 : Int32)), (.int (Int32.ofNat cs.length)), (.ref d1), (.ref u)])
  refine W3.callV me hEL (hw _ (List.mem_of_getElem? (i := 115) rfl)) (hw _ (List.mem_of_getElem? (i := 116) rfl)) (fun hZ' => notFace_of_selects (args := #[]) (mvT (s := s.setVm _) hZ' (hw _ (List.mem_of_getElem? (i := 118) rfl)))) (hw _ (List.mem_of_getElem? (i := 118) rfl)) (hw _ (List.mem_of_getElem? (i := 117) rfl)) (hw _ (List.mem_of_getElem? (i := 8) rfl)) (hw _ (List.mem_of_getElem? (i := 119) rfl)) (a := u) (argsL := [(.ref d1), (.int (Int32.ofNat cs.length)), (.int (1 : Int32))]) (rest := []) L2.exa (c_gbS g W3.old (f := true) L2 AB2 hfit (List.mem_cons_self ..) hzd) d_jdk_68_method_73_15 (by decide) (fun _ q => q) rfl (lenOf pd_21 rfl) (own_le rfl) (own_le rfl) (own_le rfl) (own_le rfl) rfl ?_
  intro T4 h4 v4 W4 z4 q4
  obtain ⟨sf4, X4, rfl, K4, A4⟩ := q4
  show Fi p e below s Z _ _ _ _ T4 (mkF m 18 #[.val (.ref a), .val (.int (Int32.ofNat cs.length)), .val (.ref u)] [])
  have hab : a ≠ d1 := EA2.neArv AB2 (hw _ (List.mem_of_getElem? (i := 60) rfl))
  have K : Keep h0 h4 [a, b] := (own_ka K1).trans K4 (fun z hz => Or.inr (by rw [List.mem_singleton.mp hz]; exact y1))
  exact W4.retUs hEL me d_jdk_68_method_73_18 (fun sf q => ⟨K, d1, Or.inr y1, q _ (List.mem_cons_self ..), k2, EA2.keep K4, FV2.keep K4 (ninS hab nin0), FC2.keep K4 (ninS hab nin0), FN2.keep K4 (ninS hab nin0), FM2.keep K4 (ninS hab nin0), A4, EB2.keep K4⟩) (by decide) (by decide)

set_option maxRecDepth 65536 in
set_option maxHeartbeats 4000000 in
theorem c_asbaS {l : Launch} {Z : State} {a0 : Array Value} {kn : Bool} (g : Gl Z a0) {ws : List Cond} {h0 : Heap} {ss : List Addr} (hO : Old Z Z.heap.size h0) {a b : Addr} {ec : Bool} {cs : List Int32} (M : SbB Z h0 a b ec cs) {u vb : Addr} {ds : List Int32} (L : StB Z h0 u vb ec ds) (hfit : cs.length + ds.length ≤ 16) (hvb : vb ≠ b) (hS : b ∈ ss) (hza : Z.heap.size ≤ a) (hzb : Z.heap.size ≤ b) :
    Con l Z consts_1 kn ws (⟨"java/lang/AbstractStringBuilder", "append", "(Ljava/lang/String;)Ljava/lang/AbstractStringBuilder;"⟩ : MethodName) jdk_68_method_22_code 3 (some (.object "java/lang/AbstractStringBuilder")) ({ frames := 3, cells := 0, slots := 0, locals := 47 } : Room) #[(.ref a), (.ref u)] h0 ss (rVs fun v h sf => Keep h0 h [a, b] ∧ v = .ref a ∧ ∃ d, (d = b ∨ h0.size ≤ d) ∧ sf d ∧ SbB Z h a d ec (cs ++ ds)) := by
  have hw := g.1
  have hEL := g.2.1
  refine Con.of (plainFor_of_name pn_5) hO ?_
  intro p e s m below meth c T0 me W0
  refine Fi.entry (L := #[.val (.ref a), .val (.ref u), .unset]) (by first | (simp [entryFrame, mkF, argsToLocals, Value.category, maxLocals]; done) | (simp [entryFrame, mkF, argsToLocals, Value.category]; done) | rfl) ?_
  have n_value_coder : Jvm.RoadKit.slotOf Z "java/lang/AbstractStringBuilder" "value" "[B" ≠ Jvm.RoadKit.slotOf Z "java/lang/AbstractStringBuilder" "coder" "B" := slot_ne (Or.inl (hw _ (List.mem_of_getElem? (i := 74) rfl)) : Laid Z a0 "java/lang/StringBuilder" "java/lang/AbstractStringBuilder" "value" "[B") (Or.inl (hw _ (List.mem_of_getElem? (i := 76) rfl)) : Laid Z a0 "java/lang/StringBuilder" "java/lang/AbstractStringBuilder" "coder" "B") (by decide) (t := .array .byte) (t' := .byte) (by decide) (by decide)
  have n_value_count : Jvm.RoadKit.slotOf Z "java/lang/AbstractStringBuilder" "value" "[B" ≠ Jvm.RoadKit.slotOf Z "java/lang/AbstractStringBuilder" "count" "I" := slot_ne (Or.inl (hw _ (List.mem_of_getElem? (i := 74) rfl)) : Laid Z a0 "java/lang/StringBuilder" "java/lang/AbstractStringBuilder" "value" "[B") (Or.inl (hw _ (List.mem_of_getElem? (i := 98) rfl)) : Laid Z a0 "java/lang/StringBuilder" "java/lang/AbstractStringBuilder" "count" "I") (by decide) (t := .array .byte) (t' := .int) (by decide) (by decide)
  have n_value_maybeLatin1 : Jvm.RoadKit.slotOf Z "java/lang/AbstractStringBuilder" "value" "[B" ≠ Jvm.RoadKit.slotOf Z "java/lang/AbstractStringBuilder" "maybeLatin1" "Z" := slot_ne (Or.inl (hw _ (List.mem_of_getElem? (i := 74) rfl)) : Laid Z a0 "java/lang/StringBuilder" "java/lang/AbstractStringBuilder" "value" "[B") (Or.inl (hw _ (List.mem_of_getElem? (i := 239) rfl)) : Laid Z a0 "java/lang/StringBuilder" "java/lang/AbstractStringBuilder" "maybeLatin1" "Z") (by decide) (t := .array .byte) (t' := .boolean) (by decide) (by decide)
  have n_coder_count : Jvm.RoadKit.slotOf Z "java/lang/AbstractStringBuilder" "coder" "B" ≠ Jvm.RoadKit.slotOf Z "java/lang/AbstractStringBuilder" "count" "I" := slot_ne (Or.inl (hw _ (List.mem_of_getElem? (i := 76) rfl)) : Laid Z a0 "java/lang/StringBuilder" "java/lang/AbstractStringBuilder" "coder" "B") (Or.inl (hw _ (List.mem_of_getElem? (i := 98) rfl)) : Laid Z a0 "java/lang/StringBuilder" "java/lang/AbstractStringBuilder" "count" "I") (by decide) (t := .byte) (t' := .int) (by decide) (by decide)
  have n_coder_maybeLatin1 : Jvm.RoadKit.slotOf Z "java/lang/AbstractStringBuilder" "coder" "B" ≠ Jvm.RoadKit.slotOf Z "java/lang/AbstractStringBuilder" "maybeLatin1" "Z" := slot_ne (Or.inl (hw _ (List.mem_of_getElem? (i := 76) rfl)) : Laid Z a0 "java/lang/StringBuilder" "java/lang/AbstractStringBuilder" "coder" "B") (Or.inl (hw _ (List.mem_of_getElem? (i := 239) rfl)) : Laid Z a0 "java/lang/StringBuilder" "java/lang/AbstractStringBuilder" "maybeLatin1" "Z") (by decide) (t := .byte) (t' := .boolean) (by decide) (by decide)
  have n_count_maybeLatin1 : Jvm.RoadKit.slotOf Z "java/lang/AbstractStringBuilder" "count" "I" ≠ Jvm.RoadKit.slotOf Z "java/lang/AbstractStringBuilder" "maybeLatin1" "Z" := slot_ne (Or.inl (hw _ (List.mem_of_getElem? (i := 98) rfl)) : Laid Z a0 "java/lang/StringBuilder" "java/lang/AbstractStringBuilder" "count" "I") (Or.inl (hw _ (List.mem_of_getElem? (i := 239) rfl)) : Laid Z a0 "java/lang/StringBuilder" "java/lang/AbstractStringBuilder" "maybeLatin1" "Z") (by decide) (t := .int) (t' := .boolean) (by decide) (by decide)
  refine W0.aloadN me d_jdk_68_method_22_0 rfl rfl ?_
  show Fi p e below s Z _ _ _ _ T0 (mkF m 1 #[.val (.ref a), .val (.ref u), .unset] [(.ref u)])
  refine W0.nonnullY me d_jdk_68_method_22_1 (pc' := 9) (by decide) (by decide) ?_
  show Fi p e below s Z _ _ _ _ T0 (mkF m 9 #[.val (.ref a), .val (.ref u), .unset] [])
  refine W0.aloadN me d_jdk_68_method_22_9 rfl rfl ?_
  show Fi p e below s Z _ _ _ _ T0 (mkF m 10 #[.val (.ref a), .val (.ref u), .unset] [(.ref u)])
  refine W0.callV me hEL (hw _ (List.mem_of_getElem? (i := 87) rfl)) (hw _ (List.mem_of_getElem? (i := 88) rfl)) (fun hZ' => notFace_of_selects (args := #[]) (mvT (s := s.setVm _) hZ' (hw _ (List.mem_of_getElem? (i := 90) rfl)))) (hw _ (List.mem_of_getElem? (i := 90) rfl)) (hw _ (List.mem_of_getElem? (i := 89) rfl)) (hw _ (List.mem_of_getElem? (i := 8) rfl)) (hw _ (List.mem_of_getElem? (i := 91) rfl)) (a := u) (argsL := []) (rest := []) L.exa (c_lenE (ss := []) g W0.old L) d_jdk_68_method_22_10 (by decide) (fun _ q => nomatch q) rfl (lenOf pd_22 rfl) (own_le rfl) (own_le rfl) (own_le rfl) (own_le rfl) rfl ?_
  intro T1 h1 v1 W1 z1 q1
  obtain ⟨sf1, X1, _, rfl, rfl, rfl⟩ := q1
  show Fi p e below s Z _ _ _ _ T1 (mkF m 13 #[.val (.ref a), .val (.ref u), .unset] [(.int (Int32.ofNat ds.length))])
  refine W1.istoreN me d_jdk_68_method_22_13 (l' := #[.val (.ref a), .val (.ref u), .val (.int (Int32.ofNat ds.length))]) rfl ?_
  refine W1.aloadN me d_jdk_68_method_22_14 rfl rfl ?_
  refine W1.aloadN me d_jdk_68_method_22_15 rfl rfl ?_
  show Fi p e below s Z _ _ _ _ T1 (mkF m 16 #[.val (.ref a), .val (.ref u), .val (.int (Int32.ofNat ds.length))] [(.ref a), (.ref a)])
  have M' := M
  obtain ⟨k, EA, FV, FC, FN, FM, AB, EB, hcap, hok⟩ := M
  refine W1.getF me (hw _ (List.mem_of_getElem? (i := 97) rfl)) FN Via.refl d_jdk_68_method_22_16 ?_
  intro T2 W2
  show Fi p e below s Z _ _ _ _ T2 (mkF m 19 #[.val (.ref a), .val (.ref u), .val (.int (Int32.ofNat ds.length))] [(.int (Int32.ofNat cs.length)), (.ref a)])
  refine W2.iloadN me d_jdk_68_method_22_19 rfl ?_
  show Fi p e below s Z _ _ _ _ T2 (mkF m 20 #[.val (.ref a), .val (.ref u), .val (.int (Int32.ofNat ds.length))] [(.int (Int32.ofNat ds.length)), (.int (Int32.ofNat cs.length)), (.ref a)])
  refine W2.iadd me d_jdk_68_method_22_20 ?_
  rw [on_add]
  show Fi p e below s Z _ _ _ _ T2 (mkF m 21 #[.val (.ref a), .val (.ref u), .val (.int (Int32.ofNat ds.length))] [(.int (Int32.ofNat (cs.length + ds.length))), (.ref a)])
  refine W2.callP me hEL (hw _ (List.mem_of_getElem? (i := 99) rfl)) (hw _ (List.mem_of_getElem? (i := 100) rfl)) (hw _ (List.mem_of_getElem? (i := 101) rfl)) (hw _ (List.mem_of_getElem? (i := 102) rfl)) (hw _ (List.mem_of_getElem? (i := 69) rfl)) (hw _ (List.mem_of_getElem? (i := 103) rfl)) (a := a) (argsL := [(.int (Int32.ofNat (cs.length + ds.length)))]) (rest := []) EA (c_ensB (ss := []) g W2.old M' hfit) d_jdk_68_method_22_21 (by decide) (fun _ q => nomatch q) rfl (lenOf pd_14 rfl) (own_le rfl) (own_le rfl) (own_le rfl) (own_le rfl) rfl ?_
  intro T3 h3 v3 W3 z3 q3
  obtain ⟨sf3, X3, rfl, rfl⟩ := q3
  show Fi p e below s Z _ _ _ _ T3 (mkF m 24 #[.val (.ref a), .val (.ref u), .val (.int (Int32.ofNat ds.length))] [])
  refine W3.aloadN me d_jdk_68_method_22_24 rfl rfl ?_
  refine W3.aloadN me d_jdk_68_method_22_25 rfl rfl ?_
  show Fi p e below s Z _ _ _ _ T3 (mkF m 26 #[.val (.ref a), .val (.ref u), .val (.int (Int32.ofNat ds.length))] [(.ref a), (.ref a)])
  refine W3.getF me (hw _ (List.mem_of_getElem? (i := 97) rfl)) FN Via.refl d_jdk_68_method_22_26 ?_
  intro T4 W4
  show Fi p e below s Z _ _ _ _ T4 (mkF m 29 #[.val (.ref a), .val (.ref u), .val (.int (Int32.ofNat ds.length))] [(.int (Int32.ofNat cs.length)), (.ref a)])
  refine W4.aloadN me d_jdk_68_method_22_29 rfl rfl ?_
  show Fi p e below s Z _ _ _ _ T4 (mkF m 30 #[.val (.ref a), .val (.ref u), .val (.int (Int32.ofNat ds.length))] [(.ref u), (.int (Int32.ofNat cs.length)), (.ref a)])
  refine W4.callP me hEL (hw _ (List.mem_of_getElem? (i := 104) rfl)) (hw _ (List.mem_of_getElem? (i := 105) rfl)) (hw _ (List.mem_of_getElem? (i := 106) rfl)) (hw _ (List.mem_of_getElem? (i := 107) rfl)) (hw _ (List.mem_of_getElem? (i := 69) rfl)) (hw _ (List.mem_of_getElem? (i := 108) rfl)) (a := a) (argsL := [(.int (Int32.ofNat cs.length)), (.ref u)]) (rest := []) EA (c_putS g W4.old M' L hfit hvb hS hza hzb) d_jdk_68_method_22_30 (by decide) (fun _ q => q) rfl (lenOf pd_23 rfl) (own_le rfl) (own_le rfl) (own_le rfl) (own_le rfl) rfl ?_
  intro T5 h5 v5 W5 z5 q5
  obtain ⟨sf5, X5, rfl, K5, d5, y5, s5, M5⟩ := q5
  show Fi p e below s Z _ _ _ _ T5 (mkF m 33 #[.val (.ref a), .val (.ref u), .val (.int (Int32.ofNat ds.length))] [])
  replace W5 := X5 [d5] (allS s5 all0)
  obtain ⟨k2, EA2, FV2, FC2, FN2, FM2, AB2, EB2⟩ := M5
  have hab : a ≠ d5 := EA2.neArv AB2 (hw _ (List.mem_of_getElem? (i := 60) rfl))
  refine W5.aloadN me d_jdk_68_method_22_33 rfl rfl ?_
  refine W5.dup me d_jdk_68_method_22_34 rfl ?_
  show Fi p e below s Z _ _ _ _ T5 (mkF m 35 #[.val (.ref a), .val (.ref u), .val (.int (Int32.ofNat ds.length))] [(.ref a), (.ref a)])
  refine W5.getF me (hw _ (List.mem_of_getElem? (i := 97) rfl)) FN2 Via.refl d_jdk_68_method_22_35 ?_
  intro T6 W6
  show Fi p e below s Z _ _ _ _ T6 (mkF m 38 #[.val (.ref a), .val (.ref u), .val (.int (Int32.ofNat ds.length))] [(.int (Int32.ofNat cs.length)), (.ref a)])
  refine W6.iloadN me d_jdk_68_method_22_38 rfl ?_
  show Fi p e below s Z _ _ _ _ T6 (mkF m 39 #[.val (.ref a), .val (.ref u), .val (.int (Int32.ofNat ds.length))] [(.int (Int32.ofNat ds.length)), (.int (Int32.ofNat cs.length)), (.ref a)])
  refine W6.iadd me d_jdk_68_method_22_39 ?_
  rw [on_add]
  show Fi p e below s Z _ _ _ _ T6 (mkF m 40 #[.val (.ref a), .val (.ref u), .val (.int (Int32.ofNat ds.length))] [(.int (Int32.ofNat (cs.length + ds.length))), (.ref a)])
  refine W6.putF me (hw _ (List.mem_of_getElem? (i := 97) rfl)) FN2 Via.refl EA2 (Or.inl (hw _ (List.mem_of_getElem? (i := 98) rfl))) (hw _ (List.mem_of_getElem? (i := 60) rfl)) (ty := .int) (by decide) rfl rfl (Or.inr (Or.inl ⟨"java/lang/StringBuilder", EA2, by decide, by decide⟩)) hza d_jdk_68_method_22_40 ?_
  intro T7 h7 W7 R7
  show Fi p e below s Z _ _ _ _ T7 (mkF m 43 #[.val (.ref a), .val (.ref u), .val (.int (Int32.ofNat ds.length))] [])
  refine W7.aloadN me d_jdk_68_method_22_43 rfl rfl ?_
  show Fi p e below s Z _ _ _ _ T7 (mkF m 44 #[.val (.ref a), .val (.ref u), .val (.int (Int32.ofNat ds.length))] [(.ref a)])
  have hlen : (cs ++ ds).length = cs.length + ds.length := List.length_append
  have hok2 : okB ec (cs ++ ds) := okB_app hok (by obtain ⟨_, _, _, _, _, _, q⟩ := L; exact q)
  have S : SbB Z h7 a d5 ec (cs ++ ds) := ⟨k2, EA2.wr R7, FV2.other R7 (Or.inr n_value_count), FC2.other R7 (Or.inr n_coder_count), by rw [hlen]; exact FN2.same R7, FM2.other R7 (Or.inr n_count_maybeLatin1.symm), AB2.other R7 hab.symm, EB2.wr R7, by rw [hlen]; exact hfit, hok2⟩
  have K : Keep h0 h7 [a, b] := K5.wr R7 (Or.inl (List.mem_cons_self ..))
  exact W7.retAs hEL me d_jdk_68_method_22_44 (fun sf q => ⟨K, rfl, d5, y5, q _ (List.mem_cons_self ..), S⟩) (by decide) (by decide) rfl rfl rfl

set_option maxRecDepth 65536 in
set_option maxHeartbeats 4000000 in
theorem c_asbaT {l : Launch} {Z : State} {a0 : Array Value} {kn : Bool} (g : Gl Z a0) {ws : List Cond} {h0 : Heap} {ss : List Addr} (hO : Old Z Z.heap.size h0) {a b : Addr} {cs : List Int32} (M : SbB Z h0 a b true cs) {u vb : Addr} {ds : List Int32} (L : StB Z h0 u vb false ds) (hfit : cs.length + ds.length ≤ 16) (hvb : vb ≠ b) (hS : b ∈ ss) (hza : Z.heap.size ≤ a) (hzb : Z.heap.size ≤ b) :
    Con l Z consts_1 kn ws (⟨"java/lang/AbstractStringBuilder", "append", "(Ljava/lang/String;)Ljava/lang/AbstractStringBuilder;"⟩ : MethodName) jdk_68_method_22_code 3 (some (.object "java/lang/AbstractStringBuilder")) ({ frames := 7, cells := 0, slots := 0, locals := 105 } : Room) #[(.ref a), (.ref u)] h0 ss (rVs fun v h sf => Keep h0 h [a, b] ∧ v = .ref a ∧ ∃ d, (d = b ∨ h0.size ≤ d) ∧ sf d ∧ SbB Z h a d true (cs ++ ds)) := by
  have hw := g.1
  have hEL := g.2.1
  refine Con.of (plainFor_of_name pn_5) hO ?_
  intro p e s m below meth c T0 me W0
  refine Fi.entry (L := #[.val (.ref a), .val (.ref u), .unset]) (by first | (simp [entryFrame, mkF, argsToLocals, Value.category, maxLocals]; done) | (simp [entryFrame, mkF, argsToLocals, Value.category]; done) | rfl) ?_
  have n_value_coder : Jvm.RoadKit.slotOf Z "java/lang/AbstractStringBuilder" "value" "[B" ≠ Jvm.RoadKit.slotOf Z "java/lang/AbstractStringBuilder" "coder" "B" := slot_ne (Or.inl (hw _ (List.mem_of_getElem? (i := 74) rfl)) : Laid Z a0 "java/lang/StringBuilder" "java/lang/AbstractStringBuilder" "value" "[B") (Or.inl (hw _ (List.mem_of_getElem? (i := 76) rfl)) : Laid Z a0 "java/lang/StringBuilder" "java/lang/AbstractStringBuilder" "coder" "B") (by decide) (t := .array .byte) (t' := .byte) (by decide) (by decide)
  have n_value_count : Jvm.RoadKit.slotOf Z "java/lang/AbstractStringBuilder" "value" "[B" ≠ Jvm.RoadKit.slotOf Z "java/lang/AbstractStringBuilder" "count" "I" := slot_ne (Or.inl (hw _ (List.mem_of_getElem? (i := 74) rfl)) : Laid Z a0 "java/lang/StringBuilder" "java/lang/AbstractStringBuilder" "value" "[B") (Or.inl (hw _ (List.mem_of_getElem? (i := 98) rfl)) : Laid Z a0 "java/lang/StringBuilder" "java/lang/AbstractStringBuilder" "count" "I") (by decide) (t := .array .byte) (t' := .int) (by decide) (by decide)
  have n_value_maybeLatin1 : Jvm.RoadKit.slotOf Z "java/lang/AbstractStringBuilder" "value" "[B" ≠ Jvm.RoadKit.slotOf Z "java/lang/AbstractStringBuilder" "maybeLatin1" "Z" := slot_ne (Or.inl (hw _ (List.mem_of_getElem? (i := 74) rfl)) : Laid Z a0 "java/lang/StringBuilder" "java/lang/AbstractStringBuilder" "value" "[B") (Or.inl (hw _ (List.mem_of_getElem? (i := 239) rfl)) : Laid Z a0 "java/lang/StringBuilder" "java/lang/AbstractStringBuilder" "maybeLatin1" "Z") (by decide) (t := .array .byte) (t' := .boolean) (by decide) (by decide)
  have n_coder_count : Jvm.RoadKit.slotOf Z "java/lang/AbstractStringBuilder" "coder" "B" ≠ Jvm.RoadKit.slotOf Z "java/lang/AbstractStringBuilder" "count" "I" := slot_ne (Or.inl (hw _ (List.mem_of_getElem? (i := 76) rfl)) : Laid Z a0 "java/lang/StringBuilder" "java/lang/AbstractStringBuilder" "coder" "B") (Or.inl (hw _ (List.mem_of_getElem? (i := 98) rfl)) : Laid Z a0 "java/lang/StringBuilder" "java/lang/AbstractStringBuilder" "count" "I") (by decide) (t := .byte) (t' := .int) (by decide) (by decide)
  have n_coder_maybeLatin1 : Jvm.RoadKit.slotOf Z "java/lang/AbstractStringBuilder" "coder" "B" ≠ Jvm.RoadKit.slotOf Z "java/lang/AbstractStringBuilder" "maybeLatin1" "Z" := slot_ne (Or.inl (hw _ (List.mem_of_getElem? (i := 76) rfl)) : Laid Z a0 "java/lang/StringBuilder" "java/lang/AbstractStringBuilder" "coder" "B") (Or.inl (hw _ (List.mem_of_getElem? (i := 239) rfl)) : Laid Z a0 "java/lang/StringBuilder" "java/lang/AbstractStringBuilder" "maybeLatin1" "Z") (by decide) (t := .byte) (t' := .boolean) (by decide) (by decide)
  have n_count_maybeLatin1 : Jvm.RoadKit.slotOf Z "java/lang/AbstractStringBuilder" "count" "I" ≠ Jvm.RoadKit.slotOf Z "java/lang/AbstractStringBuilder" "maybeLatin1" "Z" := slot_ne (Or.inl (hw _ (List.mem_of_getElem? (i := 98) rfl)) : Laid Z a0 "java/lang/StringBuilder" "java/lang/AbstractStringBuilder" "count" "I") (Or.inl (hw _ (List.mem_of_getElem? (i := 239) rfl)) : Laid Z a0 "java/lang/StringBuilder" "java/lang/AbstractStringBuilder" "maybeLatin1" "Z") (by decide) (t := .int) (t' := .boolean) (by decide) (by decide)
  refine W0.aloadN me d_jdk_68_method_22_0 rfl rfl ?_
  show Fi p e below s Z _ _ _ _ T0 (mkF m 1 #[.val (.ref a), .val (.ref u), .unset] [(.ref u)])
  refine W0.nonnullY me d_jdk_68_method_22_1 (pc' := 9) (by decide) (by decide) ?_
  show Fi p e below s Z _ _ _ _ T0 (mkF m 9 #[.val (.ref a), .val (.ref u), .unset] [])
  refine W0.aloadN me d_jdk_68_method_22_9 rfl rfl ?_
  show Fi p e below s Z _ _ _ _ T0 (mkF m 10 #[.val (.ref a), .val (.ref u), .unset] [(.ref u)])
  refine W0.callV me hEL (hw _ (List.mem_of_getElem? (i := 87) rfl)) (hw _ (List.mem_of_getElem? (i := 88) rfl)) (fun hZ' => notFace_of_selects (args := #[]) (mvT (s := s.setVm _) hZ' (hw _ (List.mem_of_getElem? (i := 90) rfl)))) (hw _ (List.mem_of_getElem? (i := 90) rfl)) (hw _ (List.mem_of_getElem? (i := 89) rfl)) (hw _ (List.mem_of_getElem? (i := 8) rfl)) (hw _ (List.mem_of_getElem? (i := 91) rfl)) (a := u) (argsL := []) (rest := []) L.exa (c_lenE (ss := []) g W0.old L) d_jdk_68_method_22_10 (by decide) (fun _ q => nomatch q) rfl (lenOf pd_22 rfl) (own_le rfl) (own_le rfl) (own_le rfl) (own_le rfl) rfl ?_
  intro T1 h1 v1 W1 z1 q1
  obtain ⟨sf1, X1, _, rfl, rfl, rfl⟩ := q1
  show Fi p e below s Z _ _ _ _ T1 (mkF m 13 #[.val (.ref a), .val (.ref u), .unset] [(.int (Int32.ofNat ds.length))])
  refine W1.istoreN me d_jdk_68_method_22_13 (l' := #[.val (.ref a), .val (.ref u), .val (.int (Int32.ofNat ds.length))]) rfl ?_
  refine W1.aloadN me d_jdk_68_method_22_14 rfl rfl ?_
  refine W1.aloadN me d_jdk_68_method_22_15 rfl rfl ?_
  show Fi p e below s Z _ _ _ _ T1 (mkF m 16 #[.val (.ref a), .val (.ref u), .val (.int (Int32.ofNat ds.length))] [(.ref a), (.ref a)])
  have M' := M
  obtain ⟨k, EA, FV, FC, FN, FM, AB, EB, hcap, hok⟩ := M
  refine W1.getF me (hw _ (List.mem_of_getElem? (i := 97) rfl)) FN Via.refl d_jdk_68_method_22_16 ?_
  intro T2 W2
  show Fi p e below s Z _ _ _ _ T2 (mkF m 19 #[.val (.ref a), .val (.ref u), .val (.int (Int32.ofNat ds.length))] [(.int (Int32.ofNat cs.length)), (.ref a)])
  refine W2.iloadN me d_jdk_68_method_22_19 rfl ?_
  show Fi p e below s Z _ _ _ _ T2 (mkF m 20 #[.val (.ref a), .val (.ref u), .val (.int (Int32.ofNat ds.length))] [(.int (Int32.ofNat ds.length)), (.int (Int32.ofNat cs.length)), (.ref a)])
  refine W2.iadd me d_jdk_68_method_22_20 ?_
  rw [on_add]
  show Fi p e below s Z _ _ _ _ T2 (mkF m 21 #[.val (.ref a), .val (.ref u), .val (.int (Int32.ofNat ds.length))] [(.int (Int32.ofNat (cs.length + ds.length))), (.ref a)])
  refine W2.callP me hEL (hw _ (List.mem_of_getElem? (i := 99) rfl)) (hw _ (List.mem_of_getElem? (i := 100) rfl)) (hw _ (List.mem_of_getElem? (i := 101) rfl)) (hw _ (List.mem_of_getElem? (i := 102) rfl)) (hw _ (List.mem_of_getElem? (i := 69) rfl)) (hw _ (List.mem_of_getElem? (i := 103) rfl)) (a := a) (argsL := [(.int (Int32.ofNat (cs.length + ds.length)))]) (rest := []) EA (c_ensB (ss := []) g W2.old M' hfit) d_jdk_68_method_22_21 (by decide) (fun _ q => nomatch q) rfl (lenOf pd_14 rfl) (own_le rfl) (own_le rfl) (own_le rfl) (own_le rfl) rfl ?_
  intro T3 h3 v3 W3 z3 q3
  obtain ⟨sf3, X3, rfl, rfl⟩ := q3
  show Fi p e below s Z _ _ _ _ T3 (mkF m 24 #[.val (.ref a), .val (.ref u), .val (.int (Int32.ofNat ds.length))] [])
  refine W3.aloadN me d_jdk_68_method_22_24 rfl rfl ?_
  refine W3.aloadN me d_jdk_68_method_22_25 rfl rfl ?_
  show Fi p e below s Z _ _ _ _ T3 (mkF m 26 #[.val (.ref a), .val (.ref u), .val (.int (Int32.ofNat ds.length))] [(.ref a), (.ref a)])
  refine W3.getF me (hw _ (List.mem_of_getElem? (i := 97) rfl)) FN Via.refl d_jdk_68_method_22_26 ?_
  intro T4 W4
  show Fi p e below s Z _ _ _ _ T4 (mkF m 29 #[.val (.ref a), .val (.ref u), .val (.int (Int32.ofNat ds.length))] [(.int (Int32.ofNat cs.length)), (.ref a)])
  refine W4.aloadN me d_jdk_68_method_22_29 rfl rfl ?_
  show Fi p e below s Z _ _ _ _ T4 (mkF m 30 #[.val (.ref a), .val (.ref u), .val (.int (Int32.ofNat ds.length))] [(.ref u), (.int (Int32.ofNat cs.length)), (.ref a)])
  refine W4.callP me hEL (hw _ (List.mem_of_getElem? (i := 104) rfl)) (hw _ (List.mem_of_getElem? (i := 105) rfl)) (hw _ (List.mem_of_getElem? (i := 106) rfl)) (hw _ (List.mem_of_getElem? (i := 107) rfl)) (hw _ (List.mem_of_getElem? (i := 69) rfl)) (hw _ (List.mem_of_getElem? (i := 108) rfl)) (a := a) (argsL := [(.int (Int32.ofNat cs.length)), (.ref u)]) (rest := []) EA (c_putT g W4.old M' L hfit hvb hS hza hzb) d_jdk_68_method_22_30 (by decide) (fun _ q => q) rfl (lenOf pd_23 rfl) (own_le rfl) (own_le rfl) (own_le rfl) (own_le rfl) rfl ?_
  intro T5 h5 v5 W5 z5 q5
  obtain ⟨sf5, X5, rfl, K5, d5, y5, s5, M5⟩ := q5
  show Fi p e below s Z _ _ _ _ T5 (mkF m 33 #[.val (.ref a), .val (.ref u), .val (.int (Int32.ofNat ds.length))] [])
  replace W5 := X5 [d5] (allS s5 all0)
  obtain ⟨k2, EA2, FV2, FC2, FN2, FM2, AB2, EB2⟩ := M5
  have hab : a ≠ d5 := EA2.neArv AB2 (hw _ (List.mem_of_getElem? (i := 60) rfl))
  refine W5.aloadN me d_jdk_68_method_22_33 rfl rfl ?_
  refine W5.dup me d_jdk_68_method_22_34 rfl ?_
  show Fi p e below s Z _ _ _ _ T5 (mkF m 35 #[.val (.ref a), .val (.ref u), .val (.int (Int32.ofNat ds.length))] [(.ref a), (.ref a)])
  refine W5.getF me (hw _ (List.mem_of_getElem? (i := 97) rfl)) FN2 Via.refl d_jdk_68_method_22_35 ?_
  intro T6 W6
  show Fi p e below s Z _ _ _ _ T6 (mkF m 38 #[.val (.ref a), .val (.ref u), .val (.int (Int32.ofNat ds.length))] [(.int (Int32.ofNat cs.length)), (.ref a)])
  refine W6.iloadN me d_jdk_68_method_22_38 rfl ?_
  show Fi p e below s Z _ _ _ _ T6 (mkF m 39 #[.val (.ref a), .val (.ref u), .val (.int (Int32.ofNat ds.length))] [(.int (Int32.ofNat ds.length)), (.int (Int32.ofNat cs.length)), (.ref a)])
  refine W6.iadd me d_jdk_68_method_22_39 ?_
  rw [on_add]
  show Fi p e below s Z _ _ _ _ T6 (mkF m 40 #[.val (.ref a), .val (.ref u), .val (.int (Int32.ofNat ds.length))] [(.int (Int32.ofNat (cs.length + ds.length))), (.ref a)])
  refine W6.putF me (hw _ (List.mem_of_getElem? (i := 97) rfl)) FN2 Via.refl EA2 (Or.inl (hw _ (List.mem_of_getElem? (i := 98) rfl))) (hw _ (List.mem_of_getElem? (i := 60) rfl)) (ty := .int) (by decide) rfl rfl (Or.inr (Or.inl ⟨"java/lang/StringBuilder", EA2, by decide, by decide⟩)) hza d_jdk_68_method_22_40 ?_
  intro T7 h7 W7 R7
  show Fi p e below s Z _ _ _ _ T7 (mkF m 43 #[.val (.ref a), .val (.ref u), .val (.int (Int32.ofNat ds.length))] [])
  refine W7.aloadN me d_jdk_68_method_22_43 rfl rfl ?_
  show Fi p e below s Z _ _ _ _ T7 (mkF m 44 #[.val (.ref a), .val (.ref u), .val (.int (Int32.ofNat ds.length))] [(.ref a)])
  have hlen : (cs ++ ds).length = cs.length + ds.length := List.length_append
  have hok2 : okB true (cs ++ ds) := okB_app hok (by obtain ⟨_, _, _, _, _, _, q⟩ := L; exact C8.c16 q)
  have S : SbB Z h7 a d5 true (cs ++ ds) := ⟨k2, EA2.wr R7, FV2.other R7 (Or.inr n_value_count), FC2.other R7 (Or.inr n_coder_count), by rw [hlen]; exact FN2.same R7, FM2.other R7 (Or.inr n_count_maybeLatin1.symm), AB2.other R7 hab.symm, EB2.wr R7, by rw [hlen]; exact hfit, hok2⟩
  have K : Keep h0 h7 [a, b] := K5.wr R7 (Or.inl (List.mem_cons_self ..))
  exact W7.retAs hEL me d_jdk_68_method_22_44 (fun sf q => ⟨K, rfl, d5, y5, q _ (List.mem_cons_self ..), S⟩) (by decide) (by decide) rfl rfl rfl

set_option maxRecDepth 65536 in
set_option maxHeartbeats 4000000 in
theorem c_asbaF {l : Launch} {Z : State} {a0 : Array Value} {kn : Bool} (g : Gl Z a0) {ws : List Cond} {h0 : Heap} {ss : List Addr} (hO : Old Z Z.heap.size h0) {a b : Addr} {cs : List Int32} (M : SbB Z h0 a b false cs) {u vb : Addr} {ds : List Int32} (L : StB Z h0 u vb true ds) (hfit : cs.length + ds.length ≤ 16) (hvb : vb ≠ b) (hS : b ∈ ss) (hza : Z.heap.size ≤ a) (hzb : Z.heap.size ≤ b) :
    Con l Z consts_1 kn ws (⟨"java/lang/AbstractStringBuilder", "append", "(Ljava/lang/String;)Ljava/lang/AbstractStringBuilder;"⟩ : MethodName) jdk_68_method_22_code 3 (some (.object "java/lang/AbstractStringBuilder")) ({ frames := 8, cells := 1, slots := 32, locals := 116 } : Room) #[(.ref a), (.ref u)] h0 ss (rVs fun v h sf => Keep h0 h [a, b] ∧ v = .ref a ∧ ∃ d, (d = b ∨ h0.size ≤ d) ∧ sf d ∧ SbB Z h a d true (cs ++ ds)) := by
  have hw := g.1
  have hEL := g.2.1
  refine Con.of (plainFor_of_name pn_5) hO ?_
  intro p e s m below meth c T0 me W0
  refine Fi.entry (L := #[.val (.ref a), .val (.ref u), .unset]) (by first | (simp [entryFrame, mkF, argsToLocals, Value.category, maxLocals]; done) | (simp [entryFrame, mkF, argsToLocals, Value.category]; done) | rfl) ?_
  have n_value_coder : Jvm.RoadKit.slotOf Z "java/lang/AbstractStringBuilder" "value" "[B" ≠ Jvm.RoadKit.slotOf Z "java/lang/AbstractStringBuilder" "coder" "B" := slot_ne (Or.inl (hw _ (List.mem_of_getElem? (i := 74) rfl)) : Laid Z a0 "java/lang/StringBuilder" "java/lang/AbstractStringBuilder" "value" "[B") (Or.inl (hw _ (List.mem_of_getElem? (i := 76) rfl)) : Laid Z a0 "java/lang/StringBuilder" "java/lang/AbstractStringBuilder" "coder" "B") (by decide) (t := .array .byte) (t' := .byte) (by decide) (by decide)
  have n_value_count : Jvm.RoadKit.slotOf Z "java/lang/AbstractStringBuilder" "value" "[B" ≠ Jvm.RoadKit.slotOf Z "java/lang/AbstractStringBuilder" "count" "I" := slot_ne (Or.inl (hw _ (List.mem_of_getElem? (i := 74) rfl)) : Laid Z a0 "java/lang/StringBuilder" "java/lang/AbstractStringBuilder" "value" "[B") (Or.inl (hw _ (List.mem_of_getElem? (i := 98) rfl)) : Laid Z a0 "java/lang/StringBuilder" "java/lang/AbstractStringBuilder" "count" "I") (by decide) (t := .array .byte) (t' := .int) (by decide) (by decide)
  have n_value_maybeLatin1 : Jvm.RoadKit.slotOf Z "java/lang/AbstractStringBuilder" "value" "[B" ≠ Jvm.RoadKit.slotOf Z "java/lang/AbstractStringBuilder" "maybeLatin1" "Z" := slot_ne (Or.inl (hw _ (List.mem_of_getElem? (i := 74) rfl)) : Laid Z a0 "java/lang/StringBuilder" "java/lang/AbstractStringBuilder" "value" "[B") (Or.inl (hw _ (List.mem_of_getElem? (i := 239) rfl)) : Laid Z a0 "java/lang/StringBuilder" "java/lang/AbstractStringBuilder" "maybeLatin1" "Z") (by decide) (t := .array .byte) (t' := .boolean) (by decide) (by decide)
  have n_coder_count : Jvm.RoadKit.slotOf Z "java/lang/AbstractStringBuilder" "coder" "B" ≠ Jvm.RoadKit.slotOf Z "java/lang/AbstractStringBuilder" "count" "I" := slot_ne (Or.inl (hw _ (List.mem_of_getElem? (i := 76) rfl)) : Laid Z a0 "java/lang/StringBuilder" "java/lang/AbstractStringBuilder" "coder" "B") (Or.inl (hw _ (List.mem_of_getElem? (i := 98) rfl)) : Laid Z a0 "java/lang/StringBuilder" "java/lang/AbstractStringBuilder" "count" "I") (by decide) (t := .byte) (t' := .int) (by decide) (by decide)
  have n_coder_maybeLatin1 : Jvm.RoadKit.slotOf Z "java/lang/AbstractStringBuilder" "coder" "B" ≠ Jvm.RoadKit.slotOf Z "java/lang/AbstractStringBuilder" "maybeLatin1" "Z" := slot_ne (Or.inl (hw _ (List.mem_of_getElem? (i := 76) rfl)) : Laid Z a0 "java/lang/StringBuilder" "java/lang/AbstractStringBuilder" "coder" "B") (Or.inl (hw _ (List.mem_of_getElem? (i := 239) rfl)) : Laid Z a0 "java/lang/StringBuilder" "java/lang/AbstractStringBuilder" "maybeLatin1" "Z") (by decide) (t := .byte) (t' := .boolean) (by decide) (by decide)
  have n_count_maybeLatin1 : Jvm.RoadKit.slotOf Z "java/lang/AbstractStringBuilder" "count" "I" ≠ Jvm.RoadKit.slotOf Z "java/lang/AbstractStringBuilder" "maybeLatin1" "Z" := slot_ne (Or.inl (hw _ (List.mem_of_getElem? (i := 98) rfl)) : Laid Z a0 "java/lang/StringBuilder" "java/lang/AbstractStringBuilder" "count" "I") (Or.inl (hw _ (List.mem_of_getElem? (i := 239) rfl)) : Laid Z a0 "java/lang/StringBuilder" "java/lang/AbstractStringBuilder" "maybeLatin1" "Z") (by decide) (t := .int) (t' := .boolean) (by decide) (by decide)
  refine W0.aloadN me d_jdk_68_method_22_0 rfl rfl ?_
  show Fi p e below s Z _ _ _ _ T0 (mkF m 1 #[.val (.ref a), .val (.ref u), .unset] [(.ref u)])
  refine W0.nonnullY me d_jdk_68_method_22_1 (pc' := 9) (by decide) (by decide) ?_
  show Fi p e below s Z _ _ _ _ T0 (mkF m 9 #[.val (.ref a), .val (.ref u), .unset] [])
  refine W0.aloadN me d_jdk_68_method_22_9 rfl rfl ?_
  show Fi p e below s Z _ _ _ _ T0 (mkF m 10 #[.val (.ref a), .val (.ref u), .unset] [(.ref u)])
  refine W0.callV me hEL (hw _ (List.mem_of_getElem? (i := 87) rfl)) (hw _ (List.mem_of_getElem? (i := 88) rfl)) (fun hZ' => notFace_of_selects (args := #[]) (mvT (s := s.setVm _) hZ' (hw _ (List.mem_of_getElem? (i := 90) rfl)))) (hw _ (List.mem_of_getElem? (i := 90) rfl)) (hw _ (List.mem_of_getElem? (i := 89) rfl)) (hw _ (List.mem_of_getElem? (i := 8) rfl)) (hw _ (List.mem_of_getElem? (i := 91) rfl)) (a := u) (argsL := []) (rest := []) L.exa (c_lenE (ss := []) g W0.old L) d_jdk_68_method_22_10 (by decide) (fun _ q => nomatch q) rfl (lenOf pd_22 rfl) (own_le rfl) (own_le rfl) (own_le rfl) (own_le rfl) rfl ?_
  intro T1 h1 v1 W1 z1 q1
  obtain ⟨sf1, X1, _, rfl, rfl, rfl⟩ := q1
  show Fi p e below s Z _ _ _ _ T1 (mkF m 13 #[.val (.ref a), .val (.ref u), .unset] [(.int (Int32.ofNat ds.length))])
  refine W1.istoreN me d_jdk_68_method_22_13 (l' := #[.val (.ref a), .val (.ref u), .val (.int (Int32.ofNat ds.length))]) rfl ?_
  refine W1.aloadN me d_jdk_68_method_22_14 rfl rfl ?_
  refine W1.aloadN me d_jdk_68_method_22_15 rfl rfl ?_
  show Fi p e below s Z _ _ _ _ T1 (mkF m 16 #[.val (.ref a), .val (.ref u), .val (.int (Int32.ofNat ds.length))] [(.ref a), (.ref a)])
  have M' := M
  obtain ⟨k, EA, FV, FC, FN, FM, AB, EB, hcap, hok⟩ := M
  refine W1.getF me (hw _ (List.mem_of_getElem? (i := 97) rfl)) FN Via.refl d_jdk_68_method_22_16 ?_
  intro T2 W2
  show Fi p e below s Z _ _ _ _ T2 (mkF m 19 #[.val (.ref a), .val (.ref u), .val (.int (Int32.ofNat ds.length))] [(.int (Int32.ofNat cs.length)), (.ref a)])
  refine W2.iloadN me d_jdk_68_method_22_19 rfl ?_
  show Fi p e below s Z _ _ _ _ T2 (mkF m 20 #[.val (.ref a), .val (.ref u), .val (.int (Int32.ofNat ds.length))] [(.int (Int32.ofNat ds.length)), (.int (Int32.ofNat cs.length)), (.ref a)])
  refine W2.iadd me d_jdk_68_method_22_20 ?_
  rw [on_add]
  show Fi p e below s Z _ _ _ _ T2 (mkF m 21 #[.val (.ref a), .val (.ref u), .val (.int (Int32.ofNat ds.length))] [(.int (Int32.ofNat (cs.length + ds.length))), (.ref a)])
  refine W2.callP me hEL (hw _ (List.mem_of_getElem? (i := 99) rfl)) (hw _ (List.mem_of_getElem? (i := 100) rfl)) (hw _ (List.mem_of_getElem? (i := 101) rfl)) (hw _ (List.mem_of_getElem? (i := 102) rfl)) (hw _ (List.mem_of_getElem? (i := 69) rfl)) (hw _ (List.mem_of_getElem? (i := 103) rfl)) (a := a) (argsL := [(.int (Int32.ofNat (cs.length + ds.length)))]) (rest := []) EA (c_ensB (ss := []) g W2.old M' hfit) d_jdk_68_method_22_21 (by decide) (fun _ q => nomatch q) rfl (lenOf pd_14 rfl) (own_le rfl) (own_le rfl) (own_le rfl) (own_le rfl) rfl ?_
  intro T3 h3 v3 W3 z3 q3
  obtain ⟨sf3, X3, rfl, rfl⟩ := q3
  show Fi p e below s Z _ _ _ _ T3 (mkF m 24 #[.val (.ref a), .val (.ref u), .val (.int (Int32.ofNat ds.length))] [])
  refine W3.aloadN me d_jdk_68_method_22_24 rfl rfl ?_
  refine W3.aloadN me d_jdk_68_method_22_25 rfl rfl ?_
  show Fi p e below s Z _ _ _ _ T3 (mkF m 26 #[.val (.ref a), .val (.ref u), .val (.int (Int32.ofNat ds.length))] [(.ref a), (.ref a)])
  refine W3.getF me (hw _ (List.mem_of_getElem? (i := 97) rfl)) FN Via.refl d_jdk_68_method_22_26 ?_
  intro T4 W4
  show Fi p e below s Z _ _ _ _ T4 (mkF m 29 #[.val (.ref a), .val (.ref u), .val (.int (Int32.ofNat ds.length))] [(.int (Int32.ofNat cs.length)), (.ref a)])
  refine W4.aloadN me d_jdk_68_method_22_29 rfl rfl ?_
  show Fi p e below s Z _ _ _ _ T4 (mkF m 30 #[.val (.ref a), .val (.ref u), .val (.int (Int32.ofNat ds.length))] [(.ref u), (.int (Int32.ofNat cs.length)), (.ref a)])
  refine W4.callP me hEL (hw _ (List.mem_of_getElem? (i := 104) rfl)) (hw _ (List.mem_of_getElem? (i := 105) rfl)) (hw _ (List.mem_of_getElem? (i := 106) rfl)) (hw _ (List.mem_of_getElem? (i := 107) rfl)) (hw _ (List.mem_of_getElem? (i := 69) rfl)) (hw _ (List.mem_of_getElem? (i := 108) rfl)) (a := a) (argsL := [(.int (Int32.ofNat cs.length)), (.ref u)]) (rest := []) EA (c_putF g W4.old M' L hfit hvb hS hza hzb) d_jdk_68_method_22_30 (by decide) (fun _ q => q) rfl (lenOf pd_23 rfl) (own_le rfl) (own_le rfl) (own_le rfl) (own_le rfl) rfl ?_
  intro T5 h5 v5 W5 z5 q5
  obtain ⟨sf5, X5, rfl, K5, d5, y5, s5, M5⟩ := q5
  show Fi p e below s Z _ _ _ _ T5 (mkF m 33 #[.val (.ref a), .val (.ref u), .val (.int (Int32.ofNat ds.length))] [])
  replace W5 := X5 [d5] (allS s5 all0)
  obtain ⟨k2, EA2, FV2, FC2, FN2, FM2, AB2, EB2⟩ := M5
  have hab : a ≠ d5 := EA2.neArv AB2 (hw _ (List.mem_of_getElem? (i := 60) rfl))
  refine W5.aloadN me d_jdk_68_method_22_33 rfl rfl ?_
  refine W5.dup me d_jdk_68_method_22_34 rfl ?_
  show Fi p e below s Z _ _ _ _ T5 (mkF m 35 #[.val (.ref a), .val (.ref u), .val (.int (Int32.ofNat ds.length))] [(.ref a), (.ref a)])
  refine W5.getF me (hw _ (List.mem_of_getElem? (i := 97) rfl)) FN2 Via.refl d_jdk_68_method_22_35 ?_
  intro T6 W6
  show Fi p e below s Z _ _ _ _ T6 (mkF m 38 #[.val (.ref a), .val (.ref u), .val (.int (Int32.ofNat ds.length))] [(.int (Int32.ofNat cs.length)), (.ref a)])
  refine W6.iloadN me d_jdk_68_method_22_38 rfl ?_
  show Fi p e below s Z _ _ _ _ T6 (mkF m 39 #[.val (.ref a), .val (.ref u), .val (.int (Int32.ofNat ds.length))] [(.int (Int32.ofNat ds.length)), (.int (Int32.ofNat cs.length)), (.ref a)])
  refine W6.iadd me d_jdk_68_method_22_39 ?_
  rw [on_add]
  show Fi p e below s Z _ _ _ _ T6 (mkF m 40 #[.val (.ref a), .val (.ref u), .val (.int (Int32.ofNat ds.length))] [(.int (Int32.ofNat (cs.length + ds.length))), (.ref a)])
  refine W6.putF me (hw _ (List.mem_of_getElem? (i := 97) rfl)) FN2 Via.refl EA2 (Or.inl (hw _ (List.mem_of_getElem? (i := 98) rfl))) (hw _ (List.mem_of_getElem? (i := 60) rfl)) (ty := .int) (by decide) rfl rfl (Or.inr (Or.inl ⟨"java/lang/StringBuilder", EA2, by decide, by decide⟩)) hza d_jdk_68_method_22_40 ?_
  intro T7 h7 W7 R7
  show Fi p e below s Z _ _ _ _ T7 (mkF m 43 #[.val (.ref a), .val (.ref u), .val (.int (Int32.ofNat ds.length))] [])
  refine W7.aloadN me d_jdk_68_method_22_43 rfl rfl ?_
  show Fi p e below s Z _ _ _ _ T7 (mkF m 44 #[.val (.ref a), .val (.ref u), .val (.int (Int32.ofNat ds.length))] [(.ref a)])
  have hlen : (cs ++ ds).length = cs.length + ds.length := List.length_append
  have hok2 : okB true (cs ++ ds) := okB_app (C8.c16 hok) (by obtain ⟨_, _, _, _, _, _, q⟩ := L; exact q)
  have S : SbB Z h7 a d5 true (cs ++ ds) := ⟨k2, EA2.wr R7, FV2.other R7 (Or.inr n_value_count), FC2.other R7 (Or.inr n_coder_count), by rw [hlen]; exact FN2.same R7, FM2.other R7 (Or.inr n_count_maybeLatin1.symm), AB2.other R7 hab.symm, EB2.wr R7, by rw [hlen]; exact hfit, hok2⟩
  have K : Keep h0 h7 [a, b] := K5.wr R7 (Or.inl (List.mem_cons_self ..))
  exact W7.retAs hEL me d_jdk_68_method_22_44 (fun sf q => ⟨K, rfl, d5, y5, q _ (List.mem_cons_self ..), S⟩) (by decide) (by decide) rfl rfl rfl

set_option maxRecDepth 65536 in
set_option maxHeartbeats 4000000 in
theorem c_appS {l : Launch} {Z : State} {a0 : Array Value} {kn : Bool} (g : Gl Z a0) {ws : List Cond} {h0 : Heap} {ss : List Addr} (hO : Old Z Z.heap.size h0) {a b : Addr} {ec : Bool} {cs : List Int32} (M : SbB Z h0 a b ec cs) {u vb : Addr} {ds : List Int32} (L : StB Z h0 u vb ec ds) (hfit : cs.length + ds.length ≤ 16) (hvb : vb ≠ b) (hS : b ∈ ss) (hza : Z.heap.size ≤ a) (hzb : Z.heap.size ≤ b) :
    Con l Z consts_1 kn ws (⟨"java/lang/StringBuilder", "append", "(Ljava/lang/String;)Ljava/lang/StringBuilder;"⟩ : MethodName) jdk_67_method_7_code 2 (some (.object "java/lang/StringBuilder")) ({ frames := 9, cells := 1, slots := 32, locals := 130 } : Room) #[(.ref a), (.ref u)] h0 ss (rVs fun v h sf => Keep h0 h [a, b] ∧ v = .ref a ∧ ∃ d, (d = b ∨ h0.size ≤ d) ∧ sf d ∧ SbB Z h a d ec (cs ++ ds)) := by
  have hw := g.1
  have hEL := g.2.1
  refine Con.of (plainFor_of_name pn_6) hO ?_
  intro p e s m below meth c T0 me W0
  refine Fi.entry (L := #[.val (.ref a), .val (.ref u)]) (by first | (simp [entryFrame, mkF, argsToLocals, Value.category, maxLocals]; done) | (simp [entryFrame, mkF, argsToLocals, Value.category]; done) | rfl) ?_
  refine W0.aloadN me d_jdk_67_method_7_0 rfl rfl ?_
  refine W0.aloadN me d_jdk_67_method_7_1 rfl rfl ?_
  show Fi p e below s Z _ _ _ _ T0 (mkF m 2 #[.val (.ref a), .val (.ref u)] [(.ref u), (.ref a)])
  refine W0.callU me hEL (hw _ (List.mem_of_getElem? (i := 82) rfl)) (hw _ (List.mem_of_getElem? (i := 83) rfl)) (hw _ (List.mem_of_getElem? (i := 84) rfl)) (hw _ (List.mem_of_getElem? (i := 102) rfl)) rfl (hw _ (List.mem_of_getElem? (i := 69) rfl)) (hw _ (List.mem_of_getElem? (i := 86) rfl)) (by decide) (a := a) (argsL := [(.ref u)]) (rest := []) M.exa (c_asbaS g W0.old M L hfit hvb hS hza hzb) d_jdk_67_method_7_2 (by decide) (fun _ q => q) rfl (lenOf pd_24 rfl) (own_le rfl) (own_le rfl) (own_le rfl) (own_le rfl) rfl ?_
  intro T1 h1 v1 W1 z1 q1
  obtain ⟨sf1, X1, _, rfl, K1, rfl, d1, y1, s1, M1⟩ := q1
  show Fi p e below s Z _ _ _ _ T1 (mkF m 5 #[.val (.ref a), .val (.ref u)] [(.ref a)])
  refine W1.pop me d_jdk_67_method_7_5 rfl ?_
  refine W1.aloadN me d_jdk_67_method_7_6 rfl rfl ?_
  show Fi p e below s Z _ _ _ _ T1 (mkF m 7 #[.val (.ref a), .val (.ref u)] [(.ref a)])
  exact (X1 [d1] (allS s1 all0)).retAs hEL me d_jdk_67_method_7_7 (fun sf q => ⟨K1, rfl, d1, y1, q _ (List.mem_cons_self ..), M1⟩) (by decide) (by decide) rfl rfl rfl
set_option maxRecDepth 65536 in
set_option maxHeartbeats 4000000 in
theorem c_appT {l : Launch} {Z : State} {a0 : Array Value} {kn : Bool} (g : Gl Z a0) {ws : List Cond} {h0 : Heap} {ss : List Addr} (hO : Old Z Z.heap.size h0) {a b : Addr} {cs : List Int32} (M : SbB Z h0 a b true cs) {u vb : Addr} {ds : List Int32} (L : StB Z h0 u vb false ds) (hfit : cs.length + ds.length ≤ 16) (hvb : vb ≠ b) (hS : b ∈ ss) (hza : Z.heap.size ≤ a) (hzb : Z.heap.size ≤ b) :
    Con l Z consts_1 kn ws (⟨"java/lang/StringBuilder", "append", "(Ljava/lang/String;)Ljava/lang/StringBuilder;"⟩ : MethodName) jdk_67_method_7_code 2 (some (.object "java/lang/StringBuilder")) ({ frames := 9, cells := 1, slots := 32, locals := 130 } : Room) #[(.ref a), (.ref u)] h0 ss (rVs fun v h sf => Keep h0 h [a, b] ∧ v = .ref a ∧ ∃ d, (d = b ∨ h0.size ≤ d) ∧ sf d ∧ SbB Z h a d true (cs ++ ds)) := by
  have hw := g.1
  have hEL := g.2.1
  refine Con.of (plainFor_of_name pn_6) hO ?_
  intro p e s m below meth c T0 me W0
  refine Fi.entry (L := #[.val (.ref a), .val (.ref u)]) (by first | (simp [entryFrame, mkF, argsToLocals, Value.category, maxLocals]; done) | (simp [entryFrame, mkF, argsToLocals, Value.category]; done) | rfl) ?_
  refine W0.aloadN me d_jdk_67_method_7_0 rfl rfl ?_
  refine W0.aloadN me d_jdk_67_method_7_1 rfl rfl ?_
  show Fi p e below s Z _ _ _ _ T0 (mkF m 2 #[.val (.ref a), .val (.ref u)] [(.ref u), (.ref a)])
  refine W0.callU me hEL (hw _ (List.mem_of_getElem? (i := 82) rfl)) (hw _ (List.mem_of_getElem? (i := 83) rfl)) (hw _ (List.mem_of_getElem? (i := 84) rfl)) (hw _ (List.mem_of_getElem? (i := 102) rfl)) rfl (hw _ (List.mem_of_getElem? (i := 69) rfl)) (hw _ (List.mem_of_getElem? (i := 86) rfl)) (by decide) (a := a) (argsL := [(.ref u)]) (rest := []) M.exa (c_asbaT g W0.old M L hfit hvb hS hza hzb) d_jdk_67_method_7_2 (by decide) (fun _ q => q) rfl (lenOf pd_24 rfl) (own_le rfl) (own_le rfl) (own_le rfl) (own_le rfl) rfl ?_
  intro T1 h1 v1 W1 z1 q1
  obtain ⟨sf1, X1, _, rfl, K1, rfl, d1, y1, s1, M1⟩ := q1
  show Fi p e below s Z _ _ _ _ T1 (mkF m 5 #[.val (.ref a), .val (.ref u)] [(.ref a)])
  refine W1.pop me d_jdk_67_method_7_5 rfl ?_
  refine W1.aloadN me d_jdk_67_method_7_6 rfl rfl ?_
  show Fi p e below s Z _ _ _ _ T1 (mkF m 7 #[.val (.ref a), .val (.ref u)] [(.ref a)])
  exact (X1 [d1] (allS s1 all0)).retAs hEL me d_jdk_67_method_7_7 (fun sf q => ⟨K1, rfl, d1, y1, q _ (List.mem_cons_self ..), M1⟩) (by decide) (by decide) rfl rfl rfl
set_option maxRecDepth 65536 in
set_option maxHeartbeats 4000000 in
theorem c_appF {l : Launch} {Z : State} {a0 : Array Value} {kn : Bool} (g : Gl Z a0) {ws : List Cond} {h0 : Heap} {ss : List Addr} (hO : Old Z Z.heap.size h0) {a b : Addr} {cs : List Int32} (M : SbB Z h0 a b false cs) {u vb : Addr} {ds : List Int32} (L : StB Z h0 u vb true ds) (hfit : cs.length + ds.length ≤ 16) (hvb : vb ≠ b) (hS : b ∈ ss) (hza : Z.heap.size ≤ a) (hzb : Z.heap.size ≤ b) :
    Con l Z consts_1 kn ws (⟨"java/lang/StringBuilder", "append", "(Ljava/lang/String;)Ljava/lang/StringBuilder;"⟩ : MethodName) jdk_67_method_7_code 2 (some (.object "java/lang/StringBuilder")) ({ frames := 9, cells := 1, slots := 32, locals := 130 } : Room) #[(.ref a), (.ref u)] h0 ss (rVs fun v h sf => Keep h0 h [a, b] ∧ v = .ref a ∧ ∃ d, (d = b ∨ h0.size ≤ d) ∧ sf d ∧ SbB Z h a d true (cs ++ ds)) := by
  have hw := g.1
  have hEL := g.2.1
  refine Con.of (plainFor_of_name pn_6) hO ?_
  intro p e s m below meth c T0 me W0
  refine Fi.entry (L := #[.val (.ref a), .val (.ref u)]) (by first | (simp [entryFrame, mkF, argsToLocals, Value.category, maxLocals]; done) | (simp [entryFrame, mkF, argsToLocals, Value.category]; done) | rfl) ?_
  refine W0.aloadN me d_jdk_67_method_7_0 rfl rfl ?_
  refine W0.aloadN me d_jdk_67_method_7_1 rfl rfl ?_
  show Fi p e below s Z _ _ _ _ T0 (mkF m 2 #[.val (.ref a), .val (.ref u)] [(.ref u), (.ref a)])
  refine W0.callU me hEL (hw _ (List.mem_of_getElem? (i := 82) rfl)) (hw _ (List.mem_of_getElem? (i := 83) rfl)) (hw _ (List.mem_of_getElem? (i := 84) rfl)) (hw _ (List.mem_of_getElem? (i := 102) rfl)) rfl (hw _ (List.mem_of_getElem? (i := 69) rfl)) (hw _ (List.mem_of_getElem? (i := 86) rfl)) (by decide) (a := a) (argsL := [(.ref u)]) (rest := []) M.exa (c_asbaF g W0.old M L hfit hvb hS hza hzb) d_jdk_67_method_7_2 (by decide) (fun _ q => q) rfl (lenOf pd_24 rfl) (own_le rfl) (own_le rfl) (own_le rfl) (own_le rfl) rfl ?_
  intro T1 h1 v1 W1 z1 q1
  obtain ⟨sf1, X1, _, rfl, K1, rfl, d1, y1, s1, M1⟩ := q1
  show Fi p e below s Z _ _ _ _ T1 (mkF m 5 #[.val (.ref a), .val (.ref u)] [(.ref a)])
  refine W1.pop me d_jdk_67_method_7_5 rfl ?_
  refine W1.aloadN me d_jdk_67_method_7_6 rfl rfl ?_
  show Fi p e below s Z _ _ _ _ T1 (mkF m 7 #[.val (.ref a), .val (.ref u)] [(.ref a)])
  exact (X1 [d1] (allS s1 all0)).retAs hEL me d_jdk_67_method_7_7 (fun sf q => ⟨K1, rfl, d1, y1, q _ (List.mem_cons_self ..), M1⟩) (by decide) (by decide) rfl rfl rfl
theorem c_appE {l : Launch} {Z : State} {a0 : Array Value} {kn : Bool} (g : Gl Z a0) {ws : List Cond} {h0 : Heap} {ss : List Addr} (hO : Old Z Z.heap.size h0) {a b : Addr} {ec : Bool} {cs : List Int32} (M : SbB Z h0 a b ec cs) {u vb : Addr} {f : Bool} {ds : List Int32} (L : StB Z h0 u vb f ds) (hfit : cs.length + ds.length ≤ 16) (hvb : vb ≠ b) (hS : b ∈ ss) (hza : Z.heap.size ≤ a) (hzb : Z.heap.size ≤ b) :
    Con l Z consts_1 kn ws (⟨"java/lang/StringBuilder", "append", "(Ljava/lang/String;)Ljava/lang/StringBuilder;"⟩ : MethodName) jdk_67_method_7_code 2 (some (.object "java/lang/StringBuilder")) ({ frames := 9, cells := 1, slots := 32, locals := 130 } : Room) #[(.ref a), (.ref u)] h0 ss (rVs fun v h sf => Keep h0 h [a, b] ∧ v = .ref a ∧ ∃ d, (d = b ∨ h0.size ≤ d) ∧ sf d ∧ SbB Z h a d (ec || f) (cs ++ ds)) := by
  cases ec <;> cases f
  · exact c_appS g hO M L hfit hvb hS hza hzb
  · exact c_appF g hO M L hfit hvb hS hza hzb
  · exact c_appT g hO M L hfit hvb hS hza hzb
  · exact c_appS g hO M L hfit hvb hS hza hzb

set_option maxRecDepth 65536 in
set_option maxHeartbeats 4000000 in
theorem c_getvalB {l : Launch} {Z : State} {a0 : Array Value} {kn : Bool} (g : Gl Z a0) {ws : List Cond} {h0 : Heap} {ss : List Addr} (hO : Old Z Z.heap.size h0) {a b : Addr} {ec : Bool} {cs : List Int32} (M : SbB Z h0 a b ec cs) :
    Con l Z consts_1 kn ws (⟨"java/lang/AbstractStringBuilder", "getValue", "()[B"⟩ : MethodName) jdk_68_method_64_code 1 (some (.array .byte)) ({ frames := 0, cells := 0, slots := 0, locals := 0 } : Room) #[(.ref a)] h0 ss (rV fun v h => h0 = h ∧ v = (.ref b)) := by
  have hw := g.1
  have hEL := g.2.1
  refine Con.of (plainFor_of_name pn_5) hO ?_
  intro p e s m below meth c T0 me W0
  refine Fi.entry (L := #[.val (.ref a)]) (by first | (simp [entryFrame, mkF, argsToLocals, Value.category, maxLocals]; done) | (simp [entryFrame, mkF, argsToLocals, Value.category]; done) | rfl) ?_
  obtain ⟨k, EA, FV, FC, FN, FM, AB, EB, hcap, hok⟩ := M
  refine W0.aloadN me d_jdk_68_method_64_0 rfl rfl ?_
  show Fi p e below s Z _ _ _ _ T0 (mkF m 1 #[.val (.ref a)] [(.ref a)])
  refine W0.getF me (hw _ (List.mem_of_getElem? (i := 73) rfl)) FV Via.refl d_jdk_68_method_64_1 ?_
  intro T1 W1
  show Fi p e below s Z _ _ _ _ T1 (mkF m 4 #[.val (.ref a)] [(.ref b)])
  exact W1.retA hEL me d_jdk_68_method_64_4 ⟨rfl, rfl⟩ (by decide) (by decide) rfl rfl rfl

set_option maxRecDepth 65536 in
set_option maxHeartbeats 4000000 in
theorem c_asblenB {l : Launch} {Z : State} {a0 : Array Value} {kn : Bool} (g : Gl Z a0) {ws : List Cond} {h0 : Heap} {ss : List Addr} (hO : Old Z Z.heap.size h0) {a b : Addr} {ec : Bool} {cs : List Int32} (M : SbB Z h0 a b ec cs) :
    Con l Z consts_1 kn ws (⟨"java/lang/AbstractStringBuilder", "length", "()I"⟩ : MethodName) jdk_68_method_6_code 1 (some .int) ({ frames := 0, cells := 0, slots := 0, locals := 0 } : Room) #[(.ref a)] h0 ss (rV fun v h => h0 = h ∧ v = (.int (Int32.ofNat cs.length))) := by
  have hw := g.1
  have hEL := g.2.1
  refine Con.of (plainFor_of_name pn_5) hO ?_
  intro p e s m below meth c T0 me W0
  refine Fi.entry (L := #[.val (.ref a)]) (by first | (simp [entryFrame, mkF, argsToLocals, Value.category, maxLocals]; done) | (simp [entryFrame, mkF, argsToLocals, Value.category]; done) | rfl) ?_
  obtain ⟨k, EA, FV, FC, FN, FM, AB, EB, hcap, hok⟩ := M
  refine W0.aloadN me d_jdk_68_method_6_0 rfl rfl ?_
  show Fi p e below s Z _ _ _ _ T0 (mkF m 1 #[.val (.ref a)] [(.ref a)])
  refine W0.getF me (hw _ (List.mem_of_getElem? (i := 97) rfl)) FN Via.refl d_jdk_68_method_6_1 ?_
  intro T1 W1
  show Fi p e below s Z _ _ _ _ T1 (mkF m 4 #[.val (.ref a)] [(.int (Int32.ofNat cs.length))])
  exact W1.retI hEL me d_jdk_68_method_6_4 ⟨rfl, rfl⟩ (by decide) (by decide)

set_option maxRecDepth 65536 in
set_option maxHeartbeats 4000000 in
theorem c_sblenB {l : Launch} {Z : State} {a0 : Array Value} {kn : Bool} (g : Gl Z a0) {ws : List Cond} {h0 : Heap} {ss : List Addr} (hO : Old Z Z.heap.size h0) {a b : Addr} {ec : Bool} {cs : List Int32} (M : SbB Z h0 a b ec cs) :
    Con l Z consts_1 kn ws (⟨"java/lang/StringBuilder", "length", "()I"⟩ : MethodName) jdk_67_method_93_code 1 (some .int) ({ frames := 1, cells := 0, slots := 0, locals := 12 } : Room) #[(.ref a)] h0 ss (rV fun v h => h0 = h ∧ v = .int (Int32.ofNat cs.length)) := by
  have hw := g.1
  have hEL := g.2.1
  refine Con.of (plainFor_of_name pn_6) hO ?_
  intro p e s m below meth c T0 me W0
  refine Fi.entry (L := #[.val (.ref a)]) (by first | (simp [entryFrame, mkF, argsToLocals, Value.category, maxLocals]; done) | (simp [entryFrame, mkF, argsToLocals, Value.category]; done) | rfl) ?_
  refine W0.aloadN me d_jdk_67_method_93_0 rfl rfl ?_
  show Fi p e below s Z _ _ _ _ T0 (mkF m 1 #[.val (.ref a)] [(.ref a)])
  refine W0.callU me hEL (hw _ (List.mem_of_getElem? (i := 148) rfl)) (hw _ (List.mem_of_getElem? (i := 144) rfl)) (hw _ (List.mem_of_getElem? (i := 84) rfl)) (hw _ (List.mem_of_getElem? (i := 102) rfl)) rfl (hw _ (List.mem_of_getElem? (i := 69) rfl)) (hw _ (List.mem_of_getElem? (i := 149) rfl)) (by decide) (a := a) (argsL := []) (rest := []) M.exa (c_asblenB (ss := []) g W0.old M) d_jdk_67_method_93_1 (by decide) (fun _ q => nomatch q) rfl (lenOf pd_22 rfl) (own_le rfl) (own_le rfl) (own_le rfl) (own_le rfl) rfl ?_
  intro T1 h1 v1 W1 z1 q1
  obtain ⟨sf1, X1, _, rfl, rfl, rfl⟩ := q1
  show Fi p e below s Z _ _ _ _ T1 (mkF m 4 #[.val (.ref a)] [(.int (Int32.ofNat cs.length))])
  exact W1.retI hEL me d_jdk_67_method_93_4 ⟨rfl, rfl⟩ (by decide) (by decide)

set_option maxRecDepth 65536 in
set_option maxHeartbeats 4000000 in
theorem c_achk {l : Launch} {Z : State} {a0 : Array Value} {kn : Bool} (g : Gl Z a0) {ws : List Cond} {h0 : Heap} {ss : List Addr} (hO : Old Z Z.heap.size h0) {i j : Int32} (hi : ¬ j < i) :
    Con l Z consts_1 kn ws (⟨"java/util/Arrays", "checkLength", "(II)V"⟩ : MethodName) jdk_65_method_131_code 2 none ({ frames := 0, cells := 0, slots := 0, locals := 0 } : Room) #[(.int i), (.int j)] h0 ss (rU fun h => h0 = h) := by
  have hw := g.1
  have hEL := g.2.1
  refine Con.of (plainFor_of_name pn_7) hO ?_
  intro p e s m below meth c T0 me W0
  refine Fi.entry (L := #[.val (.int i), .val (.int j)]) (by first | (simp [entryFrame, mkF, argsToLocals, Value.category, maxLocals]; done) | (simp [entryFrame, mkF, argsToLocals, Value.category]; done) | rfl) ?_
  refine W0.iloadN me d_jdk_65_method_131_0 rfl ?_
  refine W0.iloadN me d_jdk_65_method_131_1 rfl ?_
  show Fi p e below s Z _ _ _ _ T0 (mkF m 2 #[.val (.int i), .val (.int j)] [(.int i), (.int j)])
  refine W0.icY_ge me d_jdk_65_method_131_2 hi (pc' := 37) (by decide) (by decide) ?_
  show Fi p e below s Z _ _ _ _ T0 (mkF m 37 #[.val (.int i), .val (.int j)] [])
  exact W0.retU hEL me d_jdk_65_method_131_37 rfl (by decide) (by decide)

set_option maxRecDepth 65536 in
set_option maxHeartbeats 4000000 in
theorem c_crbV {l : Launch} {Z : State} {a0 : Array Value} {kn : Bool} (g : Gl Z a0) {ws : List Cond} {h0 : Heap} {ss : List Addr} (hO : Old Z Z.heap.size h0) {b : Addr} {kb : ClassId} {vs : List Value} {N n : Nat} (AB : Arv Z h0 b kb .byte (Int32.ofNat N) vs (.int 0)) (hv : vs.length = n) (hN : n < N) (hN2 : N ≤ 32) :
    Con l Z consts_1 kn ws (⟨"java/util/Arrays", "copyOfRangeByte", "([BII)[B"⟩ : MethodName) jdk_65_method_133_code 5 (some (.array .byte)) ({ frames := 1, cells := 1, slots := 32, locals := 18 } : Room) #[(.ref b), (.int (0 : Int32)), (.int (Int32.ofNat n))] h0 ss (rV fun v h => Ext h0 h ∧ ∃ d kd, v = .ref d ∧ h0.size ≤ d ∧ Arv Z h d kd .byte (Int32.ofNat n) vs (.int 0)) := by
  have hw := g.1
  have hEL := g.2.1
  refine Con.of (plainFor_of_name pn_7) hO ?_
  intro p e s m below meth c T0 me W0
  refine Fi.entry (L := #[.val (.ref b), .val (.int (0 : Int32)), .val (.int (Int32.ofNat n)), .unset, .unset]) (by first | (simp [entryFrame, mkF, argsToLocals, Value.category, maxLocals]; done) | (simp [entryFrame, mkF, argsToLocals, Value.category]; done) | rfl) ?_
  have hblt := own_lt AB.lt
  refine W0.iloadN me d_jdk_65_method_133_0 rfl ?_
  refine W0.iloadN me d_jdk_65_method_133_1 rfl ?_
  show Fi p e below s Z _ _ _ _ T0 (mkF m 2 #[.val (.ref b), .val (.int (0 : Int32)), .val (.int (Int32.ofNat n)), .unset, .unset] [(.int (Int32.ofNat n)), (.int (0 : Int32))])
  refine W0.callS me hEL (hw _ (List.mem_of_getElem? (i := 162) rfl)) (hw _ (List.mem_of_getElem? (i := 163) rfl)) (hw _ (List.mem_of_getElem? (i := 157) rfl)) (hw _ (List.mem_of_getElem? (i := 164) rfl)) (argsL := [(.int (0 : Int32)), (.int (Int32.ofNat n))]) (rest := []) (c_achk (ss := []) g W0.old (on_nneg (by omega))) d_jdk_65_method_133_2 (by decide) (fun _ q => nomatch q) rfl (lenOf pd_6 rfl) (own_le rfl) (own_le rfl) (own_le rfl) (own_le rfl) rfl ?_
  intro T1 h1 v1 W1 z1 q1
  obtain ⟨sf1, X1, rfl, rfl⟩ := q1
  show Fi p e below s Z _ _ _ _ T1 (mkF m 5 #[.val (.ref b), .val (.int (0 : Int32)), .val (.int (Int32.ofNat n)), .unset, .unset] [])
  refine W1.iloadN me d_jdk_65_method_133_5 rfl ?_
  refine W1.iloadN me d_jdk_65_method_133_6 rfl ?_
  refine W1.isub me d_jdk_65_method_133_7 ?_
  show Fi p e below s Z _ _ _ _ T1 (mkF m 8 #[.val (.ref b), .val (.int (0 : Int32)), .val (.int (Int32.ofNat n)), .unset, .unset] [(.int ((Int32.ofNat n) - (0 : Int32)))])
  rw [Int32.sub_zero]
  show Fi p e below s Z _ _ _ _ T1 (mkF m 8 #[.val (.ref b), .val (.int (0 : Int32)), .val (.int (Int32.ofNat n)), .unset, .unset] [(.int (Int32.ofNat n))])
  refine W1.istoreN me d_jdk_65_method_133_8 (l' := #[.val (.ref b), .val (.int (0 : Int32)), .val (.int (Int32.ofNat n)), .val (.int (Int32.ofNat n)), .unset]) rfl ?_
  refine W1.iloadN me d_jdk_65_method_133_9 rfl ?_
  show Fi p e below s Z _ _ _ _ T1 (mkF m 10 #[.val (.ref b), .val (.int (0 : Int32)), .val (.int (Int32.ofNat n)), .val (.int (Int32.ofNat n)), .unset] [(.int (Int32.ofNat n))])
  refine W1.newA me (hw _ (List.mem_of_getElem? (i := 24) rfl)) d_jdk_65_method_133_10 (on_nneg (by omega)) (cap := 32) (by rw [on_clamp (by omega)]; omega) (own_le rfl) (own_le rfl) (own_le rfl) ?_
  intro T2 h2 a2 k2 g2 W2 E2 A2
  show Fi p e below s Z _ _ _ _ T2 (mkF m 12 #[.val (.ref b), .val (.int (0 : Int32)), .val (.int (Int32.ofNat n)), .val (.int (Int32.ofNat n)), .unset] [(.ref a2)])
  refine W2.astore me d_jdk_65_method_133_12 (l' := #[.val (.ref b), .val (.int (0 : Int32)), .val (.int (Int32.ofNat n)), .val (.int (Int32.ofNat n)), .val (.ref a2)]) rfl rfl ?_
  refine W2.aloadN me d_jdk_65_method_133_14 rfl rfl ?_
  refine W2.iloadN me d_jdk_65_method_133_15 rfl ?_
  refine W2.aload me d_jdk_65_method_133_16 rfl rfl ?_
  refine W2.iconst me d_jdk_65_method_133_18 (v := 0) rfl ?_
  refine W2.aloadN me d_jdk_65_method_133_19 rfl rfl ?_
  show Fi p e below s Z _ _ _ _ T2 (mkF m 20 #[.val (.ref b), .val (.int (0 : Int32)), .val (.int (Int32.ofNat n)), .val (.int (Int32.ofNat n)), .val (.ref a2)] [(.ref b), (.int (0 : Int32)), (.ref a2), (.int (0 : Int32)), (.ref b)])
  refine W2.alen me (AB.ext E2) d_jdk_65_method_133_20 ?_
  show Fi p e below s Z _ _ _ _ T2 (mkF m 21 #[.val (.ref b), .val (.int (0 : Int32)), .val (.int (Int32.ofNat n)), .val (.int (Int32.ofNat n)), .val (.ref a2)] [(.int (Int32.ofNat N)), (.int (0 : Int32)), (.ref a2), (.int (0 : Int32)), (.ref b)])
  refine W2.iloadN me d_jdk_65_method_133_21 rfl ?_
  refine W2.isub me d_jdk_65_method_133_22 ?_
  show Fi p e below s Z _ _ _ _ T2 (mkF m 23 #[.val (.ref b), .val (.int (0 : Int32)), .val (.int (Int32.ofNat n)), .val (.int (Int32.ofNat n)), .val (.ref a2)] [(.int ((Int32.ofNat N) - (0 : Int32))), (.int (0 : Int32)), (.ref a2), (.int (0 : Int32)), (.ref b)])
  rw [Int32.sub_zero]
  show Fi p e below s Z _ _ _ _ T2 (mkF m 23 #[.val (.ref b), .val (.int (0 : Int32)), .val (.int (Int32.ofNat n)), .val (.int (Int32.ofNat n)), .val (.ref a2)] [(.int (Int32.ofNat N)), (.int (0 : Int32)), (.ref a2), (.int (0 : Int32)), (.ref b)])
  refine W2.iloadN me d_jdk_65_method_133_23 rfl ?_
  show Fi p e below s Z _ _ _ _ T2 (mkF m 24 #[.val (.ref b), .val (.int (0 : Int32)), .val (.int (Int32.ofNat n)), .val (.int (Int32.ofNat n)), .val (.ref a2)] [(.int (Int32.ofNat n)), (.int (Int32.ofNat N)), (.int (0 : Int32)), (.ref a2), (.int (0 : Int32)), (.ref b)])
  refine W2.callS me hEL (hw _ (List.mem_of_getElem? (i := 165) rfl)) (hw _ (List.mem_of_getElem? (i := 166) rfl)) (hw _ (List.mem_of_getElem? (i := 167) rfl)) (hw _ (List.mem_of_getElem? (i := 168) rfl)) (argsL := [(.int (Int32.ofNat N)), (.int (Int32.ofNat n))]) (rest := [(.int (0 : Int32)), (.ref a2), (.int (0 : Int32)), (.ref b)]) (c_min (ss := []) g W2.old (on_nlt (by omega) (by omega))) d_jdk_65_method_133_24 (by decide) (fun _ q => nomatch q) rfl (lenOf pd_25 rfl) (own_le rfl) (own_le rfl) (own_le rfl) (own_le rfl) rfl ?_
  intro T3 h3 v3 W3 z3 q3
  obtain ⟨sf3, X3, _, rfl, rfl, rfl⟩ := q3
  show Fi p e below s Z _ _ _ _ T3 (mkF m 27 #[.val (.ref b), .val (.int (0 : Int32)), .val (.int (Int32.ofNat n)), .val (.int (Int32.ofNat n)), .val (.ref a2)] [(.int (Int32.ofNat n)), (.int (0 : Int32)), (.ref a2), (.int (0 : Int32)), (.ref b)])
  have hz2 : Z.heap.size ≤ a2 := by have := hO.2.1; omega
  refine W3.acopy me (hw _ (List.mem_of_getElem? (i := 169) rfl)) (hw _ (List.mem_of_getElem? (i := 123) rfl)) (hw _ (List.mem_of_getElem? (i := 121) rfl)) (hw _ (List.mem_of_getElem? (i := 122) rfl)) (AB.ext E2) (own_fill A2 n) rfl (Or.inl (List.mem_cons_self ..)) hz2 (by decide) (by decide) (on_nneg (by omega)) (by rw [on_clamp (by omega), on_clamp (by omega)]; show 0 + n ≤ N; omega) (by rw [on_clamp (by omega)]; show 0 + n ≤ n; omega) (us := vs) (by rw [on_clamp (by omega), ← hv]; exact own_allV _) (by rw [on_clamp (by omega), List.length_replicate]; show 0 + n ≤ n; omega) d_jdk_65_method_133_27 rfl (own_le rfl) (own_le rfl) ?_
  intro T4 h4 W4 K4 A4
  show Fi p e below s Z _ _ _ _ T4 (mkF m 30 #[.val (.ref b), .val (.int (0 : Int32)), .val (.int (Int32.ofNat n)), .val (.int (Int32.ofNat n)), .val (.ref a2)] [])
  refine W4.aload me d_jdk_65_method_133_30 rfl rfl ?_
  show Fi p e below s Z _ _ _ _ T4 (mkF m 32 #[.val (.ref b), .val (.int (0 : Int32)), .val (.int (Int32.ofNat n)), .val (.int (Int32.ofNat n)), .val (.ref a2)] [(.ref a2)])
  have A4' : Arv Z h4 a2 k2 .byte (Int32.ofNat n) vs (.int 0) := own_cutV hv A4 (by omega)
  exact W4.retA hEL me d_jdk_65_method_133_32 ⟨own_xk E2 K4 (allS (by omega) all0), a2, k2, rfl, by omega, A4'⟩ (by decide) (by decide) rfl rfl rfl

set_option maxRecDepth 65536 in
set_option maxHeartbeats 4000000 in
theorem c_crV {l : Launch} {Z : State} {a0 : Array Value} {kn : Bool} (g : Gl Z a0) {ws : List Cond} {h0 : Heap} {ss : List Addr} (hO : Old Z Z.heap.size h0) {b : Addr} {kb : ClassId} {vs : List Value} {N n : Nat} (AB : Arv Z h0 b kb .byte (Int32.ofNat N) vs (.int 0)) (hv : vs.length = n) (hN : n < N) (hN2 : N ≤ 32) :
    Con l Z consts_1 kn ws (⟨"java/util/Arrays", "copyOfRange", "([BII)[B"⟩ : MethodName) jdk_65_method_132_code 3 (some (.array .byte)) ({ frames := 2, cells := 1, slots := 32, locals := 34 } : Room) #[(.ref b), (.int (0 : Int32)), (.int (Int32.ofNat n))] h0 ss (rV fun v h => Ext h0 h ∧ ∃ d kd, v = .ref d ∧ h0.size ≤ d ∧ Arv Z h d kd .byte (Int32.ofNat n) vs (.int 0)) := by
  have hw := g.1
  have hEL := g.2.1
  refine Con.of (plainFor_of_name pn_7) hO ?_
  intro p e s m below meth c T0 me W0
  refine Fi.entry (L := #[.val (.ref b), .val (.int (0 : Int32)), .val (.int (Int32.ofNat n))]) (by first | (simp [entryFrame, mkF, argsToLocals, Value.category, maxLocals]; done) | (simp [entryFrame, mkF, argsToLocals, Value.category]; done) | rfl) ?_
  refine W0.iloadN me d_jdk_65_method_132_0 rfl ?_
  show Fi p e below s Z _ _ _ _ T0 (mkF m 1 #[.val (.ref b), .val (.int (0 : Int32)), .val (.int (Int32.ofNat n))] [(.int (0 : Int32))])
  refine W0.ifN_ne me d_jdk_65_method_132_1 (by decide) ?_
  show Fi p e below s Z _ _ _ _ T0 (mkF m 4 #[.val (.ref b), .val (.int (0 : Int32)), .val (.int (Int32.ofNat n))] [])
  refine W0.iloadN me d_jdk_65_method_132_4 rfl ?_
  refine W0.aloadN me d_jdk_65_method_132_5 rfl rfl ?_
  show Fi p e below s Z _ _ _ _ T0 (mkF m 6 #[.val (.ref b), .val (.int (0 : Int32)), .val (.int (Int32.ofNat n))] [(.ref b), (.int (Int32.ofNat n))])
  refine W0.alen me AB d_jdk_65_method_132_6 ?_
  show Fi p e below s Z _ _ _ _ T0 (mkF m 7 #[.val (.ref b), .val (.int (0 : Int32)), .val (.int (Int32.ofNat n))] [(.int (Int32.ofNat N)), (.int (Int32.ofNat n))])
  refine W0.icN_eq me d_jdk_65_method_132_7 (fun q => absurd ((on_inj (by omega) (by omega)).mp q) (by omega)) ?_
  show Fi p e below s Z _ _ _ _ T0 (mkF m 10 #[.val (.ref b), .val (.int (0 : Int32)), .val (.int (Int32.ofNat n))] [])
  refine W0.aloadN me d_jdk_65_method_132_10 rfl rfl ?_
  refine W0.iloadN me d_jdk_65_method_132_11 rfl ?_
  refine W0.iloadN me d_jdk_65_method_132_12 rfl ?_
  show Fi p e below s Z _ _ _ _ T0 (mkF m 13 #[.val (.ref b), .val (.int (0 : Int32)), .val (.int (Int32.ofNat n))] [(.int (Int32.ofNat n)), (.int (0 : Int32)), (.ref b)])
  refine W0.callS me hEL (hw _ (List.mem_of_getElem? (i := 159) rfl)) (hw _ (List.mem_of_getElem? (i := 160) rfl)) (hw _ (List.mem_of_getElem? (i := 157) rfl)) (hw _ (List.mem_of_getElem? (i := 161) rfl)) (argsL := [(.ref b), (.int (0 : Int32)), (.int (Int32.ofNat n))]) (rest := []) (c_crbV (ss := []) g W0.old AB hv hN hN2) d_jdk_65_method_132_13 (by decide) (fun _ q => nomatch q) rfl (lenOf pd_26 rfl) (own_le rfl) (own_le rfl) (own_le rfl) (own_le rfl) rfl ?_
  intro T1 h1 v1 W1 z1 q1
  obtain ⟨sf1, X1, _, rfl, E1, d1, k1, rfl, y1, A1⟩ := q1
  show Fi p e below s Z _ _ _ _ T1 (mkF m 16 #[.val (.ref b), .val (.int (0 : Int32)), .val (.int (Int32.ofNat n))] [(.ref d1)])
  exact W1.retA hEL me d_jdk_65_method_132_16 ⟨E1, d1, k1, rfl, y1, A1⟩ (by decide) (by decide) rfl rfl rfl

set_option maxRecDepth 65536 in
set_option maxHeartbeats 4000000 in
theorem c_init150B {l : Launch} {Z : State} {a0 : Array Value} {kn : Bool} (g : Gl Z a0) {ws : List Cond} {h0 : Heap} {ss : List Addr} (hO : Old Z Z.heap.size h0) {a b : Addr} {ec : Bool} {cs : List Int32} (M : SbB Z h0 a b ec cs) {x : Addr} {vv vc : Value} (EX : Exa Z h0 x "java/lang/String") (XV : Fld Z h0 x "java/lang/String" "value" "[B" vv) (XC : Fld Z h0 x "java/lang/String" "coder" "B" vc) (hS : x ∈ ss) (hz : Z.heap.size ≤ x) (hlt : cs.length < 16) :
    Con l Z consts_1 kn ws (⟨"java/lang/String", "<init>", "(Ljava/lang/AbstractStringBuilder;Ljava/lang/Void;)V"⟩ : MethodName) jdk_42_method_150_code 5 none ({ frames := 3, cells := 1, slots := 32, locals := 49 } : Room) #[(.ref x), (.ref a), .null] h0 ss (rU fun h => Keep h0 h [x] ∧ ∃ d, StB Z h x d ec cs) := by
  have hw := g.1
  have hEL := g.2.1
  refine Con.of (plainFor_of_name pn_1) hO ?_
  intro p e s m below meth c T0 me W0
  refine Fi.entry (L := #[.val (.ref x), .val (.ref a), .val .null, .unset, .unset]) (by first | (simp [entryFrame, mkF, argsToLocals, Value.category, maxLocals]; done) | (simp [entryFrame, mkF, argsToLocals, Value.category]; done) | rfl) ?_
  have hLV : Laid Z a0 "java/lang/String" "java/lang/String" "value" "[B" := Or.inr (hw _ (List.mem_of_getElem? (i := 34) rfl))
  have hLC : Laid Z a0 "java/lang/String" "java/lang/String" "coder" "B" := Or.inr (hw _ (List.mem_of_getElem? (i := 32) rfl))
  have hvc : Jvm.RoadKit.slotOf Z "java/lang/String" "value" "[B" ≠ Jvm.RoadKit.slotOf Z "java/lang/String" "coder" "B" := slot_ne hLV hLC (by decide) (t := .array .byte) (t' := .byte) (by decide) (by decide)
  have hxlt := own_lt EX.lt
  refine W0.aloadN me d_jdk_42_method_150_0 rfl rfl ?_
  show Fi p e below s Z _ _ _ _ T0 (mkF m 1 #[.val (.ref x), .val (.ref a), .val .null, .unset, .unset] [(.ref x)])
  refine W0.initO me (hw _ (List.mem_of_getElem? (i := 16) rfl)) (hw _ (List.mem_of_getElem? (i := 17) rfl)) (hw _ (List.mem_of_getElem? (i := 18) rfl)) d_jdk_42_method_150_1 rfl (own_le rfl) (own_le rfl) ?_
  intro T1 W1
  show Fi p e below s Z _ _ _ _ T1 (mkF m 4 #[.val (.ref x), .val (.ref a), .val .null, .unset, .unset] [])
  refine W1.aloadN me d_jdk_42_method_150_4 rfl rfl ?_
  show Fi p e below s Z _ _ _ _ T1 (mkF m 5 #[.val (.ref x), .val (.ref a), .val .null, .unset, .unset] [(.ref a)])
  refine W1.callV me hEL (hw _ (List.mem_of_getElem? (i := 137) rfl)) (hw _ (List.mem_of_getElem? (i := 138) rfl)) (fun hZ' => notFace_of_selects (args := #[]) (mvT (s := s.setVm _) hZ' (hw _ (List.mem_of_getElem? (i := 140) rfl)))) (hw _ (List.mem_of_getElem? (i := 140) rfl)) (hw _ (List.mem_of_getElem? (i := 139) rfl)) (hw _ (List.mem_of_getElem? (i := 69) rfl)) (hw _ (List.mem_of_getElem? (i := 141) rfl)) (a := a) (argsL := []) (rest := []) M.exa (c_getvalB (ss := []) g W1.old M) d_jdk_42_method_150_5 (by decide) (fun _ q => nomatch q) rfl (lenOf pd_27 rfl) (own_le rfl) (own_le rfl) (own_le rfl) (own_le rfl) rfl ?_
  intro T2 h2 v2 W2 z2 q2
  obtain ⟨sf2, X2, _, rfl, rfl, rfl⟩ := q2
  show Fi p e below s Z _ _ _ _ T2 (mkF m 8 #[.val (.ref x), .val (.ref a), .val .null, .unset, .unset] [(.ref b)])
  refine W2.astoreN me d_jdk_42_method_150_8 (l' := #[.val (.ref x), .val (.ref a), .val .null, .val (.ref b), .unset]) rfl rfl ?_
  refine W2.aloadN me d_jdk_42_method_150_9 rfl rfl ?_
  show Fi p e below s Z _ _ _ _ T2 (mkF m 10 #[.val (.ref x), .val (.ref a), .val .null, .val (.ref b), .unset] [(.ref a)])
  refine W2.callV me hEL (hw _ (List.mem_of_getElem? (i := 142) rfl)) (hw _ (List.mem_of_getElem? (i := 143) rfl)) (fun hZ' => nf_of_sel (y' := ⟨"java/lang/AbstractStringBuilder", "length", "()I"⟩) (hw _ (List.mem_of_getElem? (i := 102) rfl)) rfl hZ') (hw _ (List.mem_of_getElem? (i := 145) rfl)) (hw _ (List.mem_of_getElem? (i := 146) rfl)) (hw _ (List.mem_of_getElem? (i := 61) rfl)) (hw _ (List.mem_of_getElem? (i := 147) rfl)) (a := a) (argsL := []) (rest := []) M.exa (c_sblenB (ss := []) g W2.old M) d_jdk_42_method_150_10 (by decide) (fun _ q => nomatch q) rfl (lenOf pd_22 rfl) (own_le rfl) (own_le rfl) (own_le rfl) (own_le rfl) rfl ?_
  intro T3 h3 v3 W3 z3 q3
  obtain ⟨sf3, X3, _, rfl, rfl, rfl⟩ := q3
  show Fi p e below s Z _ _ _ _ T3 (mkF m 13 #[.val (.ref x), .val (.ref a), .val .null, .val (.ref b), .unset] [(.int (Int32.ofNat cs.length))])
  refine W3.istore me d_jdk_42_method_150_13 (l' := #[.val (.ref x), .val (.ref a), .val .null, .val (.ref b), .val (.int (Int32.ofNat cs.length))]) rfl ?_
  refine W3.aloadN me d_jdk_42_method_150_15 rfl rfl ?_
  show Fi p e below s Z _ _ _ _ T3 (mkF m 16 #[.val (.ref x), .val (.ref a), .val .null, .val (.ref b), .val (.int (Int32.ofNat cs.length))] [(.ref a)])
  cases ec with
  | false =>
    show Fi p e below s Z _ _ _ _ T3 (mkF m 16 #[.val (.ref x), .val (.ref a), .val .null, .val (.ref b), .val (.int (Int32.ofNat cs.length))] [(.ref a)])
    refine W3.callV me hEL (hw _ (List.mem_of_getElem? (i := 150) rfl)) (hw _ (List.mem_of_getElem? (i := 151) rfl)) (fun hZ' => notFace_of_selects (args := #[]) (mvT (s := s.setVm _) hZ' (hw _ (List.mem_of_getElem? (i := 153) rfl)))) (hw _ (List.mem_of_getElem? (i := 153) rfl)) (hw _ (List.mem_of_getElem? (i := 152) rfl)) (hw _ (List.mem_of_getElem? (i := 69) rfl)) (hw _ (List.mem_of_getElem? (i := 154) rfl)) (a := a) (argsL := []) (rest := []) M.exa (c_asblatB0 (ss := []) g W3.old M) d_jdk_42_method_150_16 (by decide) (fun _ q => nomatch q) rfl (lenOf pd_7 rfl) (own_le rfl) (own_le rfl) (own_le rfl) (own_le rfl) rfl ?_
    intro T4 h4 v4 W4 z4 q4
    obtain ⟨sf4, X4, _, rfl, rfl, rfl⟩ := q4
    show Fi p e below s Z _ _ _ _ T4 (mkF m 19 #[.val (.ref x), .val (.ref a), .val .null, .val (.ref b), .val (.int (Int32.ofNat cs.length))] [(.int (1 : Int32))])
    obtain ⟨k, EA, FV, FC, FN, FM, AB, EB, hcap, hok⟩ := M
    show Fi p e below s Z _ _ _ _ T4 (mkF m 19 #[.val (.ref x), .val (.ref a), .val .null, .val (.ref b), .val (.int (Int32.ofNat cs.length))] [(.int (1 : Int32))])
    refine W4.ifN_eq me d_jdk_42_method_150_19 (by decide) ?_
    show Fi p e below s Z _ _ _ _ T4 (mkF m 22 #[.val (.ref x), .val (.ref a), .val .null, .val (.ref b), .val (.int (Int32.ofNat cs.length))] [])
    refine W4.aloadN me d_jdk_42_method_150_22 rfl rfl ?_
    refine W4.iconst me d_jdk_42_method_150_23 (v := 0) rfl ?_
    show Fi p e below s Z _ _ _ _ T4 (mkF m 24 #[.val (.ref x), .val (.ref a), .val .null, .val (.ref b), .val (.int (Int32.ofNat cs.length))] [(.int (0 : Int32)), (.ref x)])
    refine W4.putF me (hw _ (List.mem_of_getElem? (i := 31) rfl)) XC Via.refl EX (Or.inr ⟨(hw _ (List.mem_of_getElem? (i := 32) rfl)), rfl, rfl⟩) (hw _ (List.mem_of_getElem? (i := 7) rfl)) (ty := .byte) (by decide) rfl rfl (Or.inl hS) hz d_jdk_42_method_150_24 ?_
    intro T5 h5 W5 R5
    show Fi p e below s Z _ _ _ _ T5 (mkF m 27 #[.val (.ref x), .val (.ref a), .val .null, .val (.ref b), .val (.int (Int32.ofNat cs.length))] [])
    refine W5.aloadN me d_jdk_42_method_150_27 rfl rfl ?_
    refine W5.aloadN me d_jdk_42_method_150_28 rfl rfl ?_
    refine W5.iconst me d_jdk_42_method_150_29 (v := 0) rfl ?_
    refine W5.iload me d_jdk_42_method_150_30 rfl ?_
    show Fi p e below s Z _ _ _ _ T5 (mkF m 32 #[.val (.ref x), .val (.ref a), .val .null, .val (.ref b), .val (.int (Int32.ofNat cs.length))] [(.int (Int32.ofNat cs.length)), (.int (0 : Int32)), (.ref b), (.ref x)])
    have hbx : b ≠ x := (EX.neArv AB (hw _ (List.mem_of_getElem? (i := 7) rfl))).symm
    have AB2 := AB.other R5 hbx
    refine W5.callS me hEL (hw _ (List.mem_of_getElem? (i := 155) rfl)) (hw _ (List.mem_of_getElem? (i := 156) rfl)) (hw _ (List.mem_of_getElem? (i := 157) rfl)) (hw _ (List.mem_of_getElem? (i := 158) rfl)) (argsL := [(.ref b), (.int (0 : Int32)), (.int (Int32.ofNat cs.length))]) (rest := [(.ref x)]) (c_crV (ss := []) g W5.old (N := 16) (n := cs.length) AB2 (lb_len cs) (by omega) (by decide)) d_jdk_42_method_150_32 (by decide) (fun _ q => nomatch q) rfl (lenOf pd_26 rfl) (own_le rfl) (own_le rfl) (own_le rfl) (own_le rfl) rfl ?_
    intro T6 h6 v6 W6 z6 q6
    obtain ⟨sf6, X6, _, rfl, E6, d6, k6, rfl, y6, A6⟩ := q6
    show Fi p e below s Z _ _ _ _ T6 (mkF m 35 #[.val (.ref x), .val (.ref a), .val .null, .val (.ref b), .val (.int (Int32.ofNat cs.length))] [(.ref d6), (.ref x)])
    refine W6.putF me (hw _ (List.mem_of_getElem? (i := 33) rfl)) ((XV.other R5 (Or.inr hvc)).ext E6) Via.refl ((EX.wr R5).ext E6) (Or.inr ⟨(hw _ (List.mem_of_getElem? (i := 34) rfl)), rfl, rfl⟩) (hw _ (List.mem_of_getElem? (i := 7) rfl)) (ty := (.array .byte)) (by decide) rfl rfl (Or.inl hS) hz d_jdk_42_method_150_35 ?_
    intro T7 h7 W7 R7
    show Fi p e below s Z _ _ _ _ T7 (mkF m 38 #[.val (.ref x), .val (.ref a), .val .null, .val (.ref b), .val (.int (Int32.ofNat cs.length))] [])
    refine W7.goto me d_jdk_42_method_150_38 (pc' := 97) (by decide) (by decide) ?_
    show Fi p e below s Z _ _ _ _ T7 (mkF m 97 #[.val (.ref x), .val (.ref a), .val .null, .val (.ref b), .val (.int (Int32.ofNat cs.length))] [])
    have hs5 : h0.size = h5.size := R5.size.symm
    have hdx : d6 ≠ x := own_en (by omega)
    have K : Keep h0 h7 [x] := (((Keep.refl _ [x]).wr R5 (Or.inl (List.mem_singleton.mpr rfl))).ext E6).wr R7 (Or.inl (List.mem_singleton.mpr rfl))
    exact W7.retU hEL me d_jdk_42_method_150_97 ⟨K, d6, k6, ((EX.wr R5).ext E6).wr R7, ((XC.same R5).ext E6).other R7 (Or.inr hvc.symm), ((XV.other R5 (Or.inr hvc)).ext E6).same R7, A6.other R7 hdx, by omega, hok⟩ (by decide) (by decide)
  | true =>
    show Fi p e below s Z _ _ _ _ T3 (mkF m 16 #[.val (.ref x), .val (.ref a), .val .null, .val (.ref b), .val (.int (Int32.ofNat cs.length))] [(.ref a)])
    refine W3.callV me hEL (hw _ (List.mem_of_getElem? (i := 150) rfl)) (hw _ (List.mem_of_getElem? (i := 151) rfl)) (fun hZ' => notFace_of_selects (args := #[]) (mvT (s := s.setVm _) hZ' (hw _ (List.mem_of_getElem? (i := 153) rfl)))) (hw _ (List.mem_of_getElem? (i := 153) rfl)) (hw _ (List.mem_of_getElem? (i := 152) rfl)) (hw _ (List.mem_of_getElem? (i := 69) rfl)) (hw _ (List.mem_of_getElem? (i := 154) rfl)) (a := a) (argsL := []) (rest := []) M.exa (c_asblatB1 (ss := []) g W3.old M) d_jdk_42_method_150_16 (by decide) (fun _ q => nomatch q) rfl (lenOf pd_7 rfl) (own_le rfl) (own_le rfl) (own_le rfl) (own_le rfl) rfl ?_
    intro T8 h8 v8 W8 z8 q8
    obtain ⟨sf8, X8, _, rfl, rfl, rfl⟩ := q8
    show Fi p e below s Z _ _ _ _ T8 (mkF m 19 #[.val (.ref x), .val (.ref a), .val .null, .val (.ref b), .val (.int (Int32.ofNat cs.length))] [(.int (0 : Int32))])
    obtain ⟨k, EA, FV, FC, FN, FM, AB, EB, hcap, hok⟩ := M
    show Fi p e below s Z _ _ _ _ T8 (mkF m 19 #[.val (.ref x), .val (.ref a), .val .null, .val (.ref b), .val (.int (Int32.ofNat cs.length))] [(.int (0 : Int32))])
    refine W8.ifY_eq me d_jdk_42_method_150_19 (by decide) (pc' := 41) (by decide) (by decide) ?_
    show Fi p e below s Z _ _ _ _ T8 (mkF m 41 #[.val (.ref x), .val (.ref a), .val .null, .val (.ref b), .val (.int (Int32.ofNat cs.length))] [])
    show Fi p e below s Z _ _ _ _ T8 (mkF m 41 #[.val (.ref x), .val (.ref a), .val .null, .val (.ref b), .val (.int (Int32.ofNat cs.length))] [])
    obtain ⟨G, O2, P2⟩ := g.2.2.1
    refine W8.getS me (hw _ (List.mem_of_getElem? (i := 19) rfl)) O2 Via.refl d_jdk_42_method_150_41 ?_
    intro T9 W9
    show Fi p e below s Z _ _ _ _ T9 (mkF m 44 #[.val (.ref x), .val (.ref a), .val .null, .val (.ref b), .val (.int (Int32.ofNat cs.length))] [(.int G)])
    refine W9.ifN_eq me d_jdk_42_method_150_44 P2 ?_
    refine W9.aloadN me d_jdk_42_method_150_47 rfl rfl ?_
    show Fi p e below s Z _ _ _ _ T9 (mkF m 48 #[.val (.ref x), .val (.ref a), .val .null, .val (.ref b), .val (.int (Int32.ofNat cs.length))] [(.ref a)])
    refine W9.getF me (hw _ (List.mem_of_getElem? (i := 238) rfl)) FM Via.refl d_jdk_42_method_150_48 ?_
    intro T10 W10
    show Fi p e below s Z _ _ _ _ T10 (mkF m 51 #[.val (.ref x), .val (.ref a), .val .null, .val (.ref b), .val (.int (Int32.ofNat cs.length))] [(.int (0 : Int32))])
    show Fi p e below s Z _ _ _ _ T10 (mkF m 51 #[.val (.ref x), .val (.ref a), .val .null, .val (.ref b), .val (.int (Int32.ofNat cs.length))] [(.int (0 : Int32))])
    refine W10.ifY_eq me d_jdk_42_method_150_51 (by decide) (pc' := 79) (by decide) (by decide) ?_
    show Fi p e below s Z _ _ _ _ T10 (mkF m 79 #[.val (.ref x), .val (.ref a), .val .null, .val (.ref b), .val (.int (Int32.ofNat cs.length))] [])
    refine W10.aloadN me d_jdk_42_method_150_79 rfl rfl ?_
    refine W10.iconst me d_jdk_42_method_150_80 (v := 1) rfl ?_
    show Fi p e below s Z _ _ _ _ T10 (mkF m 81 #[.val (.ref x), .val (.ref a), .val .null, .val (.ref b), .val (.int (Int32.ofNat cs.length))] [(.int (1 : Int32)), (.ref x)])
    refine W10.putF me (hw _ (List.mem_of_getElem? (i := 31) rfl)) XC Via.refl EX (Or.inr ⟨(hw _ (List.mem_of_getElem? (i := 32) rfl)), rfl, rfl⟩) (hw _ (List.mem_of_getElem? (i := 7) rfl)) (ty := .byte) (by decide) rfl rfl (Or.inl hS) hz d_jdk_42_method_150_81 ?_
    intro T11 h11 W11 R11
    show Fi p e below s Z _ _ _ _ T11 (mkF m 84 #[.val (.ref x), .val (.ref a), .val .null, .val (.ref b), .val (.int (Int32.ofNat cs.length))] [])
    refine W11.aloadN me d_jdk_42_method_150_84 rfl rfl ?_
    refine W11.aloadN me d_jdk_42_method_150_85 rfl rfl ?_
    refine W11.iconst me d_jdk_42_method_150_86 (v := 0) rfl ?_
    refine W11.iload me d_jdk_42_method_150_87 rfl ?_
    refine W11.iconst me d_jdk_42_method_150_89 (v := 1) rfl ?_
    refine W11.ishl me d_jdk_42_method_150_90 ?_
    show Fi p e below s Z _ _ _ _ T11 (mkF m 91 #[.val (.ref x), .val (.ref a), .val .null, .val (.ref b), .val (.int (Int32.ofNat cs.length))] [(.int ((Int32.ofNat cs.length) <<< ((1 : Int32) &&& 31))), (.int (0 : Int32)), (.ref b), (.ref x)])
    have hbx : b ≠ x := (EX.neArv AB (hw _ (List.mem_of_getElem? (i := 7) rfl))).symm
    have AB2 := AB.other R11 hbx
    rw [own_shl1 (by omega)]
    show Fi p e below s Z _ _ _ _ T11 (mkF m 91 #[.val (.ref x), .val (.ref a), .val .null, .val (.ref b), .val (.int (Int32.ofNat cs.length))] [(.int (Int32.ofNat (cs.length + cs.length))), (.int (0 : Int32)), (.ref b), (.ref x)])
    refine W11.callS me hEL (hw _ (List.mem_of_getElem? (i := 155) rfl)) (hw _ (List.mem_of_getElem? (i := 156) rfl)) (hw _ (List.mem_of_getElem? (i := 157) rfl)) (hw _ (List.mem_of_getElem? (i := 158) rfl)) (argsL := [(.ref b), (.int (0 : Int32)), (.int (Int32.ofNat (cs.length + cs.length)))]) (rest := [(.ref x)]) (c_crV (ss := []) g W11.old (N := 32) (n := cs.length + cs.length) AB2 (ub_len cs) (by omega) (by decide)) d_jdk_42_method_150_91 (by decide) (fun _ q => nomatch q) rfl (lenOf pd_26 rfl) (own_le rfl) (own_le rfl) (own_le rfl) (own_le rfl) rfl ?_
    intro T12 h12 v12 W12 z12 q12
    obtain ⟨sf12, X12, _, rfl, E12, d12, k12, rfl, y12, A12⟩ := q12
    show Fi p e below s Z _ _ _ _ T12 (mkF m 94 #[.val (.ref x), .val (.ref a), .val .null, .val (.ref b), .val (.int (Int32.ofNat cs.length))] [(.ref d12), (.ref x)])
    refine W12.putF me (hw _ (List.mem_of_getElem? (i := 33) rfl)) ((XV.other R11 (Or.inr hvc)).ext E12) Via.refl ((EX.wr R11).ext E12) (Or.inr ⟨(hw _ (List.mem_of_getElem? (i := 34) rfl)), rfl, rfl⟩) (hw _ (List.mem_of_getElem? (i := 7) rfl)) (ty := (.array .byte)) (by decide) rfl rfl (Or.inl hS) hz d_jdk_42_method_150_94 ?_
    intro T13 h13 W13 R13
    show Fi p e below s Z _ _ _ _ T13 (mkF m 97 #[.val (.ref x), .val (.ref a), .val .null, .val (.ref b), .val (.int (Int32.ofNat cs.length))] [])
    show Fi p e below s Z _ _ _ _ T13 (mkF m 97 #[.val (.ref x), .val (.ref a), .val .null, .val (.ref b), .val (.int (Int32.ofNat cs.length))] [])
    have hs11 : h0.size = h11.size := R11.size.symm
    have hdx : d12 ≠ x := own_en (by omega)
    have K : Keep h0 h13 [x] := (((Keep.refl _ [x]).wr R11 (Or.inl (List.mem_singleton.mpr rfl))).ext E12).wr R13 (Or.inl (List.mem_singleton.mpr rfl))
    exact W13.retU hEL me d_jdk_42_method_150_97 ⟨K, d12, k12, ((EX.wr R11).ext E12).wr R13, ((XC.same R11).ext E12).other R13 (Or.inr hvc.symm), ((XV.other R11 (Or.inr hvc)).ext E12).same R13, A12.other R13 hdx, by omega, hok⟩ (by decide) (by decide)

set_option maxRecDepth 65536 in
set_option maxHeartbeats 4000000 in
theorem c_init53B {l : Launch} {Z : State} {a0 : Array Value} {kn : Bool} (g : Gl Z a0) {ws : List Cond} {h0 : Heap} {ss : List Addr} (hO : Old Z Z.heap.size h0) {a b : Addr} {ec : Bool} {cs : List Int32} (M : SbB Z h0 a b ec cs) {x : Addr} {vv vc : Value} (EX : Exa Z h0 x "java/lang/String") (XV : Fld Z h0 x "java/lang/String" "value" "[B" vv) (XC : Fld Z h0 x "java/lang/String" "coder" "B" vc) (hS : x ∈ ss) (hz : Z.heap.size ≤ x) (hlt : cs.length < 16) :
    Con l Z consts_1 kn ws (⟨"java/lang/String", "<init>", "(Ljava/lang/StringBuilder;)V"⟩ : MethodName) jdk_42_method_53_code 2 none ({ frames := 4, cells := 1, slots := 32, locals := 65 } : Room) #[(.ref x), (.ref a)] h0 ss (rU fun h => Keep h0 h [x] ∧ ∃ d, StB Z h x d ec cs) := by
  have hw := g.1
  have hEL := g.2.1
  refine Con.of (plainFor_of_name pn_1) hO ?_
  intro p e s m below meth c T0 me W0
  refine Fi.entry (L := #[.val (.ref x), .val (.ref a)]) (by first | (simp [entryFrame, mkF, argsToLocals, Value.category, maxLocals]; done) | (simp [entryFrame, mkF, argsToLocals, Value.category]; done) | rfl) ?_
  refine W0.aloadN me d_jdk_42_method_53_0 rfl rfl ?_
  refine W0.aloadN me d_jdk_42_method_53_1 rfl rfl ?_
  refine W0.aconstNull me d_jdk_42_method_53_2 ?_
  show Fi p e below s Z _ _ _ _ T0 (mkF m 3 #[.val (.ref x), .val (.ref a)] [.null, (.ref a), (.ref x)])
  refine W0.callI me hEL (hw _ (List.mem_of_getElem? (i := 134) rfl)) (hw _ (List.mem_of_getElem? (i := 135) rfl)) (hw _ (List.mem_of_getElem? (i := 8) rfl)) (hw _ (List.mem_of_getElem? (i := 136) rfl)) rfl (a := x) (argsL := [(.ref a), .null]) (rest := []) (c_init150B g W0.old M EX XV XC hS hz hlt) d_jdk_42_method_53_3 (by decide) (fun _ q => q) rfl (lenOf pd_28 rfl) (own_le rfl) (own_le rfl) (own_le rfl) (own_le rfl) rfl ?_
  intro T1 h1 v1 W1 z1 q1
  obtain ⟨sf1, X1, rfl, K1, L1⟩ := q1
  show Fi p e below s Z _ _ _ _ T1 (mkF m 6 #[.val (.ref x), .val (.ref a)] [])
  exact W1.retU hEL me d_jdk_42_method_53_6 ⟨K1, L1⟩ (by decide) (by decide)

set_option maxRecDepth 65536 in
set_option maxHeartbeats 4000000 in
theorem c_tostrB {l : Launch} {Z : State} {a0 : Array Value} {kn : Bool} (g : Gl Z a0) {ws : List Cond} {h0 : Heap} {ss : List Addr} (hO : Old Z Z.heap.size h0) {a b : Addr} {ec : Bool} {cs : List Int32} (M : SbB Z h0 a b ec cs) (hlt : cs.length < 16) :
    Con l Z consts_1 kn ws (⟨"java/lang/StringBuilder", "toString", "()Ljava/lang/String;"⟩ : MethodName) jdk_67_method_42_code 1 (some (.object "java/lang/String")) ({ frames := 5, cells := 2, slots := 36, locals := 79 } : Room) #[(.ref a)] h0 ss (rV fun v h => Ext h0 h ∧ ∃ d vd, v = .ref d ∧ StB Z h d vd ec cs) := by
  have hw := g.1
  have hEL := g.2.1
  refine Con.of (plainFor_of_name pn_6) hO ?_
  intro p e s m below meth c T0 me W0
  refine Fi.entry (L := #[.val (.ref a)]) (by first | (simp [entryFrame, mkF, argsToLocals, Value.category, maxLocals]; done) | (simp [entryFrame, mkF, argsToLocals, Value.category]; done) | rfl) ?_
  refine W0.newO me (hw _ (List.mem_of_getElem? (i := 130) rfl)) (hw _ (List.mem_of_getElem? (i := 7) rfl)) (hw _ (List.mem_of_getElem? (i := 8) rfl)) d_jdk_67_method_42_0 (own_le rfl) (own_le rfl) ?_
  intro T1 h1 a1 g1 W1 E1 A1 D1 U1
  show Fi p e below s Z _ _ _ _ T1 (mkF m 3 #[.val (.ref a)] [(.ref a1)])
  refine W1.dup me d_jdk_67_method_42_3 rfl ?_
  refine W1.aloadN me d_jdk_67_method_42_4 rfl rfl ?_
  show Fi p e below s Z _ _ _ _ T1 (mkF m 5 #[.val (.ref a)] [(.ref a), (.ref a1), (.ref a1)])
  refine W1.callI me hEL (hw _ (List.mem_of_getElem? (i := 131) rfl)) (hw _ (List.mem_of_getElem? (i := 132) rfl)) (hw _ (List.mem_of_getElem? (i := 8) rfl)) (hw _ (List.mem_of_getElem? (i := 133) rfl)) rfl (a := a1) (argsL := [(.ref a)]) (rest := [(.ref a1)]) (c_init53B g W1.old (M.ext E1) A1 (D1 (Or.inr (hw _ (List.mem_of_getElem? (i := 34) rfl))) (ty := .array .byte) (by decide)) (D1 (Or.inr (hw _ (List.mem_of_getElem? (i := 32) rfl))) (ty := .byte) (by decide)) (List.mem_cons_self ..) (by have := hO.2.1; omega) hlt) d_jdk_67_method_42_5 (by decide) (fun _ q => q) rfl (lenOf pd_29 rfl) (own_le rfl) (own_le rfl) (own_le rfl) (own_le rfl) rfl ?_
  intro T2 h2 v2 W2 z2 q2
  obtain ⟨sf2, X2, rfl, K2, b2, L2⟩ := q2
  show Fi p e below s Z _ _ _ _ T2 (mkF m 8 #[.val (.ref a)] [(.ref a1)])
  exact W2.retA hEL me d_jdk_67_method_42_8 ⟨own_xk E1 K2 (allS (by omega) all0), a1, b2, rfl, L2⟩ (by decide) (by decide) rfl rfl rfl

set_option maxRecDepth 65536 in
set_option maxHeartbeats 4000000 in
theorem c_mk {l : Launch} {Z : State} {a0 : Array Value} {kn : Bool} (g : Gl Z a0) {ws : List Cond} {h0 : Heap} {ss : List Addr} (hO : Old Z Z.heap.size h0) {n : Nat} {x : Int32} (hn : n ≤ 2) :
    Con l Z consts_1 kn ws (⟨"com/example/goldenrod/goldenrod/ProblemToStringPinLaw", "mk", "(II)Ljava/lang/String;"⟩ : MethodName) method_2_code 5 (some (.object "java/lang/String")) ({ frames := 6, cells := 6, slots := 46, locals := 88 } : Room) #[(.int (Int32.ofNat n)), (.int x)] h0 ss (rV fun v h => Ext h0 h ∧ ∃ a b f, v = .ref a ∧ StB Z h a b f (sub [(x &&& (65535 : Int32)).toUInt32.toUInt16.toUInt32.toInt32, (XT.ushr x (16 : Int32) &&& (65535 : Int32)).toUInt32.toUInt16.toUInt32.toInt32] 0 n)) := by
  have hw := g.1
  have hEL := g.2.1
  refine Con.of (plainFor_of_name pn_8) hO ?_
  intro p e s m below meth c T0 me W0
  refine Fi.entry (L := #[.val (.int (Int32.ofNat n)), .val (.int x), .unset, .unset, .unset]) (by first | (simp [entryFrame, mkF, argsToLocals, Value.category, maxLocals]; done) | (simp [entryFrame, mkF, argsToLocals, Value.category]; done) | rfl) ?_
  refine W0.iloadN me d_method_2_0 rfl ?_
  refine W0.ldcI me (hw _ (List.mem_of_getElem? (i := 4) rfl)) d_method_2_1 ?_
  refine W0.iand me d_method_2_3 ?_
  refine W0.i2c me d_method_2_4 ?_
  show Fi p e below s Z _ _ _ _ T0 (mkF m 5 #[.val (.int (Int32.ofNat n)), .val (.int x), .unset, .unset, .unset] [(.int ((x &&& (65535 : Int32)).toUInt32.toUInt16.toUInt32.toInt32))])
  obtain ⟨c0, hc0⟩ : ∃ z, z = ((x &&& (65535 : Int32)).toUInt32.toUInt16.toUInt32.toInt32) := ⟨_, rfl⟩
  rw [← hc0]
  have qc0 : ¬ c0 < 0 ∧ ¬ (65535 : Int32) < c0 := hc0 ▸ c65535 x
  show Fi p e below s Z _ _ _ _ T0 (mkF m 5 #[.val (.int (Int32.ofNat n)), .val (.int x), .unset, .unset, .unset] [(.int c0)])
  refine W0.istoreN me d_method_2_5 (l' := #[.val (.int (Int32.ofNat n)), .val (.int x), .val (.int c0), .unset, .unset]) rfl ?_
  refine W0.iloadN me d_method_2_6 rfl ?_
  refine W0.bipush me d_method_2_7 (v := 16) rfl ?_
  refine W0.iushr me d_method_2_9 ?_
  refine W0.ldcI me (hw _ (List.mem_of_getElem? (i := 4) rfl)) d_method_2_10 ?_
  refine W0.iand me d_method_2_12 ?_
  refine W0.i2c me d_method_2_13 ?_
  show Fi p e below s Z _ _ _ _ T0 (mkF m 14 #[.val (.int (Int32.ofNat n)), .val (.int x), .val (.int c0), .unset, .unset] [(.int (((XT.ushr x (16 : Int32)) &&& (65535 : Int32)).toUInt32.toUInt16.toUInt32.toInt32))])
  obtain ⟨c1, hc1⟩ : ∃ z, z = (((XT.ushr x (16 : Int32)) &&& (65535 : Int32)).toUInt32.toUInt16.toUInt32.toInt32) := ⟨_, rfl⟩
  rw [← hc1]
  have qc1 : ¬ c1 < 0 ∧ ¬ (65535 : Int32) < c1 := hc1 ▸ c65535 (XT.ushr x (16 : Int32))
  show Fi p e below s Z _ _ _ _ T0 (mkF m 14 #[.val (.int (Int32.ofNat n)), .val (.int x), .val (.int c0), .unset, .unset] [(.int c1)])
  refine W0.istoreN me d_method_2_14 (l' := #[.val (.int (Int32.ofNat n)), .val (.int x), .val (.int c0), .val (.int c1), .unset]) rfl ?_
  refine W0.iloadN me d_method_2_15 rfl ?_
  show Fi p e below s Z _ _ _ _ T0 (mkF m 16 #[.val (.int (Int32.ofNat n)), .val (.int x), .val (.int c0), .val (.int c1), .unset] [(.int (Int32.ofNat n))])
  rcases own_012 hn with rfl | rfl | rfl
  ·
    show Fi p e below s Z _ _ _ _ T0 (mkF m 16 #[.val (.int (0 : Int32)), .val (.int x), .val (.int c0), .val (.int c1), .unset] [(.int (0 : Int32))])
    show Fi p e below s Z _ _ _ _ T0 (mkF m 16 #[.val (.int (0 : Int32)), .val (.int x), .val (.int c0), .val (.int c1), .unset] [(.int (0 : Int32))])
    refine W0.ifN_ne me d_method_2_16 (by decide) ?_
    show Fi p e below s Z _ _ _ _ T0 (mkF m 19 #[.val (.int (0 : Int32)), .val (.int x), .val (.int c0), .val (.int c1), .unset] [])
    show Fi p e below s Z _ _ _ _ T0 (mkF m 19 #[.val (.int (0 : Int32)), .val (.int x), .val (.int c0), .val (.int c1), .unset] [])
    refine W0.newO me (hw _ (List.mem_of_getElem? (i := 6) rfl)) (hw _ (List.mem_of_getElem? (i := 7) rfl)) (hw _ (List.mem_of_getElem? (i := 8) rfl)) d_method_2_19 (own_le rfl) (own_le rfl) ?_
    intro T1 h1 a1 g1 W1 E1 A1 D1 U1
    show Fi p e below s Z _ _ _ _ T1 (mkF m 22 #[.val (.int (0 : Int32)), .val (.int x), .val (.int c0), .val (.int c1), .unset] [(.ref a1)])
    refine W1.dup me d_method_2_22 rfl ?_
    refine W1.iconst me d_method_2_23 (v := 0) rfl ?_
    show Fi p e below s Z _ _ _ _ T1 (mkF m 24 #[.val (.int (0 : Int32)), .val (.int x), .val (.int c0), .val (.int c1), .unset] [(.int (0 : Int32)), (.ref a1), (.ref a1)])
    have hz1 : Z.heap.size ≤ a1 := by have := W0.old.2.1; omega
    refine W1.newA me (hw _ (List.mem_of_getElem? (i := 5) rfl)) d_method_2_24 (by decide) (cap := 0) (by decide) (own_le rfl) (own_le rfl) (own_le rfl) ?_
    intro T2 h2 a2 k2 g2 W2 E2 A2
    show Fi p e below s Z _ _ _ _ T2 (mkF m 26 #[.val (.int (0 : Int32)), .val (.int x), .val (.int c0), .val (.int c1), .unset] [(.ref a2), (.ref a1), (.ref a1)])
    have EE2 := own_xt E1 E2
    refine W2.callI me hEL (hw _ (List.mem_of_getElem? (i := 9) rfl)) (hw _ (List.mem_of_getElem? (i := 10) rfl)) (hw _ (List.mem_of_getElem? (i := 8) rfl)) (hw _ (List.mem_of_getElem? (i := 11) rfl)) rfl (a := a1) (argsL := [(.ref a2)]) (rest := [(.ref a1)]) (c_init3E g W2.old (cs := []) (A1.ext E2) ((D1 (Or.inr (hw _ (List.mem_of_getElem? (i := 34) rfl))) (ty := .array .byte) (by decide)).ext E2) ((D1 (Or.inr (hw _ (List.mem_of_getElem? (i := 32) rfl))) (ty := .byte) (by decide)).ext E2) A2 (List.mem_cons_of_mem _ (List.mem_cons_self ..)) hz1 (fun _ q => nomatch q) (own_le rfl)) d_method_2_26 (by decide) (fun _ q => q) rfl (lenOf pd_30 rfl) (own_le rfl) (own_le rfl) (own_le rfl) (own_le rfl) rfl ?_
    intro T3 h3 v3 W3 z3 q3
    obtain ⟨sf3, X3, rfl, K3, b3, e3, L3⟩ := q3
    show Fi p e below s Z _ _ _ _ T3 (mkF m 29 #[.val (.int (0 : Int32)), .val (.int x), .val (.int c0), .val (.int c1), .unset] [(.ref a1)])
    have F3 := own_xk EE2 K3 (allS (by omega) all0)
    exact W3.retA hEL me d_method_2_29 ⟨F3, a1, b3, e3, rfl, L3⟩ (by decide) (by decide) rfl rfl rfl
  ·
    show Fi p e below s Z _ _ _ _ T0 (mkF m 16 #[.val (.int (1 : Int32)), .val (.int x), .val (.int c0), .val (.int c1), .unset] [(.int (1 : Int32))])
    show Fi p e below s Z _ _ _ _ T0 (mkF m 16 #[.val (.int (1 : Int32)), .val (.int x), .val (.int c0), .val (.int c1), .unset] [(.int (1 : Int32))])
    refine W0.ifY_ne me d_method_2_16 (by decide) (pc' := 30) (by decide) (by decide) ?_
    show Fi p e below s Z _ _ _ _ T0 (mkF m 30 #[.val (.int (1 : Int32)), .val (.int x), .val (.int c0), .val (.int c1), .unset] [])
    refine W0.iloadN me d_method_2_30 rfl ?_
    refine W0.iconst me d_method_2_31 (v := 1) rfl ?_
    show Fi p e below s Z _ _ _ _ T0 (mkF m 32 #[.val (.int (1 : Int32)), .val (.int x), .val (.int c0), .val (.int c1), .unset] [(.int (1 : Int32)), (.int (1 : Int32))])
    refine W0.icN_ne me d_method_2_32 (by decide) ?_
    show Fi p e below s Z _ _ _ _ T0 (mkF m 35 #[.val (.int (1 : Int32)), .val (.int x), .val (.int c0), .val (.int c1), .unset] [])
    refine W0.iconst me d_method_2_35 (v := 1) rfl ?_
    show Fi p e below s Z _ _ _ _ T0 (mkF m 36 #[.val (.int (1 : Int32)), .val (.int x), .val (.int c0), .val (.int c1), .unset] [(.int (1 : Int32))])
    refine W0.newA me (hw _ (List.mem_of_getElem? (i := 5) rfl)) d_method_2_36 (by decide) (cap := 1) (by decide) (own_le rfl) (own_le rfl) (own_le rfl) ?_
    intro T4 h4 a4 k4 g4 W4 E4 A4
    show Fi p e below s Z _ _ _ _ T4 (mkF m 38 #[.val (.int (1 : Int32)), .val (.int x), .val (.int c0), .val (.int c1), .unset] [(.ref a4)])
    have hz4 : Z.heap.size ≤ a4 := by have := W0.old.2.1; omega
    refine W4.astore me d_method_2_38 (l' := #[.val (.int (1 : Int32)), .val (.int x), .val (.int c0), .val (.int c1), .val (.ref a4)]) rfl rfl ?_
    refine W4.aload me d_method_2_40 rfl rfl ?_
    refine W4.iconst me d_method_2_42 (v := 0) rfl ?_
    refine W4.iloadN me d_method_2_43 rfl ?_
    show Fi p e below s Z _ _ _ _ T4 (mkF m 44 #[.val (.int (1 : Int32)), .val (.int x), .val (.int c0), .val (.int c1), .val (.ref a4)] [(.int c0), (.int (0 : Int32)), (.ref a4)])
    refine W4.castoreP me A4 qc0 d_method_2_44 (i := 0) rfl (by decide) (by decide) hz4 ?_
    intro T5 h5 W5 R5 A5
    show Fi p e below s Z _ _ _ _ T5 (mkF m 45 #[.val (.int (1 : Int32)), .val (.int x), .val (.int c0), .val (.int c1), .val (.ref a4)] [])
    have E5 := own_xw E4 (by omega) R5
    show Fi p e below s Z _ _ _ _ T5 (mkF m 45 #[.val (.int (1 : Int32)), .val (.int x), .val (.int c0), .val (.int c1), .val (.ref a4)] [])
    refine W5.newO me (hw _ (List.mem_of_getElem? (i := 6) rfl)) (hw _ (List.mem_of_getElem? (i := 7) rfl)) (hw _ (List.mem_of_getElem? (i := 8) rfl)) d_method_2_45 (own_le rfl) (own_le rfl) ?_
    intro T6 h6 a6 g6 W6 E6 A6 D6 U6
    show Fi p e below s Z _ _ _ _ T6 (mkF m 48 #[.val (.int (1 : Int32)), .val (.int x), .val (.int c0), .val (.int c1), .val (.ref a4)] [(.ref a6)])
    refine W6.dup me d_method_2_48 rfl ?_
    refine W6.aload me d_method_2_49 rfl rfl ?_
    show Fi p e below s Z _ _ _ _ T6 (mkF m 51 #[.val (.int (1 : Int32)), .val (.int x), .val (.int c0), .val (.int c1), .val (.ref a4)] [(.ref a4), (.ref a6), (.ref a6)])
    have hz6 : Z.heap.size ≤ a6 := by have := W5.old.2.1; omega
    have EE6 := own_xt E5 E6
    have hsE6 := E5.1
    refine W6.callI me hEL (hw _ (List.mem_of_getElem? (i := 9) rfl)) (hw _ (List.mem_of_getElem? (i := 10) rfl)) (hw _ (List.mem_of_getElem? (i := 8) rfl)) (hw _ (List.mem_of_getElem? (i := 11) rfl)) rfl (a := a6) (argsL := [(.ref a4)]) (rest := [(.ref a6)]) (c_init3E g W6.old (cs := [c0]) A6 (D6 (Or.inr (hw _ (List.mem_of_getElem? (i := 34) rfl))) (ty := .array .byte) (by decide)) (D6 (Or.inr (hw _ (List.mem_of_getElem? (i := 32) rfl))) (ty := .byte) (by decide)) (A5.ext E6) (List.mem_cons_self ..) hz6 (by intro z hz; simp only [List.mem_cons, List.not_mem_nil, or_false] at hz; rw [hz]; exact qc0) (own_le rfl)) d_method_2_51 (by decide) (fun _ q => q) rfl (lenOf pd_30 rfl) (own_le rfl) (own_le rfl) (own_le rfl) (own_le rfl) rfl ?_
    intro T7 h7 v7 W7 z7 q7
    obtain ⟨sf7, X7, rfl, K7, b7, e7, L7⟩ := q7
    show Fi p e below s Z _ _ _ _ T7 (mkF m 54 #[.val (.int (1 : Int32)), .val (.int x), .val (.int c0), .val (.int c1), .val (.ref a4)] [(.ref a6)])
    have F7 := own_xk EE6 K7 (allS (by omega) all0)
    exact W7.retA hEL me d_method_2_54 ⟨F7, a6, b7, e7, rfl, L7⟩ (by decide) (by decide) rfl rfl rfl
  ·
    show Fi p e below s Z _ _ _ _ T0 (mkF m 16 #[.val (.int (2 : Int32)), .val (.int x), .val (.int c0), .val (.int c1), .unset] [(.int (2 : Int32))])
    show Fi p e below s Z _ _ _ _ T0 (mkF m 16 #[.val (.int (2 : Int32)), .val (.int x), .val (.int c0), .val (.int c1), .unset] [(.int (2 : Int32))])
    refine W0.ifY_ne me d_method_2_16 (by decide) (pc' := 30) (by decide) (by decide) ?_
    show Fi p e below s Z _ _ _ _ T0 (mkF m 30 #[.val (.int (2 : Int32)), .val (.int x), .val (.int c0), .val (.int c1), .unset] [])
    refine W0.iloadN me d_method_2_30 rfl ?_
    refine W0.iconst me d_method_2_31 (v := 1) rfl ?_
    show Fi p e below s Z _ _ _ _ T0 (mkF m 32 #[.val (.int (2 : Int32)), .val (.int x), .val (.int c0), .val (.int c1), .unset] [(.int (1 : Int32)), (.int (2 : Int32))])
    refine W0.icY_ne me d_method_2_32 (by decide) (pc' := 55) (by decide) (by decide) ?_
    show Fi p e below s Z _ _ _ _ T0 (mkF m 55 #[.val (.int (2 : Int32)), .val (.int x), .val (.int c0), .val (.int c1), .unset] [])
    refine W0.iconst me d_method_2_55 (v := 2) rfl ?_
    show Fi p e below s Z _ _ _ _ T0 (mkF m 56 #[.val (.int (2 : Int32)), .val (.int x), .val (.int c0), .val (.int c1), .unset] [(.int (2 : Int32))])
    refine W0.newA me (hw _ (List.mem_of_getElem? (i := 5) rfl)) d_method_2_56 (by decide) (cap := 2) (by decide) (own_le rfl) (own_le rfl) (own_le rfl) ?_
    intro T8 h8 a8 k8 g8 W8 E8 A8
    show Fi p e below s Z _ _ _ _ T8 (mkF m 58 #[.val (.int (2 : Int32)), .val (.int x), .val (.int c0), .val (.int c1), .unset] [(.ref a8)])
    have hz8 : Z.heap.size ≤ a8 := by have := W0.old.2.1; omega
    refine W8.astore me d_method_2_58 (l' := #[.val (.int (2 : Int32)), .val (.int x), .val (.int c0), .val (.int c1), .val (.ref a8)]) rfl rfl ?_
    refine W8.aload me d_method_2_60 rfl rfl ?_
    refine W8.iconst me d_method_2_62 (v := 0) rfl ?_
    refine W8.iloadN me d_method_2_63 rfl ?_
    show Fi p e below s Z _ _ _ _ T8 (mkF m 64 #[.val (.int (2 : Int32)), .val (.int x), .val (.int c0), .val (.int c1), .val (.ref a8)] [(.int c0), (.int (0 : Int32)), (.ref a8)])
    refine W8.castoreP me A8 qc0 d_method_2_64 (i := 0) rfl (by decide) (by decide) hz8 ?_
    intro T9 h9 W9 R9 A9
    show Fi p e below s Z _ _ _ _ T9 (mkF m 65 #[.val (.int (2 : Int32)), .val (.int x), .val (.int c0), .val (.int c1), .val (.ref a8)] [])
    have E9 := own_xw E8 (by omega) R9
    refine W9.aload me d_method_2_65 rfl rfl ?_
    refine W9.iconst me d_method_2_67 (v := 1) rfl ?_
    refine W9.iloadN me d_method_2_68 rfl ?_
    show Fi p e below s Z _ _ _ _ T9 (mkF m 69 #[.val (.int (2 : Int32)), .val (.int x), .val (.int c0), .val (.int c1), .val (.ref a8)] [(.int c1), (.int (1 : Int32)), (.ref a8)])
    refine W9.castoreP me A9 qc1 d_method_2_69 (i := 1) rfl (by decide) (by decide) hz8 ?_
    intro T10 h10 W10 R10 A10
    show Fi p e below s Z _ _ _ _ T10 (mkF m 70 #[.val (.int (2 : Int32)), .val (.int x), .val (.int c0), .val (.int c1), .val (.ref a8)] [])
    have E10 := own_xw E9 (by omega) R10
    show Fi p e below s Z _ _ _ _ T10 (mkF m 70 #[.val (.int (2 : Int32)), .val (.int x), .val (.int c0), .val (.int c1), .val (.ref a8)] [])
    refine W10.newO me (hw _ (List.mem_of_getElem? (i := 6) rfl)) (hw _ (List.mem_of_getElem? (i := 7) rfl)) (hw _ (List.mem_of_getElem? (i := 8) rfl)) d_method_2_70 (own_le rfl) (own_le rfl) ?_
    intro T11 h11 a11 g11 W11 E11 A11 D11 U11
    show Fi p e below s Z _ _ _ _ T11 (mkF m 73 #[.val (.int (2 : Int32)), .val (.int x), .val (.int c0), .val (.int c1), .val (.ref a8)] [(.ref a11)])
    refine W11.dup me d_method_2_73 rfl ?_
    refine W11.aload me d_method_2_74 rfl rfl ?_
    show Fi p e below s Z _ _ _ _ T11 (mkF m 76 #[.val (.int (2 : Int32)), .val (.int x), .val (.int c0), .val (.int c1), .val (.ref a8)] [(.ref a8), (.ref a11), (.ref a11)])
    have hz11 : Z.heap.size ≤ a11 := by have := W10.old.2.1; omega
    have EE11 := own_xt E10 E11
    have hsE11 := E10.1
    refine W11.callI me hEL (hw _ (List.mem_of_getElem? (i := 9) rfl)) (hw _ (List.mem_of_getElem? (i := 10) rfl)) (hw _ (List.mem_of_getElem? (i := 8) rfl)) (hw _ (List.mem_of_getElem? (i := 11) rfl)) rfl (a := a11) (argsL := [(.ref a8)]) (rest := [(.ref a11)]) (c_init3E g W11.old (cs := [c0, c1]) A11 (D11 (Or.inr (hw _ (List.mem_of_getElem? (i := 34) rfl))) (ty := .array .byte) (by decide)) (D11 (Or.inr (hw _ (List.mem_of_getElem? (i := 32) rfl))) (ty := .byte) (by decide)) (A10.ext E11) (List.mem_cons_self ..) hz11 (by intro z hz; simp only [List.mem_cons, List.not_mem_nil, or_false] at hz; rcases hz with rfl | rfl; exact qc0; exact qc1) (own_le rfl)) d_method_2_76 (by decide) (fun _ q => q) rfl (lenOf pd_30 rfl) (own_le rfl) (own_le rfl) (own_le rfl) (own_le rfl) rfl ?_
    intro T12 h12 v12 W12 z12 q12
    obtain ⟨sf12, X12, rfl, K12, b12, e12, L12⟩ := q12
    show Fi p e below s Z _ _ _ _ T12 (mkF m 79 #[.val (.int (2 : Int32)), .val (.int x), .val (.int c0), .val (.int c1), .val (.ref a8)] [(.ref a11)])
    have F12 := own_xk EE11 K12 (allS (by omega) all0)
    exact W12.retA hEL me d_method_2_79 ⟨F12, a11, b12, e12, rfl, L12⟩ (by decide) (by decide) rfl rfl rfl

set_option maxRecDepth 65536 in
set_option maxHeartbeats 4000000 in
theorem c_rec {l : Launch} {Z : State} {a0 : Array Value} {kn : Bool} (g : Gl Z a0) {ws : List Cond} {h0 : Heap} {ss : List Addr} (hO : Old Z Z.heap.size h0) {x : Addr} :
    Con l Z consts_1 kn ws (⟨"java/lang/Record", "<init>", "()V"⟩ : MethodName) jdk_30_method_1_code 1 none ({ frames := 1, cells := 0, slots := 0, locals := 12 } : Room) #[(.ref x)] h0 ss (rU fun h => h0 = h) := by
  have hw := g.1
  have hEL := g.2.1
  refine Con.of (plainFor_of_name pn_9) hO ?_
  intro p e s m below meth c T0 me W0
  refine Fi.entry (L := #[.val (.ref x)]) (by first | (simp [entryFrame, mkF, argsToLocals, Value.category, maxLocals]; done) | (simp [entryFrame, mkF, argsToLocals, Value.category]; done) | rfl) ?_
  refine W0.aloadN me d_jdk_30_method_1_0 rfl rfl ?_
  show Fi p e below s Z _ _ _ _ T0 (mkF m 1 #[.val (.ref x)] [(.ref x)])
  refine W0.initO me (hw _ (List.mem_of_getElem? (i := 49) rfl)) (hw _ (List.mem_of_getElem? (i := 17) rfl)) (hw _ (List.mem_of_getElem? (i := 18) rfl)) d_jdk_30_method_1_1 rfl (own_le rfl) (own_le rfl) ?_
  intro T1 W1
  show Fi p e below s Z _ _ _ _ T1 (mkF m 4 #[.val (.ref x)] [])
  exact W1.retU hEL me d_jdk_30_method_1_4 rfl (by decide) (by decide)

set_option maxRecDepth 65536 in
set_option maxHeartbeats 4000000 in
theorem c_pinit {l : Launch} {Z : State} {a0 : Array Value} {kn : Bool} (g : Gl Z a0) {ws : List Cond} {h0 : Heap} {ss : List Addr} (hO : Old Z Z.heap.size h0) {x u v : Addr} {v1 v2 : Value} (EX : Exa Z h0 x "com/example/goldenrod/goldenrod/InvalidRulesException$Problem") (FP : Fld Z h0 x "com/example/goldenrod/goldenrod/InvalidRulesException$Problem" "pointer" "Ljava/lang/String;" v1) (FM : Fld Z h0 x "com/example/goldenrod/goldenrod/InvalidRulesException$Problem" "message" "Ljava/lang/String;" v2) (hz : Z.heap.size ≤ x) :
    Con l Z consts_1 kn ws (⟨"com/example/goldenrod/goldenrod/InvalidRulesException$Problem", "<init>", "(Ljava/lang/String;Ljava/lang/String;)V"⟩ : MethodName) prog_4_method_1_code 3 none ({ frames := 2, cells := 0, slots := 0, locals := 24 } : Room) #[(.ref x), (.ref u), (.ref v)] h0 ss (rU fun h => Keep h0 h [x] ∧ Exa Z h x "com/example/goldenrod/goldenrod/InvalidRulesException$Problem" ∧ Fld Z h x "com/example/goldenrod/goldenrod/InvalidRulesException$Problem" "pointer" "Ljava/lang/String;" (.ref u) ∧ Fld Z h x "com/example/goldenrod/goldenrod/InvalidRulesException$Problem" "message" "Ljava/lang/String;" (.ref v)) := by
  have hw := g.1
  have hEL := g.2.1
  refine Con.of (plainFor_of_name pn_10) hO ?_
  intro p e s m below meth c T0 me W0
  refine Fi.entry (L := #[.val (.ref x), .val (.ref u), .val (.ref v)]) (by first | (simp [entryFrame, mkF, argsToLocals, Value.category, maxLocals]; done) | (simp [entryFrame, mkF, argsToLocals, Value.category]; done) | rfl) ?_
  refine W0.aloadN me d_prog_4_method_1_0 rfl rfl ?_
  show Fi p e below s Z _ _ _ _ T0 (mkF m 1 #[.val (.ref x), .val (.ref u), .val (.ref v)] [(.ref x)])
  have n_pm : Jvm.RoadKit.slotOf Z "com/example/goldenrod/goldenrod/InvalidRulesException$Problem" "pointer" "Ljava/lang/String;" ≠ Jvm.RoadKit.slotOf Z "com/example/goldenrod/goldenrod/InvalidRulesException$Problem" "message" "Ljava/lang/String;" := slot_ne (Or.inr (hw _ (List.mem_of_getElem? (i := 51) rfl)) : Laid Z a0 "com/example/goldenrod/goldenrod/InvalidRulesException$Problem" "com/example/goldenrod/goldenrod/InvalidRulesException$Problem" "pointer" "Ljava/lang/String;") (Or.inr (hw _ (List.mem_of_getElem? (i := 53) rfl)) : Laid Z a0 "com/example/goldenrod/goldenrod/InvalidRulesException$Problem" "com/example/goldenrod/goldenrod/InvalidRulesException$Problem" "message" "Ljava/lang/String;") (by decide) (t := (.object "java/lang/String")) (t' := (.object "java/lang/String")) (by decide) (by decide)
  refine W0.callI me hEL (hw _ (List.mem_of_getElem? (i := 44) rfl)) (hw _ (List.mem_of_getElem? (i := 45) rfl)) (hw _ (List.mem_of_getElem? (i := 47) rfl)) (hw _ (List.mem_of_getElem? (i := 48) rfl)) rfl (a := x) (argsL := []) (rest := []) (c_rec (ss := []) g W0.old) d_prog_4_method_1_1 (by decide) (fun _ q => nomatch q) rfl (lenOf pd_19 rfl) (own_le rfl) (own_le rfl) (own_le rfl) (own_le rfl) rfl ?_
  intro T1 h1 v1 W1 z1 q1
  obtain ⟨sf1, X1, rfl, rfl⟩ := q1
  show Fi p e below s Z _ _ _ _ T1 (mkF m 4 #[.val (.ref x), .val (.ref u), .val (.ref v)] [])
  refine W1.aloadN me d_prog_4_method_1_4 rfl rfl ?_
  refine W1.aloadN me d_prog_4_method_1_5 rfl rfl ?_
  show Fi p e below s Z _ _ _ _ T1 (mkF m 6 #[.val (.ref x), .val (.ref u), .val (.ref v)] [(.ref u), (.ref x)])
  refine W1.putF me (hw _ (List.mem_of_getElem? (i := 50) rfl)) FP Via.refl EX (Or.inr ⟨(hw _ (List.mem_of_getElem? (i := 51) rfl)), rfl, rfl⟩) (hw _ (List.mem_of_getElem? (i := 39) rfl)) (ty := (.object "java/lang/String")) (by decide) rfl rfl (Or.inr (Or.inl ⟨"com/example/goldenrod/goldenrod/InvalidRulesException$Problem", EX, by decide, by decide⟩)) hz d_prog_4_method_1_6 ?_
  intro T2 h2 W2 R2
  show Fi p e below s Z _ _ _ _ T2 (mkF m 9 #[.val (.ref x), .val (.ref u), .val (.ref v)] [])
  refine W2.aloadN me d_prog_4_method_1_9 rfl rfl ?_
  refine W2.aloadN me d_prog_4_method_1_10 rfl rfl ?_
  show Fi p e below s Z _ _ _ _ T2 (mkF m 11 #[.val (.ref x), .val (.ref u), .val (.ref v)] [(.ref v), (.ref x)])
  refine W2.putF me (hw _ (List.mem_of_getElem? (i := 52) rfl)) (FM.other R2 (Or.inr n_pm.symm)) Via.refl (EX.wr R2) (Or.inr ⟨(hw _ (List.mem_of_getElem? (i := 53) rfl)), rfl, rfl⟩) (hw _ (List.mem_of_getElem? (i := 39) rfl)) (ty := (.object "java/lang/String")) (by decide) rfl rfl (Or.inr (Or.inl ⟨"com/example/goldenrod/goldenrod/InvalidRulesException$Problem", EX.wr R2, by decide, by decide⟩)) hz d_prog_4_method_1_11 ?_
  intro T3 h3 W3 R3
  show Fi p e below s Z _ _ _ _ T3 (mkF m 14 #[.val (.ref x), .val (.ref u), .val (.ref v)] [])
  exact W3.retU hEL me d_prog_4_method_1_14 ⟨(Keep.of_wr R2).wr R3 (Or.inl (List.mem_cons_self ..)), (EX.wr R2).wr R3, (FP.same R2).other R3 (Or.inr n_pm), (FM.other R2 (Or.inr n_pm.symm)).same R3⟩ (by decide) (by decide)

set_option maxRecDepth 65536 in
set_option maxHeartbeats 4000000 in
theorem c_ptos {l : Launch} {Z : State} {a0 : Array Value} {kn : Bool} (g : Gl Z a0) {ws : List Cond} {h0 : Heap} {ss : List Addr} (hO : Old Z Z.heap.size h0) {x u ub v vb : Addr} {fp fm : Bool} {ps ms : List Int32} (FP : Fld Z h0 x "com/example/goldenrod/goldenrod/InvalidRulesException$Problem" "pointer" "Ljava/lang/String;" (.ref u)) (FM : Fld Z h0 x "com/example/goldenrod/goldenrod/InvalidRulesException$Problem" "message" "Ljava/lang/String;" (.ref v)) (LP : StB Z h0 u ub fp ps) (hp : ps.length ≤ 2) (LM : StB Z h0 v vb fm ms) (hm : ms.length ≤ 2) :
    Con l Z consts_1 kn ws (⟨"com/example/goldenrod/goldenrod/InvalidRulesException$Problem", "toString", "()Ljava/lang/String;"⟩ : MethodName) prog_4_method_2_code 1 (some (.object "java/lang/String")) ({ frames := 10, cells := 9, slots := 164, locals := 143 } : Room) #[(.ref x)] h0 ss (rV fun v h => Ext h0 h ∧ ∃ d vd f, v = .ref d ∧ StB Z h d vd f (ps ++ [(58 : Int32), 32] ++ ms)) := by
  have hw := g.1
  have hEL := g.2.1
  refine Con.of (plainFor_of_name pn_10) hO ?_
  intro p e s m below meth c T0 me W0
  refine Fi.entry (L := #[.val (.ref x)]) (by first | (simp [entryFrame, mkF, argsToLocals, Value.category, maxLocals]; done) | (simp [entryFrame, mkF, argsToLocals, Value.category]; done) | rfl) ?_
  refine W0.newO me (hw _ (List.mem_of_getElem? (i := 59) rfl)) (hw _ (List.mem_of_getElem? (i := 60) rfl)) (hw _ (List.mem_of_getElem? (i := 61) rfl)) d_prog_4_method_2_0 (own_le rfl) (own_le rfl) ?_
  intro T1 h1 a1 g1 W1 E1 A1 D1 U1
  show Fi p e below s Z _ _ _ _ T1 (mkF m 3 #[.val (.ref x)] [(.ref a1)])
  refine W1.dup me d_prog_4_method_2_3 rfl ?_
  show Fi p e below s Z _ _ _ _ T1 (mkF m 4 #[.val (.ref x)] [(.ref a1), (.ref a1)])
  have hza : Z.heap.size ≤ a1 := by have := hO.2.1; omega
  refine W1.callI me hEL (hw _ (List.mem_of_getElem? (i := 62) rfl)) (hw _ (List.mem_of_getElem? (i := 63) rfl)) (hw _ (List.mem_of_getElem? (i := 61) rfl)) (hw _ (List.mem_of_getElem? (i := 64) rfl)) rfl (a := a1) (argsL := []) (rest := [(.ref a1)]) (c_sbinitB (ss := []) g W1.old A1 (D1 (Or.inl (hw _ (List.mem_of_getElem? (i := 74) rfl))) (ty := .array .byte) (by decide)) (D1 (Or.inl (hw _ (List.mem_of_getElem? (i := 76) rfl))) (ty := .byte) (by decide)) (D1 (Or.inl (hw _ (List.mem_of_getElem? (i := 98) rfl))) (ty := .int) (by decide)) (D1 (Or.inl (hw _ (List.mem_of_getElem? (i := 239) rfl))) (ty := .boolean) (by decide)) hza) d_prog_4_method_2_4 (by decide) (fun _ q => nomatch q) rfl (lenOf pd_19 rfl) (own_le rfl) (own_le rfl) (own_le rfl) (own_le rfl) rfl ?_
  intro T2 h2 v2 W2 z2 q2
  obtain ⟨sf2, X2, rfl, K2, d2, y2, s2, M2⟩ := q2
  show Fi p e below s Z _ _ _ _ T2 (mkF m 7 #[.val (.ref x)] [(.ref a1)])
  replace W2 := X2 [d2] (allS s2 all0)
  have hsz2 := E1.1
  have ga : h0.size ≤ a1 := by omega
  have gd2 : h0.size ≤ d2 := by omega
  have hzb2 : Z.heap.size ≤ d2 := by have := hO.2.1; omega
  have EE2 := own_xk E1 K2 (allS ga all0)
  refine W2.aloadN me d_prog_4_method_2_7 rfl rfl ?_
  show Fi p e below s Z _ _ _ _ T2 (mkF m 8 #[.val (.ref x)] [(.ref x), (.ref a1)])
  refine W2.getF me (hw _ (List.mem_of_getElem? (i := 50) rfl)) (FP.ext EE2) Via.refl d_prog_4_method_2_8 ?_
  intro T3 W3
  show Fi p e below s Z _ _ _ _ T3 (mkF m 11 #[.val (.ref x)] [(.ref u), (.ref a1)])
  refine W3.callV me hEL (hw _ (List.mem_of_getElem? (i := 77) rfl)) (hw _ (List.mem_of_getElem? (i := 78) rfl)) (fun hZ' => notFace_of_selects (args := #[]) (mvT (s := s.setVm _) hZ' (hw _ (List.mem_of_getElem? (i := 80) rfl)))) (hw _ (List.mem_of_getElem? (i := 80) rfl)) (hw _ (List.mem_of_getElem? (i := 79) rfl)) (hw _ (List.mem_of_getElem? (i := 61) rfl)) (hw _ (List.mem_of_getElem? (i := 81) rfl)) (a := a1) (argsL := [(.ref u)]) (rest := []) M2.exa (c_appE g W3.old M2 (LP.ext EE2) (by simp only [List.length_append, List.length_nil, List.length_cons, List.nil_append]; omega) (own_ne (by have := own_lt LP.lt; have := gd2; omega)) (List.mem_cons_self ..) hza hzb2) d_prog_4_method_2_11 (by decide) (fun _ q => q) rfl (lenOf pd_31 rfl) (own_le rfl) (own_le rfl) (own_le rfl) (own_le rfl) rfl ?_
  intro T4 h4 v4 W4 z4 q4
  obtain ⟨sf4, X4, _, rfl, K4, rfl, d4, y4, s4, M4⟩ := q4
  show Fi p e below s Z _ _ _ _ T4 (mkF m 14 #[.val (.ref x)] [(.ref a1)])
  replace W4 := X4 [d4] (allS s4 all0)
  have hsz4 := EE2.1
  have EE4 := own_xk EE2 K4 (allS ga (allS gd2 all0))
  have gd4 : h0.size ≤ d4 := y4.elim (fun z => z ▸ gd2) (fun z => Nat.le_trans hsz4 z)
  have hzb4 : Z.heap.size ≤ d4 := by have := hO.2.1; omega
  show Fi p e below s Z _ _ _ _ T4 (mkF m 14 #[.val (.ref x)] [(.ref a1)])
  refine W4.ldcS me hEL (List.mem_of_getElem? (i := 0) rfl) (hw _ (List.mem_of_getElem? (i := 124) rfl)) (stratoms g) (vs := [.int (58 : Int32), .int (32 : Int32)]) (z := 2) ⟨by decide, by decide⟩ (by decide) (by decide) d_prog_4_method_2_14 (n := 8) (by decide) (by decide) (by decide) (by decide) ?_
  intro T5 h5 a5 b5 k5 W5 E5 A5 C5 V5 B5 N5
  show Fi p e below s Z _ _ _ _ T5 (mkF m 16 #[.val (.ref x)] [(.ref a5), (.ref a1)])
  have LL5 : LatB Z h5 a5 b5 [(58 : Int32), 32] := ⟨k5, A5, C5, V5, B5, own_le rfl, (by decide : ∀ c ∈ ([(58 : Int32), 32] : List Int32), ¬ c < 0 ∧ ¬ (255 : Int32) < c)⟩
  have MM5 := M4.ext E5
  have EE5 := own_xt EE4 E5
  refine W5.callV me hEL (hw _ (List.mem_of_getElem? (i := 77) rfl)) (hw _ (List.mem_of_getElem? (i := 78) rfl)) (fun hZ' => notFace_of_selects (args := #[]) (mvT (s := s.setVm _) hZ' (hw _ (List.mem_of_getElem? (i := 80) rfl)))) (hw _ (List.mem_of_getElem? (i := 80) rfl)) (hw _ (List.mem_of_getElem? (i := 79) rfl)) (hw _ (List.mem_of_getElem? (i := 61) rfl)) (hw _ (List.mem_of_getElem? (i := 81) rfl)) (a := a1) (argsL := [(.ref a5)]) (rest := []) MM5.exa (c_appE g W5.old MM5 (StB.of LL5 (own_le rfl)) (by simp only [List.length_append, List.length_nil, List.length_cons, List.nil_append]; omega) (N5 d4 (List.mem_cons_self ..)).2.symm (List.mem_cons_self ..) hza hzb4) d_prog_4_method_2_16 (by decide) (fun _ q => q) rfl (lenOf pd_31 rfl) (own_le rfl) (own_le rfl) (own_le rfl) (own_le rfl) rfl ?_
  intro T6 h6 v6 W6 z6 q6
  obtain ⟨sf6, X6, _, rfl, K6, rfl, d6, y6, s6, M6⟩ := q6
  show Fi p e below s Z _ _ _ _ T6 (mkF m 19 #[.val (.ref x)] [(.ref a1)])
  replace W6 := X6 [d6] (allS s6 all0)
  have hsz6 := EE5.1
  have EE6 := own_xk EE5 K6 (allS ga (allS gd4 all0))
  have gd6 : h0.size ≤ d6 := y6.elim (fun z => z ▸ gd4) (fun z => Nat.le_trans hsz6 z)
  have hzb6 : Z.heap.size ≤ d6 := by have := hO.2.1; omega
  refine W6.aloadN me d_prog_4_method_2_19 rfl rfl ?_
  show Fi p e below s Z _ _ _ _ T6 (mkF m 20 #[.val (.ref x)] [(.ref x), (.ref a1)])
  refine W6.getF me (hw _ (List.mem_of_getElem? (i := 52) rfl)) (FM.ext EE6) Via.refl d_prog_4_method_2_20 ?_
  intro T7 W7
  show Fi p e below s Z _ _ _ _ T7 (mkF m 23 #[.val (.ref x)] [(.ref v), (.ref a1)])
  refine W7.callV me hEL (hw _ (List.mem_of_getElem? (i := 77) rfl)) (hw _ (List.mem_of_getElem? (i := 78) rfl)) (fun hZ' => notFace_of_selects (args := #[]) (mvT (s := s.setVm _) hZ' (hw _ (List.mem_of_getElem? (i := 80) rfl)))) (hw _ (List.mem_of_getElem? (i := 80) rfl)) (hw _ (List.mem_of_getElem? (i := 79) rfl)) (hw _ (List.mem_of_getElem? (i := 61) rfl)) (hw _ (List.mem_of_getElem? (i := 81) rfl)) (a := a1) (argsL := [(.ref v)]) (rest := []) M6.exa (c_appE g W7.old M6 (LM.ext EE6) (by simp only [List.length_append, List.length_nil, List.length_cons, List.nil_append]; omega) (own_ne (by have := own_lt LM.lt; have := gd6; omega)) (List.mem_cons_self ..) hza hzb6) d_prog_4_method_2_23 (by decide) (fun _ q => q) rfl (lenOf pd_31 rfl) (own_le rfl) (own_le rfl) (own_le rfl) (own_le rfl) rfl ?_
  intro T8 h8 v8 W8 z8 q8
  obtain ⟨sf8, X8, _, rfl, K8, rfl, d8, y8, s8, M8⟩ := q8
  show Fi p e below s Z _ _ _ _ T8 (mkF m 26 #[.val (.ref x)] [(.ref a1)])
  replace W8 := X8 [d8] (allS s8 all0)
  have hsz8 := EE6.1
  have EE8 := own_xk EE6 K8 (allS ga (allS gd6 all0))
  have gd8 : h0.size ≤ d8 := y8.elim (fun z => z ▸ gd6) (fun z => Nat.le_trans hsz8 z)
  have hzb8 : Z.heap.size ≤ d8 := by have := hO.2.1; omega
  show Fi p e below s Z _ _ _ _ T8 (mkF m 26 #[.val (.ref x)] [(.ref a1)])
  refine W8.callV me hEL (hw _ (List.mem_of_getElem? (i := 125) rfl)) (hw _ (List.mem_of_getElem? (i := 126) rfl)) (fun hZ' => notFace_of_selects (args := #[]) (mvT (s := s.setVm _) hZ' (hw _ (List.mem_of_getElem? (i := 128) rfl)))) (hw _ (List.mem_of_getElem? (i := 128) rfl)) (hw _ (List.mem_of_getElem? (i := 127) rfl)) (hw _ (List.mem_of_getElem? (i := 61) rfl)) (hw _ (List.mem_of_getElem? (i := 129) rfl)) (a := a1) (argsL := []) (rest := []) M8.exa (c_tostrB (ss := []) g W8.old M8 (by simp only [List.length_append, List.length_nil, List.length_cons, List.nil_append]; omega)) d_prog_4_method_2_26 (by decide) (fun _ q => nomatch q) rfl (lenOf pd_32 rfl) (own_le rfl) (own_le rfl) (own_le rfl) (own_le rfl) rfl ?_
  intro T9 h9 v9 W9 z9 q9
  obtain ⟨sf9, X9, _, rfl, E9, d9, b9, rfl, L9⟩ := q9
  show Fi p e below s Z _ _ _ _ T9 (mkF m 29 #[.val (.ref x)] [(.ref d9)])
  exact W9.retA hEL me d_prog_4_method_2_29 ⟨own_xt EE8 E9, d9, b9, _, rfl, L9⟩ (by decide) (by decide) rfl rfl rfl

theorem own_mod255 (x : Int32) : ∃ k : Nat, k ≤ 2 ∧ (x &&& (255 : Int32)) % (3 : Int32) = Int32.ofNat k := by
  have q := c_mask x 255 8 (by omega) (by decide)
  have r := c_irem (x &&& 255) 3 3 rfl
  have := r.1 (by omega)
  refine ⟨((x &&& (255 : Int32)) % (3 : Int32)).toInt.toNat, by omega, own_on (by omega) (by omega)⟩
set_option maxRecDepth 65536 in
set_option maxHeartbeats 4000000 in
theorem c_law {l : Launch} {Z : State} {a0 : Array Value} {kn : Bool} (g : Gl Z a0) {ws : List Cond} {h0 : Heap} {ss : List Addr} (hO : Old Z Z.heap.size h0) (p0 p1 p2 : Int32) :
    Con l Z consts_1 kn ws x code maxLocals ret room_1 #[(.int p0), (.int p1), (.int p2)] h0 ss (rV fun v h => v = .int 1) := by
  have hw := g.1
  have hEL := g.2.1
  refine Con.of (plainFor_of_name pn_8) hO ?_
  intro p e s m below meth c T0 me W0
  refine Fi.entry (L := #[.val (.int p0), .val (.int p1), .val (.int p2), .unset, .unset, .unset, .unset, .unset]) (by first | (simp [entryFrame, mkF, argsToLocals, Value.category, maxLocals]; done) | (simp [entryFrame, mkF, argsToLocals, Value.category]; done) | rfl) ?_
  refine W0.iloadN me at_0 rfl ?_
  refine W0.sipush me at_1 (v := 255) rfl ?_
  refine W0.iand me at_4 ?_
  refine W0.iconst me at_5 (v := 3) rfl ?_
  refine W0.irem me at_6 (by decide) ?_
  show Fi p e below s Z _ _ _ _ T0 (mkF m 7 #[.val (.int p0), .val (.int p1), .val (.int p2), .unset, .unset, .unset, .unset, .unset] [(.int ((p2 &&& (255 : Int32)) % (3 : Int32)))])
  obtain ⟨np, hnp, enp⟩ := own_mod255 p2
  rw [enp]
  show Fi p e below s Z _ _ _ _ T0 (mkF m 7 #[.val (.int p0), .val (.int p1), .val (.int p2), .unset, .unset, .unset, .unset, .unset] [(.int (Int32.ofNat np))])
  refine W0.istoreN me at_7 (l' := #[.val (.int p0), .val (.int p1), .val (.int p2), .val (.int (Int32.ofNat np)), .unset, .unset, .unset, .unset]) rfl ?_
  refine W0.iloadN me at_8 rfl ?_
  refine W0.bipush me at_9 (v := 8) rfl ?_
  refine W0.iushr me at_11 ?_
  refine W0.sipush me at_12 (v := 255) rfl ?_
  refine W0.iand me at_15 ?_
  refine W0.iconst me at_16 (v := 3) rfl ?_
  refine W0.irem me at_17 (by decide) ?_
  show Fi p e below s Z _ _ _ _ T0 (mkF m 18 #[.val (.int p0), .val (.int p1), .val (.int p2), .val (.int (Int32.ofNat np)), .unset, .unset, .unset, .unset] [(.int (((XT.ushr p2 (8 : Int32)) &&& (255 : Int32)) % (3 : Int32)))])
  obtain ⟨nm, hnm, enm⟩ := own_mod255 (XT.ushr p2 (8 : Int32))
  rw [enm]
  show Fi p e below s Z _ _ _ _ T0 (mkF m 18 #[.val (.int p0), .val (.int p1), .val (.int p2), .val (.int (Int32.ofNat np)), .unset, .unset, .unset, .unset] [(.int (Int32.ofNat nm))])
  refine W0.istore me at_18 (l' := #[.val (.int p0), .val (.int p1), .val (.int p2), .val (.int (Int32.ofNat np)), .val (.int (Int32.ofNat nm)), .unset, .unset, .unset]) rfl ?_
  refine W0.iloadN me at_20 rfl ?_
  refine W0.iloadN me at_21 rfl ?_
  show Fi p e below s Z _ _ _ _ T0 (mkF m 22 #[.val (.int p0), .val (.int p1), .val (.int p2), .val (.int (Int32.ofNat np)), .val (.int (Int32.ofNat nm)), .unset, .unset, .unset] [(.int p0), (.int (Int32.ofNat np))])
  refine W0.callS me hEL (hw _ (List.mem_of_getElem? (i := 0) rfl)) (hw _ (List.mem_of_getElem? (i := 1) rfl)) (hw _ (List.mem_of_getElem? (i := 2) rfl)) (hw _ (List.mem_of_getElem? (i := 3) rfl)) (argsL := [(.int (Int32.ofNat np)), (.int p0)]) (rest := []) (c_mk (ss := []) g W0.old hnp) at_22 (by decide) (fun _ q => nomatch q) rfl (lenOf pd_33 rfl) (own_le rfl) (own_le rfl) (own_le rfl) (own_le rfl) rfl ?_
  intro T1 h1 v1 W1 z1 q1
  obtain ⟨sf1, X1, _, rfl, E1, a1, b1, f1, rfl, L1⟩ := q1
  show Fi p e below s Z _ _ _ _ T1 (mkF m 25 #[.val (.int p0), .val (.int p1), .val (.int p2), .val (.int (Int32.ofNat np)), .val (.int (Int32.ofNat nm)), .unset, .unset, .unset] [(.ref a1)])
  refine W1.astore me at_25 (l' := #[.val (.int p0), .val (.int p1), .val (.int p2), .val (.int (Int32.ofNat np)), .val (.int (Int32.ofNat nm)), .val (.ref a1), .unset, .unset]) rfl rfl ?_
  refine W1.iload me at_27 rfl ?_
  refine W1.iloadN me at_29 rfl ?_
  show Fi p e below s Z _ _ _ _ T1 (mkF m 30 #[.val (.int p0), .val (.int p1), .val (.int p2), .val (.int (Int32.ofNat np)), .val (.int (Int32.ofNat nm)), .val (.ref a1), .unset, .unset] [(.int p1), (.int (Int32.ofNat nm))])
  refine W1.callS me hEL (hw _ (List.mem_of_getElem? (i := 0) rfl)) (hw _ (List.mem_of_getElem? (i := 1) rfl)) (hw _ (List.mem_of_getElem? (i := 2) rfl)) (hw _ (List.mem_of_getElem? (i := 3) rfl)) (argsL := [(.int (Int32.ofNat nm)), (.int p1)]) (rest := []) (c_mk (ss := []) g W1.old hnm) at_30 (by decide) (fun _ q => nomatch q) rfl (lenOf pd_33 rfl) (own_le rfl) (own_le rfl) (own_le rfl) (own_le rfl) rfl ?_
  intro T2 h2 v2 W2 z2 q2
  obtain ⟨sf2, X2, _, rfl, E2, a2, b2, f2, rfl, L2⟩ := q2
  show Fi p e below s Z _ _ _ _ T2 (mkF m 33 #[.val (.int p0), .val (.int p1), .val (.int p2), .val (.int (Int32.ofNat np)), .val (.int (Int32.ofNat nm)), .val (.ref a1), .unset, .unset] [(.ref a2)])
  replace L1 := L1.ext E2
  refine W2.astore me at_33 (l' := #[.val (.int p0), .val (.int p1), .val (.int p2), .val (.int (Int32.ofNat np)), .val (.int (Int32.ofNat nm)), .val (.ref a1), .val (.ref a2), .unset]) rfl rfl ?_
  show Fi p e below s Z _ _ _ _ T2 (mkF m 35 #[.val (.int p0), .val (.int p1), .val (.int p2), .val (.int (Int32.ofNat np)), .val (.int (Int32.ofNat nm)), .val (.ref a1), .val (.ref a2), .unset] [])
  refine W2.newO me (hw _ (List.mem_of_getElem? (i := 38) rfl)) (hw _ (List.mem_of_getElem? (i := 39) rfl)) (hw _ (List.mem_of_getElem? (i := 40) rfl)) at_35 (own_le rfl) (own_le rfl) ?_
  intro T3 h3 a3 g3 W3 E3 A3 D3 U3
  show Fi p e below s Z _ _ _ _ T3 (mkF m 38 #[.val (.int p0), .val (.int p1), .val (.int p2), .val (.int (Int32.ofNat np)), .val (.int (Int32.ofNat nm)), .val (.ref a1), .val (.ref a2), .unset] [(.ref a3)])
  refine W3.dup me at_38 rfl ?_
  refine W3.aload me at_39 rfl rfl ?_
  refine W3.aload me at_41 rfl rfl ?_
  show Fi p e below s Z _ _ _ _ T3 (mkF m 43 #[.val (.int p0), .val (.int p1), .val (.int p2), .val (.int (Int32.ofNat np)), .val (.int (Int32.ofNat nm)), .val (.ref a1), .val (.ref a2), .unset] [(.ref a2), (.ref a1), (.ref a3), (.ref a3)])
  replace L1 := L1.ext E3
  replace L2 := L2.ext E3
  have hzx : Z.heap.size ≤ a3 := by have := W2.old.2.1; omega
  refine W3.callI me hEL (hw _ (List.mem_of_getElem? (i := 41) rfl)) (hw _ (List.mem_of_getElem? (i := 42) rfl)) (hw _ (List.mem_of_getElem? (i := 40) rfl)) (hw _ (List.mem_of_getElem? (i := 43) rfl)) rfl (a := a3) (argsL := [(.ref a1), (.ref a2)]) (rest := [(.ref a3)]) (c_pinit (ss := []) g W3.old A3 (D3 (Or.inr (hw _ (List.mem_of_getElem? (i := 51) rfl))) (ty := (.object "java/lang/String")) (by decide)) (D3 (Or.inr (hw _ (List.mem_of_getElem? (i := 53) rfl))) (ty := (.object "java/lang/String")) (by decide)) hzx) at_43 (by decide) (fun _ q => nomatch q) rfl (lenOf pd_34 rfl) (own_le rfl) (own_le rfl) (own_le rfl) (own_le rfl) rfl ?_
  intro T4 h4 v4 W4 z4 q4
  obtain ⟨sf4, X4, rfl, K4, EX4, FP4, FM4⟩ := q4
  show Fi p e below s Z _ _ _ _ T4 (mkF m 46 #[.val (.int p0), .val (.int p1), .val (.int p2), .val (.int (Int32.ofNat np)), .val (.int (Int32.ofNat nm)), .val (.ref a1), .val (.ref a2), .unset] [(.ref a3)])
  replace L1 := own_stk L1 K4 A3 (by decide) (hw _ (List.mem_of_getElem? (i := 39) rfl))
  replace L2 := own_stk L2 K4 A3 (by decide) (hw _ (List.mem_of_getElem? (i := 39) rfl))
  show Fi p e below s Z _ _ _ _ T4 (mkF m 46 #[.val (.int p0), .val (.int p1), .val (.int p2), .val (.int (Int32.ofNat np)), .val (.int (Int32.ofNat nm)), .val (.ref a1), .val (.ref a2), .unset] [(.ref a3)])
  obtain ⟨a0c, ha0c⟩ : ∃ z, z = (p0 &&& (65535 : Int32)).toUInt32.toUInt16.toUInt32.toInt32 := ⟨_, rfl⟩
  obtain ⟨a1c, ha1c⟩ : ∃ z, z = (XT.ushr p0 (16 : Int32) &&& (65535 : Int32)).toUInt32.toUInt16.toUInt32.toInt32 := ⟨_, rfl⟩
  obtain ⟨b0c, hb0c⟩ : ∃ z, z = (p1 &&& (65535 : Int32)).toUInt32.toUInt16.toUInt32.toInt32 := ⟨_, rfl⟩
  obtain ⟨b1c, hb1c⟩ : ∃ z, z = (XT.ushr p1 (16 : Int32) &&& (65535 : Int32)).toUInt32.toUInt16.toUInt32.toInt32 := ⟨_, rfl⟩
  rw [← ha0c, ← ha1c] at L1
  rw [← hb0c, ← hb1c] at L2
  have lps : (sub [a0c, a1c] 0 np).length = np := sub_len (by show 0 + np ≤ 2; omega)
  have lms : (sub [b0c, b1c] 0 nm).length = nm := sub_len (by show 0 + nm ≤ 2; omega)
  refine W4.callV me hEL (hw _ (List.mem_of_getElem? (i := 54) rfl)) (hw _ (List.mem_of_getElem? (i := 55) rfl)) (fun hZ' => notFace_of_selects (args := #[]) (mvT (s := s.setVm _) hZ' (hw _ (List.mem_of_getElem? (i := 57) rfl)))) (hw _ (List.mem_of_getElem? (i := 57) rfl)) (hw _ (List.mem_of_getElem? (i := 56) rfl)) (hw _ (List.mem_of_getElem? (i := 40) rfl)) (hw _ (List.mem_of_getElem? (i := 58) rfl)) (a := a3) (argsL := []) (rest := []) EX4 (c_ptos (ss := []) g W4.old FP4 FM4 L1 (by omega) L2 (by omega)) at_46 (by decide) (fun _ q => nomatch q) rfl (lenOf pd_32 rfl) (own_le rfl) (own_le rfl) (own_le rfl) (own_le rfl) rfl ?_
  intro T5 h5 v5 W5 z5 q5
  obtain ⟨sf5, X5, _, rfl, E5, d5, b5, f5, rfl, L5⟩ := q5
  show Fi p e below s Z _ _ _ _ T5 (mkF m 49 #[.val (.int p0), .val (.int p1), .val (.int p2), .val (.int (Int32.ofNat np)), .val (.int (Int32.ofNat nm)), .val (.ref a1), .val (.ref a2), .unset] [(.ref d5)])
  obtain ⟨rs, hrs⟩ : ∃ z : List Int32, z = ((sub [a0c, a1c] 0 np) ++ [(58 : Int32), 32] ++ (sub [b0c, b1c] 0 nm)) := ⟨_, rfl⟩
  rw [← hrs] at L5
  have lrs : rs.length = np + 2 + nm := by rw [hrs]; simp only [List.length_append, List.length_cons, List.length_nil, lps, lms]
  have f0 : ∀ i, i < np → rs.getD i 0 = (sub [a0c, a1c] 0 np).getD i 0 := fun i hi => by rw [hrs, own_gl (by simp only [List.length_append, List.length_cons, List.length_nil, lps, lms]; omega), own_gl (by omega)]
  have f1 : ∀ i, i < 2 → rs.getD (np + i) 0 = ([(58 : Int32), 32] : List Int32).getD i 0 := fun i hi => by rw [hrs, own_gl (by simp only [List.length_append, List.length_cons, List.length_nil, lps, lms]; omega), own_gr lps]
  have f4 : ∀ i, i < nm → rs.getD (np + 2 + i) 0 = (sub [b0c, b1c] 0 nm).getD i 0 := fun i hi => by rw [hrs, own_gr (n := np + 2) (by simp only [List.length_append, List.length_cons, List.length_nil, lps, lms])]
  refine W5.astore me at_49 (l' := #[.val (.int p0), .val (.int p1), .val (.int p2), .val (.int (Int32.ofNat np)), .val (.int (Int32.ofNat nm)), .val (.ref a1), .val (.ref a2), .val (.ref d5)]) rfl rfl ?_
  refine W5.aload me at_51 rfl rfl ?_
  show Fi p e below s Z _ _ _ _ T5 (mkF m 53 #[.val (.int p0), .val (.int p1), .val (.int p2), .val (.int (Int32.ofNat np)), .val (.int (Int32.ofNat nm)), .val (.ref a1), .val (.ref a2), .val (.ref d5)] [(.ref d5)])
  refine W5.nullN me at_53 ?_
  show Fi p e below s Z _ _ _ _ T5 (mkF m 56 #[.val (.int p0), .val (.int p1), .val (.int p2), .val (.int (Int32.ofNat np)), .val (.int (Int32.ofNat nm)), .val (.ref a1), .val (.ref a2), .val (.ref d5)] [])
  refine W5.aload me at_56 rfl rfl ?_
  show Fi p e below s Z _ _ _ _ T5 (mkF m 58 #[.val (.int p0), .val (.int p1), .val (.int p2), .val (.int (Int32.ofNat np)), .val (.int (Int32.ofNat nm)), .val (.ref a1), .val (.ref a2), .val (.ref d5)] [(.ref d5)])
  refine W5.callV me hEL (hw _ (List.mem_of_getElem? (i := 170) rfl)) (hw _ (List.mem_of_getElem? (i := 88) rfl)) (fun hZ' => notFace_of_selects (args := #[]) (mvT (s := s.setVm _) hZ' (hw _ (List.mem_of_getElem? (i := 90) rfl)))) (hw _ (List.mem_of_getElem? (i := 90) rfl)) (hw _ (List.mem_of_getElem? (i := 89) rfl)) (hw _ (List.mem_of_getElem? (i := 8) rfl)) (hw _ (List.mem_of_getElem? (i := 91) rfl)) (a := d5) (argsL := []) (rest := []) L5.exa (c_lenE (ss := []) g W5.old L5) at_58 (by decide) (fun _ q => nomatch q) rfl (lenOf pd_22 rfl) (own_le rfl) (own_le rfl) (own_le rfl) (own_le rfl) rfl ?_
  intro T6 h6 v6 W6 z6 q6
  obtain ⟨sf6, X6, _, rfl, rfl, rfl⟩ := q6
  show Fi p e below s Z _ _ _ _ T6 (mkF m 61 #[.val (.int p0), .val (.int p1), .val (.int p2), .val (.int (Int32.ofNat np)), .val (.int (Int32.ofNat nm)), .val (.ref a1), .val (.ref a2), .val (.ref d5)] [(.int (Int32.ofNat rs.length))])
  refine W6.iloadN me at_61 rfl ?_
  refine W6.iconst me at_62 (v := 2) rfl ?_
  refine W6.iadd me at_63 ?_
  rw [show Int32.ofNat (np) + (2 : Int32) = Int32.ofNat (np + 2) from on_add _ _]
  show Fi p e below s Z _ _ _ _ T6 (mkF m 64 #[.val (.int p0), .val (.int p1), .val (.int p2), .val (.int (Int32.ofNat np)), .val (.int (Int32.ofNat nm)), .val (.ref a1), .val (.ref a2), .val (.ref d5)] [(.int (Int32.ofNat (np + 2))), (.int (Int32.ofNat rs.length))])
  refine W6.iload me at_64 rfl ?_
  refine W6.iadd me at_66 ?_
  rw [show Int32.ofNat (np + 2) + Int32.ofNat nm = Int32.ofNat (np + 2 + nm) from on_add _ _]
  show Fi p e below s Z _ _ _ _ T6 (mkF m 67 #[.val (.int p0), .val (.int p1), .val (.int p2), .val (.int (Int32.ofNat np)), .val (.int (Int32.ofNat nm)), .val (.ref a1), .val (.ref a2), .val (.ref d5)] [(.int (Int32.ofNat (np + 2 + nm))), (.int (Int32.ofNat rs.length))])
  refine W6.icY_eq me at_67 (by rw [lrs]) (pc' := 72) (by decide) (by decide) ?_
  show Fi p e below s Z _ _ _ _ T6 (mkF m 72 #[.val (.int p0), .val (.int p1), .val (.int p2), .val (.int (Int32.ofNat np)), .val (.int (Int32.ofNat nm)), .val (.ref a1), .val (.ref a2), .val (.ref d5)] [])
  refine W6.iloadN me at_72 rfl ?_
  refine W6.iconst me at_73 (v := 1) rfl ?_
  show Fi p e below s Z _ _ _ _ T6 (mkF m 74 #[.val (.int p0), .val (.int p1), .val (.int p2), .val (.int (Int32.ofNat np)), .val (.int (Int32.ofNat nm)), .val (.ref a1), .val (.ref a2), .val (.ref d5)] [(.int (1 : Int32)), (.int (Int32.ofNat np))])
  show Fi p e below s Z _ _ _ _ T6 (mkF m 74 #[.val (.int p0), .val (.int p1), .val (.int p2), .val (.int (Int32.ofNat np)), .val (.int (Int32.ofNat nm)), .val (.ref a1), .val (.ref a2), .val (.ref d5)] [(.int (1 : Int32)), (.int (Int32.ofNat np))])
  have J7 : ∀ (T1 : State), Wk p l e room_1 s m #[(.int p0), (.int p1), (.int p2)] below meth c Z consts_1 kn "com/example/goldenrod/goldenrod/ProblemToStringPinLaw" T1 h5 [] 22 258 → Fi p e below s Z consts_1 room_1.cells room_1.slots (rV fun v h => v = .int 1) T1 (mkF m 93 #[.val (.int p0), .val (.int p1), .val (.int p2), .val (.int (Int32.ofNat np)), .val (.int (Int32.ofNat nm)), .val (.ref a1), .val (.ref a2), .val (.ref d5)] []) := by
    intro TJ7 WJ7
    refine WJ7.iloadN me at_93 rfl ?_
    refine WJ7.iconst me at_94 (v := 2) rfl ?_
    show Fi p e below s Z _ _ _ _ TJ7 (mkF m 95 #[.val (.int p0), .val (.int p1), .val (.int p2), .val (.int (Int32.ofNat np)), .val (.int (Int32.ofNat nm)), .val (.ref a1), .val (.ref a2), .val (.ref d5)] [(.int (2 : Int32)), (.int (Int32.ofNat np))])
    have J8 : ∀ (T1 : State), Wk p l e room_1 s m #[(.int p0), (.int p1), (.int p2)] below meth c Z consts_1 kn "com/example/goldenrod/goldenrod/ProblemToStringPinLaw" T1 h5 [] 22 258 → Fi p e below s Z consts_1 room_1.cells room_1.slots (rV fun v h => v = .int 1) T1 (mkF m 117 #[.val (.int p0), .val (.int p1), .val (.int p2), .val (.int (Int32.ofNat np)), .val (.int (Int32.ofNat nm)), .val (.ref a1), .val (.ref a2), .val (.ref d5)] []) := by
      intro TJ8 WJ8
      refine WJ8.aload me at_117 rfl rfl ?_
      refine WJ8.iloadN me at_119 rfl ?_
      show Fi p e below s Z _ _ _ _ TJ8 (mkF m 120 #[.val (.int p0), .val (.int p1), .val (.int p2), .val (.int (Int32.ofNat np)), .val (.int (Int32.ofNat nm)), .val (.ref a1), .val (.ref a2), .val (.ref d5)] [(.int (Int32.ofNat np)), (.ref d5)])
      refine WJ8.callV me hEL (hw _ (List.mem_of_getElem? (i := 171) rfl)) (hw _ (List.mem_of_getElem? (i := 172) rfl)) (fun hZ' => notFace_of_selects (args := #[]) (mvT (s := s.setVm _) hZ' (hw _ (List.mem_of_getElem? (i := 174) rfl)))) (hw _ (List.mem_of_getElem? (i := 174) rfl)) (hw _ (List.mem_of_getElem? (i := 173) rfl)) (hw _ (List.mem_of_getElem? (i := 8) rfl)) (hw _ (List.mem_of_getElem? (i := 175) rfl)) (a := d5) (argsL := [(.int (Int32.ofNat np))]) (rest := []) L5.exa (c_charE (ss := []) g WJ8.old (i := np) L5 (by omega)) at_120 (by decide) (fun _ q => nomatch q) rfl (lenOf pd_35 rfl) (own_le rfl) (own_le rfl) (own_le rfl) (own_le rfl) rfl ?_
      intro T9 h9 v9 W9 z9 q9
      obtain ⟨sf9, X9, _, rfl, rfl, rfl⟩ := q9
      show Fi p e below s Z _ _ _ _ T9 (mkF m 123 #[.val (.int p0), .val (.int p1), .val (.int p2), .val (.int (Int32.ofNat np)), .val (.int (Int32.ofNat nm)), .val (.ref a1), .val (.ref a2), .val (.ref d5)] [(.int (rs.getD np 0))])
      refine W9.bipush me at_123 (v := 58) rfl ?_
      show Fi p e below s Z _ _ _ _ T9 (mkF m 125 #[.val (.int p0), .val (.int p1), .val (.int p2), .val (.int (Int32.ofNat np)), .val (.int (Int32.ofNat nm)), .val (.ref a1), .val (.ref a2), .val (.ref d5)] [(.int (58 : Int32)), (.int (rs.getD np 0))])
      refine W9.icY_eq me at_125 (f1 0 (by omega)) (pc' := 130) (by decide) (by decide) ?_
      show Fi p e below s Z _ _ _ _ T9 (mkF m 130 #[.val (.int p0), .val (.int p1), .val (.int p2), .val (.int (Int32.ofNat np)), .val (.int (Int32.ofNat nm)), .val (.ref a1), .val (.ref a2), .val (.ref d5)] [])
      refine W9.aload me at_130 rfl rfl ?_
      refine W9.iloadN me at_132 rfl ?_
      refine W9.iconst me at_133 (v := 1) rfl ?_
      show Fi p e below s Z _ _ _ _ T9 (mkF m 134 #[.val (.int p0), .val (.int p1), .val (.int p2), .val (.int (Int32.ofNat np)), .val (.int (Int32.ofNat nm)), .val (.ref a1), .val (.ref a2), .val (.ref d5)] [(.int (1 : Int32)), (.int (Int32.ofNat np)), (.ref d5)])
      refine W9.iadd me at_134 ?_
      rw [show Int32.ofNat np + (1 : Int32) = Int32.ofNat (np + 1) from on_add _ _]
      show Fi p e below s Z _ _ _ _ T9 (mkF m 135 #[.val (.int p0), .val (.int p1), .val (.int p2), .val (.int (Int32.ofNat np)), .val (.int (Int32.ofNat nm)), .val (.ref a1), .val (.ref a2), .val (.ref d5)] [(.int (Int32.ofNat (np + 1))), (.ref d5)])
      refine W9.callV me hEL (hw _ (List.mem_of_getElem? (i := 171) rfl)) (hw _ (List.mem_of_getElem? (i := 172) rfl)) (fun hZ' => notFace_of_selects (args := #[]) (mvT (s := s.setVm _) hZ' (hw _ (List.mem_of_getElem? (i := 174) rfl)))) (hw _ (List.mem_of_getElem? (i := 174) rfl)) (hw _ (List.mem_of_getElem? (i := 173) rfl)) (hw _ (List.mem_of_getElem? (i := 8) rfl)) (hw _ (List.mem_of_getElem? (i := 175) rfl)) (a := d5) (argsL := [(.int (Int32.ofNat (np + 1)))]) (rest := []) L5.exa (c_charE (ss := []) g W9.old (i := (np + 1)) L5 (by omega)) at_135 (by decide) (fun _ q => nomatch q) rfl (lenOf pd_35 rfl) (own_le rfl) (own_le rfl) (own_le rfl) (own_le rfl) rfl ?_
      intro T10 h10 v10 W10 z10 q10
      obtain ⟨sf10, X10, _, rfl, rfl, rfl⟩ := q10
      show Fi p e below s Z _ _ _ _ T10 (mkF m 138 #[.val (.int p0), .val (.int p1), .val (.int p2), .val (.int (Int32.ofNat np)), .val (.int (Int32.ofNat nm)), .val (.ref a1), .val (.ref a2), .val (.ref d5)] [(.int (rs.getD (np + 1) 0))])
      refine W10.bipush me at_138 (v := 32) rfl ?_
      show Fi p e below s Z _ _ _ _ T10 (mkF m 140 #[.val (.int p0), .val (.int p1), .val (.int p2), .val (.int (Int32.ofNat np)), .val (.int (Int32.ofNat nm)), .val (.ref a1), .val (.ref a2), .val (.ref d5)] [(.int (32 : Int32)), (.int (rs.getD (np + 1) 0))])
      refine W10.icY_eq me at_140 (f1 1 (by omega)) (pc' := 145) (by decide) (by decide) ?_
      show Fi p e below s Z _ _ _ _ T10 (mkF m 145 #[.val (.int p0), .val (.int p1), .val (.int p2), .val (.int (Int32.ofNat np)), .val (.int (Int32.ofNat nm)), .val (.ref a1), .val (.ref a2), .val (.ref d5)] [])
      refine W10.iload me at_145 rfl ?_
      refine W10.iconst me at_147 (v := 1) rfl ?_
      show Fi p e below s Z _ _ _ _ T10 (mkF m 148 #[.val (.int p0), .val (.int p1), .val (.int p2), .val (.int (Int32.ofNat np)), .val (.int (Int32.ofNat nm)), .val (.ref a1), .val (.ref a2), .val (.ref d5)] [(.int (1 : Int32)), (.int (Int32.ofNat nm))])
      have J11 : ∀ (T1 : State), Wk p l e room_1 s m #[(.int p0), (.int p1), (.int p2)] below meth c Z consts_1 kn "com/example/goldenrod/goldenrod/ProblemToStringPinLaw" T1 h5 [] 22 258 → Fi p e below s Z consts_1 room_1.cells room_1.slots (rV fun v h => v = .int 1) T1 (mkF m 169 #[.val (.int p0), .val (.int p1), .val (.int p2), .val (.int (Int32.ofNat np)), .val (.int (Int32.ofNat nm)), .val (.ref a1), .val (.ref a2), .val (.ref d5)] []) := by
        intro TJ11 WJ11
        refine WJ11.iload me at_169 rfl ?_
        refine WJ11.iconst me at_171 (v := 2) rfl ?_
        show Fi p e below s Z _ _ _ _ TJ11 (mkF m 172 #[.val (.int p0), .val (.int p1), .val (.int p2), .val (.int (Int32.ofNat np)), .val (.int (Int32.ofNat nm)), .val (.ref a1), .val (.ref a2), .val (.ref d5)] [(.int (2 : Int32)), (.int (Int32.ofNat nm))])
        have J12 : ∀ (T1 : State), Wk p l e room_1 s m #[(.int p0), (.int p1), (.int p2)] below meth c Z consts_1 kn "com/example/goldenrod/goldenrod/ProblemToStringPinLaw" T1 h5 [] 22 258 → Fi p e below s Z consts_1 room_1.cells room_1.slots (rV fun v h => v = .int 1) T1 (mkF m 196 #[.val (.int p0), .val (.int p1), .val (.int p2), .val (.int (Int32.ofNat np)), .val (.int (Int32.ofNat nm)), .val (.ref a1), .val (.ref a2), .val (.ref d5)] []) := by
          intro TJ12 WJ12
          refine WJ12.iconst me at_196 (v := 1) rfl ?_
          show Fi p e below s Z _ _ _ _ TJ12 (mkF m 197 #[.val (.int p0), .val (.int p1), .val (.int p2), .val (.int (Int32.ofNat np)), .val (.int (Int32.ofNat nm)), .val (.ref a1), .val (.ref a2), .val (.ref d5)] [(.int (1 : Int32))])
          exact WJ12.retN hEL me (Or.inl rfl) at_197 rfl (by decide) (by decide)
        refine WJ11.ic_lt me at_172 (pc' := 196) (by decide) (by decide) (fun hf => ?_) (fun hf => ?_)
        ·
          show Fi p e below s Z _ _ _ _ TJ11 (mkF m 196 #[.val (.int p0), .val (.int p1), .val (.int p2), .val (.int (Int32.ofNat np)), .val (.int (Int32.ofNat nm)), .val (.ref a1), .val (.ref a2), .val (.ref d5)] [])
          exact J12 _ ((WJ11.less (ss' := []) (fun _ q => nomatch q)).more (own_le rfl) (own_le rfl))
        ·
          show Fi p e below s Z _ _ _ _ TJ11 (mkF m 175 #[.val (.int p0), .val (.int p1), .val (.int p2), .val (.int (Int32.ofNat np)), .val (.int (Int32.ofNat nm)), .val (.ref a1), .val (.ref a2), .val (.ref d5)] [])
          have hge := own_ge2 (by omega) hf
          refine WJ11.aload me at_175 rfl rfl ?_
          refine WJ11.iloadN me at_177 rfl ?_
          refine WJ11.iconst me at_178 (v := 3) rfl ?_
          refine WJ11.iadd me at_179 ?_
          rw [show Int32.ofNat np + (3 : Int32) = Int32.ofNat (np + 3) from on_add _ _]
          show Fi p e below s Z _ _ _ _ TJ11 (mkF m 180 #[.val (.int p0), .val (.int p1), .val (.int p2), .val (.int (Int32.ofNat np)), .val (.int (Int32.ofNat nm)), .val (.ref a1), .val (.ref a2), .val (.ref d5)] [(.int (Int32.ofNat (np + 3))), (.ref d5)])
          refine WJ11.callV me hEL (hw _ (List.mem_of_getElem? (i := 171) rfl)) (hw _ (List.mem_of_getElem? (i := 172) rfl)) (fun hZ' => notFace_of_selects (args := #[]) (mvT (s := s.setVm _) hZ' (hw _ (List.mem_of_getElem? (i := 174) rfl)))) (hw _ (List.mem_of_getElem? (i := 174) rfl)) (hw _ (List.mem_of_getElem? (i := 173) rfl)) (hw _ (List.mem_of_getElem? (i := 8) rfl)) (hw _ (List.mem_of_getElem? (i := 175) rfl)) (a := d5) (argsL := [(.int (Int32.ofNat (np + 3)))]) (rest := []) L5.exa (c_charE (ss := []) g WJ11.old (i := (np + 3)) L5 (by omega)) at_180 (by decide) (fun _ q => nomatch q) rfl (lenOf pd_35 rfl) (own_le rfl) (own_le rfl) (own_le rfl) (own_le rfl) rfl ?_
          intro T13 h13 v13 W13 z13 q13
          obtain ⟨sf13, X13, _, rfl, rfl, rfl⟩ := q13
          show Fi p e below s Z _ _ _ _ T13 (mkF m 183 #[.val (.int p0), .val (.int p1), .val (.int p2), .val (.int (Int32.ofNat np)), .val (.int (Int32.ofNat nm)), .val (.ref a1), .val (.ref a2), .val (.ref d5)] [(.int (rs.getD (np + 3) 0))])
          refine W13.iloadN me at_183 rfl ?_
          refine W13.bipush me at_184 (v := 16) rfl ?_
          refine W13.iushr me at_186 ?_
          refine W13.ldcI me (hw _ (List.mem_of_getElem? (i := 4) rfl)) at_187 ?_
          refine W13.iand me at_189 ?_
          refine W13.i2c me at_190 ?_
          show Fi p e below s Z _ _ _ _ T13 (mkF m 191 #[.val (.int p0), .val (.int p1), .val (.int p2), .val (.int (Int32.ofNat np)), .val (.int (Int32.ofNat nm)), .val (.ref a1), .val (.ref a2), .val (.ref d5)] [(.int (((XT.ushr p1 (16 : Int32)) &&& (65535 : Int32)).toUInt32.toUInt16.toUInt32.toInt32)), (.int (rs.getD (np + 3) 0))])
          rw [← hb1c]
          show Fi p e below s Z _ _ _ _ T13 (mkF m 191 #[.val (.int p0), .val (.int p1), .val (.int p2), .val (.int (Int32.ofNat np)), .val (.int (Int32.ofNat nm)), .val (.ref a1), .val (.ref a2), .val (.ref d5)] [(.int b1c), (.int (rs.getD (np + 3) 0))])
          refine W13.icY_eq me at_191 ((f4 1 (by omega)).trans (own_sub1 hge)) (pc' := 196) (by decide) (by decide) ?_
          show Fi p e below s Z _ _ _ _ T13 (mkF m 196 #[.val (.int p0), .val (.int p1), .val (.int p2), .val (.int (Int32.ofNat np)), .val (.int (Int32.ofNat nm)), .val (.ref a1), .val (.ref a2), .val (.ref d5)] [])
          exact J12 _ ((W13.less (ss' := []) (fun _ q => nomatch q)).more (own_le rfl) (own_le rfl))
      refine W10.ic_lt me at_148 (pc' := 169) (by decide) (by decide) (fun hf => ?_) (fun hf => ?_)
      ·
        show Fi p e below s Z _ _ _ _ T10 (mkF m 169 #[.val (.int p0), .val (.int p1), .val (.int p2), .val (.int (Int32.ofNat np)), .val (.int (Int32.ofNat nm)), .val (.ref a1), .val (.ref a2), .val (.ref d5)] [])
        exact J11 _ ((W10.less (ss' := []) (fun _ q => nomatch q)).more (own_le rfl) (own_le rfl))
      ·
        show Fi p e below s Z _ _ _ _ T10 (mkF m 151 #[.val (.int p0), .val (.int p1), .val (.int p2), .val (.int (Int32.ofNat np)), .val (.int (Int32.ofNat nm)), .val (.ref a1), .val (.ref a2), .val (.ref d5)] [])
        have hge := own_ge1 (by omega) hf
        refine W10.aload me at_151 rfl rfl ?_
        refine W10.iloadN me at_153 rfl ?_
        refine W10.iconst me at_154 (v := 2) rfl ?_
        refine W10.iadd me at_155 ?_
        rw [show Int32.ofNat np + (2 : Int32) = Int32.ofNat (np + 2) from on_add _ _]
        show Fi p e below s Z _ _ _ _ T10 (mkF m 156 #[.val (.int p0), .val (.int p1), .val (.int p2), .val (.int (Int32.ofNat np)), .val (.int (Int32.ofNat nm)), .val (.ref a1), .val (.ref a2), .val (.ref d5)] [(.int (Int32.ofNat (np + 2))), (.ref d5)])
        refine W10.callV me hEL (hw _ (List.mem_of_getElem? (i := 171) rfl)) (hw _ (List.mem_of_getElem? (i := 172) rfl)) (fun hZ' => notFace_of_selects (args := #[]) (mvT (s := s.setVm _) hZ' (hw _ (List.mem_of_getElem? (i := 174) rfl)))) (hw _ (List.mem_of_getElem? (i := 174) rfl)) (hw _ (List.mem_of_getElem? (i := 173) rfl)) (hw _ (List.mem_of_getElem? (i := 8) rfl)) (hw _ (List.mem_of_getElem? (i := 175) rfl)) (a := d5) (argsL := [(.int (Int32.ofNat (np + 2)))]) (rest := []) L5.exa (c_charE (ss := []) g W10.old (i := (np + 2)) L5 (by omega)) at_156 (by decide) (fun _ q => nomatch q) rfl (lenOf pd_35 rfl) (own_le rfl) (own_le rfl) (own_le rfl) (own_le rfl) rfl ?_
        intro T14 h14 v14 W14 z14 q14
        obtain ⟨sf14, X14, _, rfl, rfl, rfl⟩ := q14
        show Fi p e below s Z _ _ _ _ T14 (mkF m 159 #[.val (.int p0), .val (.int p1), .val (.int p2), .val (.int (Int32.ofNat np)), .val (.int (Int32.ofNat nm)), .val (.ref a1), .val (.ref a2), .val (.ref d5)] [(.int (rs.getD (np + 2) 0))])
        refine W14.iloadN me at_159 rfl ?_
        refine W14.ldcI me (hw _ (List.mem_of_getElem? (i := 4) rfl)) at_160 ?_
        refine W14.iand me at_162 ?_
        refine W14.i2c me at_163 ?_
        show Fi p e below s Z _ _ _ _ T14 (mkF m 164 #[.val (.int p0), .val (.int p1), .val (.int p2), .val (.int (Int32.ofNat np)), .val (.int (Int32.ofNat nm)), .val (.ref a1), .val (.ref a2), .val (.ref d5)] [(.int ((p1 &&& (65535 : Int32)).toUInt32.toUInt16.toUInt32.toInt32)), (.int (rs.getD (np + 2) 0))])
        rw [← hb0c]
        show Fi p e below s Z _ _ _ _ T14 (mkF m 164 #[.val (.int p0), .val (.int p1), .val (.int p2), .val (.int (Int32.ofNat np)), .val (.int (Int32.ofNat nm)), .val (.ref a1), .val (.ref a2), .val (.ref d5)] [(.int b0c), (.int (rs.getD (np + 2) 0))])
        refine W14.icY_eq me at_164 ((f4 0 (by omega)).trans (own_sub0 hge)) (pc' := 169) (by decide) (by decide) ?_
        show Fi p e below s Z _ _ _ _ T14 (mkF m 169 #[.val (.int p0), .val (.int p1), .val (.int p2), .val (.int (Int32.ofNat np)), .val (.int (Int32.ofNat nm)), .val (.ref a1), .val (.ref a2), .val (.ref d5)] [])
        exact J11 _ ((W14.less (ss' := []) (fun _ q => nomatch q)).more (own_le rfl) (own_le rfl))
    refine WJ7.ic_lt me at_95 (pc' := 117) (by decide) (by decide) (fun hf => ?_) (fun hf => ?_)
    ·
      show Fi p e below s Z _ _ _ _ TJ7 (mkF m 117 #[.val (.int p0), .val (.int p1), .val (.int p2), .val (.int (Int32.ofNat np)), .val (.int (Int32.ofNat nm)), .val (.ref a1), .val (.ref a2), .val (.ref d5)] [])
      exact J8 _ ((WJ7.less (ss' := []) (fun _ q => nomatch q)).more (own_le rfl) (own_le rfl))
    ·
      show Fi p e below s Z _ _ _ _ TJ7 (mkF m 98 #[.val (.int p0), .val (.int p1), .val (.int p2), .val (.int (Int32.ofNat np)), .val (.int (Int32.ofNat nm)), .val (.ref a1), .val (.ref a2), .val (.ref d5)] [])
      have hge := own_ge2 (by omega) hf
      refine WJ7.aload me at_98 rfl rfl ?_
      refine WJ7.iconst me at_100 (v := 1) rfl ?_
      show Fi p e below s Z _ _ _ _ TJ7 (mkF m 101 #[.val (.int p0), .val (.int p1), .val (.int p2), .val (.int (Int32.ofNat np)), .val (.int (Int32.ofNat nm)), .val (.ref a1), .val (.ref a2), .val (.ref d5)] [(.int (1 : Int32)), (.ref d5)])
      refine WJ7.callV me hEL (hw _ (List.mem_of_getElem? (i := 171) rfl)) (hw _ (List.mem_of_getElem? (i := 172) rfl)) (fun hZ' => notFace_of_selects (args := #[]) (mvT (s := s.setVm _) hZ' (hw _ (List.mem_of_getElem? (i := 174) rfl)))) (hw _ (List.mem_of_getElem? (i := 174) rfl)) (hw _ (List.mem_of_getElem? (i := 173) rfl)) (hw _ (List.mem_of_getElem? (i := 8) rfl)) (hw _ (List.mem_of_getElem? (i := 175) rfl)) (a := d5) (argsL := [(.int (1 : Int32))]) (rest := []) L5.exa (c_charE (ss := []) g WJ7.old (i := 1) L5 (by omega)) at_101 (by decide) (fun _ q => nomatch q) rfl (lenOf pd_35 rfl) (own_le rfl) (own_le rfl) (own_le rfl) (own_le rfl) rfl ?_
      intro T15 h15 v15 W15 z15 q15
      obtain ⟨sf15, X15, _, rfl, rfl, rfl⟩ := q15
      show Fi p e below s Z _ _ _ _ T15 (mkF m 104 #[.val (.int p0), .val (.int p1), .val (.int p2), .val (.int (Int32.ofNat np)), .val (.int (Int32.ofNat nm)), .val (.ref a1), .val (.ref a2), .val (.ref d5)] [(.int (rs.getD 1 0))])
      refine W15.iloadN me at_104 rfl ?_
      refine W15.bipush me at_105 (v := 16) rfl ?_
      refine W15.iushr me at_107 ?_
      refine W15.ldcI me (hw _ (List.mem_of_getElem? (i := 4) rfl)) at_108 ?_
      refine W15.iand me at_110 ?_
      refine W15.i2c me at_111 ?_
      show Fi p e below s Z _ _ _ _ T15 (mkF m 112 #[.val (.int p0), .val (.int p1), .val (.int p2), .val (.int (Int32.ofNat np)), .val (.int (Int32.ofNat nm)), .val (.ref a1), .val (.ref a2), .val (.ref d5)] [(.int (((XT.ushr p0 (16 : Int32)) &&& (65535 : Int32)).toUInt32.toUInt16.toUInt32.toInt32)), (.int (rs.getD 1 0))])
      rw [← ha1c]
      show Fi p e below s Z _ _ _ _ T15 (mkF m 112 #[.val (.int p0), .val (.int p1), .val (.int p2), .val (.int (Int32.ofNat np)), .val (.int (Int32.ofNat nm)), .val (.ref a1), .val (.ref a2), .val (.ref d5)] [(.int a1c), (.int (rs.getD 1 0))])
      refine W15.icY_eq me at_112 ((f0 1 (by omega)).trans (own_sub1 hge)) (pc' := 117) (by decide) (by decide) ?_
      show Fi p e below s Z _ _ _ _ T15 (mkF m 117 #[.val (.int p0), .val (.int p1), .val (.int p2), .val (.int (Int32.ofNat np)), .val (.int (Int32.ofNat nm)), .val (.ref a1), .val (.ref a2), .val (.ref d5)] [])
      exact J8 _ ((W15.less (ss' := []) (fun _ q => nomatch q)).more (own_le rfl) (own_le rfl))
  refine W6.ic_lt me at_74 (pc' := 93) (by decide) (by decide) (fun hf => ?_) (fun hf => ?_)
  ·
    show Fi p e below s Z _ _ _ _ T6 (mkF m 93 #[.val (.int p0), .val (.int p1), .val (.int p2), .val (.int (Int32.ofNat np)), .val (.int (Int32.ofNat nm)), .val (.ref a1), .val (.ref a2), .val (.ref d5)] [])
    exact J7 _ ((W6.less (ss' := []) (fun _ q => nomatch q)).more (own_le rfl) (own_le rfl))
  ·
    show Fi p e below s Z _ _ _ _ T6 (mkF m 77 #[.val (.int p0), .val (.int p1), .val (.int p2), .val (.int (Int32.ofNat np)), .val (.int (Int32.ofNat nm)), .val (.ref a1), .val (.ref a2), .val (.ref d5)] [])
    have hge := own_ge1 (by omega) hf
    refine W6.aload me at_77 rfl rfl ?_
    refine W6.iconst me at_79 (v := 0) rfl ?_
    show Fi p e below s Z _ _ _ _ T6 (mkF m 80 #[.val (.int p0), .val (.int p1), .val (.int p2), .val (.int (Int32.ofNat np)), .val (.int (Int32.ofNat nm)), .val (.ref a1), .val (.ref a2), .val (.ref d5)] [(.int (0 : Int32)), (.ref d5)])
    refine W6.callV me hEL (hw _ (List.mem_of_getElem? (i := 171) rfl)) (hw _ (List.mem_of_getElem? (i := 172) rfl)) (fun hZ' => notFace_of_selects (args := #[]) (mvT (s := s.setVm _) hZ' (hw _ (List.mem_of_getElem? (i := 174) rfl)))) (hw _ (List.mem_of_getElem? (i := 174) rfl)) (hw _ (List.mem_of_getElem? (i := 173) rfl)) (hw _ (List.mem_of_getElem? (i := 8) rfl)) (hw _ (List.mem_of_getElem? (i := 175) rfl)) (a := d5) (argsL := [(.int (0 : Int32))]) (rest := []) L5.exa (c_charE (ss := []) g W6.old (i := 0) L5 (by omega)) at_80 (by decide) (fun _ q => nomatch q) rfl (lenOf pd_35 rfl) (own_le rfl) (own_le rfl) (own_le rfl) (own_le rfl) rfl ?_
    intro T16 h16 v16 W16 z16 q16
    obtain ⟨sf16, X16, _, rfl, rfl, rfl⟩ := q16
    show Fi p e below s Z _ _ _ _ T16 (mkF m 83 #[.val (.int p0), .val (.int p1), .val (.int p2), .val (.int (Int32.ofNat np)), .val (.int (Int32.ofNat nm)), .val (.ref a1), .val (.ref a2), .val (.ref d5)] [(.int (rs.getD 0 0))])
    refine W16.iloadN me at_83 rfl ?_
    refine W16.ldcI me (hw _ (List.mem_of_getElem? (i := 4) rfl)) at_84 ?_
    refine W16.iand me at_86 ?_
    refine W16.i2c me at_87 ?_
    show Fi p e below s Z _ _ _ _ T16 (mkF m 88 #[.val (.int p0), .val (.int p1), .val (.int p2), .val (.int (Int32.ofNat np)), .val (.int (Int32.ofNat nm)), .val (.ref a1), .val (.ref a2), .val (.ref d5)] [(.int ((p0 &&& (65535 : Int32)).toUInt32.toUInt16.toUInt32.toInt32)), (.int (rs.getD 0 0))])
    rw [← ha0c]
    show Fi p e below s Z _ _ _ _ T16 (mkF m 88 #[.val (.int p0), .val (.int p1), .val (.int p2), .val (.int (Int32.ofNat np)), .val (.int (Int32.ofNat nm)), .val (.ref a1), .val (.ref a2), .val (.ref d5)] [(.int a0c), (.int (rs.getD 0 0))])
    refine W16.icY_eq me at_88 ((f0 0 (by omega)).trans (own_sub0 hge)) (pc' := 93) (by decide) (by decide) ?_
    show Fi p e below s Z _ _ _ _ T16 (mkF m 93 #[.val (.int p0), .val (.int p1), .val (.int p2), .val (.int (Int32.ofNat np)), .val (.int (Int32.ofNat nm)), .val (.ref a1), .val (.ref a2), .val (.ref d5)] [])
    exact J7 _ ((W16.less (ss' := []) (fun _ q => nomatch q)).more (own_le rfl) (own_le rfl))
set_option maxRecDepth 65536 in
set_option maxHeartbeats 40000000 in
theorem comes_1 {Post : Tables → Env → Array Value → State → Outcome → State → Prop} (hpost : ∀ tb e args s v u, (limb_1_1.after args s (.returned v) u = true ∧ limb_1_2.after args s (.returned v) u = true ∧ True) → ReturnedEndW s (.returned v) u (Jvm.fieldLocs frame_1_writes args s ++ Jvm.arrayLocs frame_1_arrays args s ++ Jvm.staticLocs frame_1_statics s) 40 2368 → Post tb e args s (.returned v) u) :
    ArmFor flags0 classFile x code maxLocals ret World_1 tables_1 room_1 Calls_1 rest_1 Pre_1 Post := by
  intro l hfl _ _ p e ha hc hk s m args below hf hA hF happ hP
  obtain ⟨hcalls, hrest, hpre⟩ := hP
  obtain ⟨hc1, -⟩ := hcalls
  obtain ⟨-, -, -, hnamed, -, -, -, hat⟩ := (Spec.applies_iff hf).mp happ
  obtain ⟨hg, hn⟩ := and_e (Cond.before_iff.mp (show (Jvm.Cond.and given_1 narrow_1).before args s = true from hpre))
  obtain ⟨h1, r0⟩ := and_e hg
  obtain ⟨y0, r1⟩ := and_e r0
  obtain ⟨y1, r2⟩ := and_e r1
  obtain ⟨w0, w1, w2, rfl⟩ : ∃ w0 w1 w2 : Value, args = #[w0, w1, w2] := by
    have hs : args.size = 3 := by simpa [Cond.value, given_1] using h1
    obtain ⟨L⟩ := args
    match L, hs with
    | [w0, w1, w2], _ => exact ⟨w0, w1, w2, rfl⟩
  have hw := fun d (hd : d ∈ tables_1) => atoms_spec (ws := Jvm.Cond.code x code maxLocals ret :: tables_1) hat d (List.mem_cons_of_mem _ hd)
  obtain ⟨hsets, hown0⟩ := atoms_of _ (rest_1_c_eq ▸ (show rest_1_c.before _ s = true from hrest))
  obtain ⟨i0, e0⟩ := is_v y0
  obtain rfl : w0 = (.int i0) := Option.some.inj e0
  obtain ⟨i1, e1⟩ := is_v y1
  obtain rfl : w1 = (.int i1) := Option.some.inj e1
  obtain ⟨i2, e2⟩ := is_v r2
  obtain rfl : w2 = (.int i2) := Option.some.inj e2
  obtain ⟨G, eG⟩ := is_v (Cond.before_iff.mp (hsets _ (List.mem_of_getElem? (i := 1) rfl)))
  have nG := not_v (Cond.before_iff.mp (hsets _ (List.mem_of_getElem? (i := 2) rfl)))
  have SG : Sta s s.heap "java/lang/String" "COMPACT_STRINGS" "Z" (.int G) := Sta.start eG (Or.inl (hsets _ (List.mem_of_getElem? (i := 0) rfl)))
  have cG : ¬ (G = (0 : Int32)) := gotF (Cond.eq_ints eG (Term.int_eval (0))) nG
  obtain ⟨GF, eF, rF⟩ := isR_v (Cond.before_iff.mp (hsets _ (List.mem_of_getElem? (i := 8) rfl)))
  have SF := Sta.start eF (Or.inl (hsets _ (List.mem_of_getElem? (i := 7) rfl)))
  have hEL : EW s _ consts_1 := (EW.cons (hw _ (List.mem_of_getElem? (i := 124) rfl)) (by decide) (EW.cons (hw _ (List.mem_of_getElem? (i := 35) rfl)) (by decide) EW.nil))
  have hcw : Jvm.Lit.compactW.before _ s = true := hsets _ (List.mem_of_getElem? (i := 2) rfl)
  have hCH : CHv s consts_1 s.vm s.heap := CHv.start hEL (fun q hq => hc1 q hq) hcw (hw _ (List.mem_of_getElem? (i := 24) rfl)) (hw _ (List.mem_of_getElem? (i := 7) rfl))
  have SU0 := Sta.start (own_eqint (Cond.before_iff.mp (hsets _ (List.mem_of_getElem? (i := 12) rfl)))) (Or.inl (hsets _ (List.mem_of_getElem? (i := 11) rfl)))
  have SU1 := Sta.start (own_eqint (Cond.before_iff.mp (hsets _ (List.mem_of_getElem? (i := 15) rfl)))) (Or.inl (hsets _ (List.mem_of_getElem? (i := 14) rfl)))
  have SU2 := Sta.start (own_eqint (Cond.before_iff.mp (hsets _ (List.mem_of_getElem? (i := 18) rfl)))) (Or.inl (hsets _ (List.mem_of_getElem? (i := 17) rfl)))
  have g : Gl s _ := ⟨hw, hEL, ⟨G, SG, cG⟩, ⟨GF, SF, rF⟩, SU0, SU1, SU2⟩
  obtain ⟨n, o, h1, h2, h3, v, L, rfl, ⟨⟨_, rfl, rfl⟩, N, -⟩, -, hq⟩ := c_law (l := l) (ws := tables_1) (kn := false) (ss := []) g (Old.start s) i0 i1 i2 p e ha hc hk s m _ below hf ((Spec.applies_iff_loose hf).mp happ).1 ⟨rfl, State.Warmed39.refl s, rfl, hCH, fun _ q => nomatch q⟩ (fun q => nomatch q)
  refine ⟨n, _, h1, h2, h3, hpost _ _ _ _ _ _ ⟨Cond.after_iff.mpr rfl, Cond.after_iff.mpr (eq_i res_at (Term.int_eval (1)) rfl), trivial⟩ ⟨hq.1, hq.2.1, hq.2.2.1, (hq.2.2.2.sift fun y hy => Or.inr (N y hy)).mono (by decide) (by decide)⟩⟩
theorem main_1_1 : Claimed_1_1 := comes_1 fun _ _ _ _ _ _ h hF => ⟨h.1, hF⟩
theorem main_1_2 : Claimed_1_2 := comes_1 fun _ _ _ _ _ _ h hF => ⟨h.2.1, hF⟩
end Jvm.Pilot.@@N@@
namespace Jvm.Pilot.@@N@@
open Jvm Jvm.ClassFile Sem Op Lib Jvm.Free Jvm.Stand Jvm.Pilot.@@N@@.Jvm.D
/-! MADE BY PROGRAM (witnessworld.py) out of the Statement's table words and the real class files: 27 classes; the members and pool entries that the words name. The judged class is class 1, her method 2. -/
namespace start1
open Jvm.ClassFile
def u (s : String) : CpInfo := .utf8 (stringToUtf16 s)
/-- a pool by its gaps: so many unusable entries, then the entry; so many at the end -/
def gap : Nat → List CpInfo → List CpInfo
  | 0, r => r
  | n + 1, r => .unusable :: gap n r
def poolList (es : List (Nat × CpInfo)) (last : Nat) : List CpInfo := es.foldr (fun e r => gap e.1 (e.2 :: r)) (gap last [])
def pool (es : List (Nat × CpInfo)) (last : Nat) : Array CpInfo := ⟨poolList es last⟩
def fileOf (pool : Array CpInfo) (this : Nat) (attrs : Array Attribute := #[]) (ms : Array MethodInfo := #[]) (fl : Nat := 33) (sup : Nat := 0) (ifs : Array Nat := #[]) (fds : Array FieldInfo := #[]) : ClassFile where
  minorVersion := 0
  majorVersion := 65
  constantPool := pool
  accessFlags := fl
  thisClass := this
  superClass := sup
  interfaces := ifs
  fields := fds
  methods := ms
  attributes := attrs
def plain (name : String) (sup : Option ClassId) : Class where
  name := name
  kind := .ordinary
  loader := none
  accessFlags := 33
  super := sup
  interfaces := #[]
  cf := none
  fields := #[]
  methods := #[]
  instanceTypes := #[]
  staticTypes := #[]
  resolved := #[]
  callSites := []
  init := .initialized
  statics := none
  mirror := none

def pool0 : Array CpInfo := pool [(5, u "<init>"), (0, u "()V"), (1, .class_ 10), (1, u "java/lang/Object")] 113

def k0c0 : Code := { maxStack := 0, maxLocals := 1, code := object_method_1_code, exceptionTable := #[], attributes := #[] }
def k0m0 : Method := { name := "<init>", desc := "()V", sig := { parameters := [], returnType := none }, accessFlags := 1, code := some k0c0 }
/-- java/lang/Object -/
def k0 : Class := { plain "java/lang/Object" none with
  accessFlags := 33
  interfaces := #[]
  cf := some (fileOf pool0 8 #[] #[{ accessFlags := 1, nameIndex := 5, descriptorIndex := 6, attributes := #[] }] 33 0 #[] #[])
  fields := #[]
  methods := #[k0m0]
  instanceTypes := #[]
  staticTypes := #[]
  resolved := Array.replicate 124 none
  statics := none }

def pool1 : Array CpInfo := pool [(2, .class_ 4), (1, u "java/lang/Object"), (0, u "<init>"), (0, u "()V"), (0, .integer 65535), (0, .class_ 9), (0, u "java/lang/String"), (0, .methodref 8 11), (0, .nameAndType 5 12), (0, u "([C)V"), (0, .methodref 14 15), (0, .class_ 16), (0, .nameAndType 17 18), (0, u "com/example/goldenrod/goldenrod/ProblemToStringPinLaw"), (0, u "mk"), (0, u "(II)Ljava/lang/String;"), (0, .class_ 20), (0, u "com/example/goldenrod/goldenrod/InvalidRulesException$Problem"), (0, .methodref 19 22), (0, .nameAndType 5 23), (0, u "(Ljava/lang/String;Ljava/lang/String;)V"), (0, .methodref 19 25), (0, .nameAndType 26 27), (0, u "toString"), (0, u "()Ljava/lang/String;"), (0, .methodref 8 29), (0, .nameAndType 30 31), (0, u "length"), (0, u "()I"), (0, .methodref 8 33), (0, .nameAndType 34 35), (0, u "charAt"), (0, u "(I)C"), (3, u "law"), (0, u "(III)Z")] 6

def k1m0 : Method := { name := "<init>", desc := "()V", sig := { parameters := [], returnType := none }, accessFlags := 1, code := none }
def k1c1 : Code := { maxStack := 3, maxLocals := 5, code := method_2_code, exceptionTable := #[], attributes := #[] }
def k1m1 : Method := { name := "mk", desc := "(II)Ljava/lang/String;", sig := { parameters := [.int, .int], returnType := some (.object "java/lang/String") }, accessFlags := 10, code := some k1c1 }
def k1c2 : Code := { maxStack := 4, maxLocals := 8, code := code, exceptionTable := #[], attributes := #[] }
def k1m2 : Method := { name := "law", desc := "(III)Z", sig := { parameters := [.int, .int, .int], returnType := some .boolean }, accessFlags := 9, code := some k1c2 }
/-- com/example/goldenrod/goldenrod/ProblemToStringPinLaw -/
def k1 : Class := { plain "com/example/goldenrod/goldenrod/ProblemToStringPinLaw" (some 0) with
  accessFlags := 49
  interfaces := #[]
  cf := some (fileOf pool1 14 #[] #[{ accessFlags := 1, nameIndex := 5, descriptorIndex := 6, attributes := #[] }, { accessFlags := 10, nameIndex := 17, descriptorIndex := 18, attributes := #[] }, { accessFlags := 9, nameIndex := 39, descriptorIndex := 40, attributes := #[] }] 49 2 #[] #[])
  fields := #[]
  methods := #[k1m0, k1m1, k1m2]
  instanceTypes := #[]
  staticTypes := #[]
  resolved := Array.replicate 47 none
  statics := none }

def pool2 : Array CpInfo := pool [(1, .class_ 2), (0, u "java/io/Serializable"), (0, .class_ 4), (0, u "java/lang/Object")] 2

/-- java/io/Serializable -/
def k2 : Class := { plain "java/io/Serializable" (some 0) with
  accessFlags := 1537
  interfaces := #[]
  cf := some (fileOf pool2 1 #[] #[] 1537 3 #[] #[])
  fields := #[]
  methods := #[]
  instanceTypes := #[]
  staticTypes := #[]
  resolved := Array.replicate 7 none
  statics := none }

def pool3 : Array CpInfo := pool [(1, .class_ 2), (0, u "java/lang/Comparable"), (0, .class_ 4), (0, u "java/lang/Object")] 7

/-- java/lang/Comparable -/
def k3 : Class := { plain "java/lang/Comparable" (some 0) with
  accessFlags := 1537
  interfaces := #[]
  cf := some (fileOf pool3 1 #[] #[] 1537 3 #[] #[])
  fields := #[]
  methods := #[]
  instanceTypes := #[]
  staticTypes := #[]
  resolved := Array.replicate 12 none
  statics := none }

def pool4 : Array CpInfo := pool [(2, .class_ 4), (1, u "java/lang/CharSequence"), (42, .class_ 48), (0, u "java/lang/CharSequence$1CodePointIterator"), (10, .class_ 60), (0, u "java/lang/CharSequence$1CharIterator"), (5, .class_ 67), (0, u "java/lang/Object")] 63

/-- java/lang/CharSequence -/
def k4 : Class := { plain "java/lang/CharSequence" (some 0) with
  accessFlags := 1537
  interfaces := #[]
  cf := some (fileOf pool4 2 #[.nestMembers #[47, 59]] #[] 1537 66 #[] #[])
  fields := #[]
  methods := #[]
  instanceTypes := #[]
  staticTypes := #[]
  resolved := Array.replicate 131 none
  statics := none }

def pool5 : Array CpInfo := pool [(1, .class_ 2), (0, u "java/lang/constant/Constable"), (0, .class_ 4), (0, u "java/lang/Object")] 6

/-- java/lang/constant/Constable -/
def k5 : Class := { plain "java/lang/constant/Constable" (some 0) with
  accessFlags := 1537
  interfaces := #[]
  cf := some (fileOf pool5 1 #[] #[] 1537 3 #[] #[])
  fields := #[]
  methods := #[]
  instanceTypes := #[]
  staticTypes := #[]
  resolved := Array.replicate 11 none
  statics := none }

def pool6 : Array CpInfo := pool [(1, .class_ 2), (0, u "java/lang/constant/ConstantDesc"), (0, .class_ 4), (0, u "java/lang/Object")] 32

/-- java/lang/constant/ConstantDesc -/
def k6 : Class := { plain "java/lang/constant/ConstantDesc" (some 0) with
  accessFlags := 1537
  interfaces := #[]
  cf := some (fileOf pool6 1 #[] #[] 1537 3 #[] #[])
  fields := #[]
  methods := #[]
  instanceTypes := #[]
  staticTypes := #[]
  resolved := Array.replicate 37 none
  statics := none }

def pool7 : Array CpInfo := pool [(1, .methodref 2 3), (0, .class_ 4), (0, .nameAndType 5 6), (0, u "java/lang/Object"), (0, u "<init>"), (0, u "()V"), (0, .string 8), (0, u ""), (0, .fieldref 10 11), (0, .class_ 12), (0, .nameAndType 13 14), (0, u "java/lang/String"), (0, u "value"), (0, u "[B"), (0, .fieldref 10 16), (0, .nameAndType 17 18), (0, u "coder"), (0, u "B"), (2, u "hash"), (0, u "I"), (2, u "hashIsZero"), (0, u "Z"), (0, .methodref 10 28), (0, .nameAndType 5 29), (0, u "([CIILjava/lang/Void;)V"), (6, u "checkBoundsOffCount"), (0, u "(III)I"), (0, .fieldref 10 39), (0, .nameAndType 40 26), (0, u "COMPACT_STRINGS"), (1, .class_ 44), (1, u "java/lang/StringUTF16"), (0, u "compress"), (1, .methodref 42 48), (0, .nameAndType 49 50), (0, u "coderFromArrayLen"), (0, u "([BI)B"), (3, .methodref 55 56), (0, .class_ 57), (0, .nameAndType 58 59), (0, u "java/util/Arrays"), (0, u "copyOfRange"), (0, u "([BII)[B"), (46, .methodref 107 108), (0, .class_ 109), (0, .nameAndType 110 111), (0, u "java/lang/StringLatin1"), (0, u "inflate"), (0, u "([BI[BII)V"), (30, u "()Z"), (34, .methodref 42 178), (0, .nameAndType 45 179), (0, u "([CII)[B"), (13, .class_ 195), (1, u "java/lang/System"), (16, .methodref 193 213), (0, .nameAndType 214 215), (0, u "arraycopy"), (0, u "(Ljava/lang/Object;ILjava/lang/Object;II)V"), (118, u "()I"), (0, .methodref 10 336), (0, .nameAndType 17 337), (0, u "()B"), (2, u "()[B"), (22, u "([BI)C"), (27, u "(II)V"), (35, u "(I)C"), (61, .methodref 10 490), (0, .nameAndType 5 491), (0, u "(Ljava/lang/AbstractStringBuilder;Ljava/lang/Void;)V"), (0, .methodref 10 493), (0, .nameAndType 494 142), (0, u "isLatin1"), (0, .methodref 107 496), (0, .nameAndType 497 363), (0, u "charAt"), (0, .methodref 42 496), (2, u "checkIndex"), (4, .nameAndType 507 334), (0, u "length"), (24, u "getBytes"), (16, .methodref 550 506), (0, .class_ 551), (0, u "java/lang/AbstractStringBuilder"), (0, .methodref 550 553), (0, .nameAndType 554 340), (0, u "getValue"), (20, .class_ 576), (0, u "java/lang/CharSequence"), (22, u "CASE_INSENSITIVE_ORDER"), (0, u "Ljava/util/Comparator;"), (220, u "([BIB)V"), (188, u "([C)V"), (36, .methodref 550 493), (0, .fieldref 550 1049), (0, .nameAndType 1050 26), (0, u "maybeLatin1"), (2, .fieldref 1054 1055), (0, .class_ 1056), (0, .nameAndType 1057 1058), (0, u "jdk/internal/util/Preconditions"), (0, u "SIOOBE_FORMATTER"), (0, u "Ljava/util/function/BiFunction;"), (0, .methodref 1054 1060), (0, .nameAndType 501 1061), (0, u "(IILjava/util/function/BiFunction;)I"), (2, u "(IIILjava/util/function/BiFunction;)I"), (0, .methodref 1054 1066), (0, .nameAndType 1067 1064), (0, u "checkFromIndexSize"), (33, u "serialPersistentFields"), (0, u "[Ljava/io/ObjectStreamField;"), (0, .class_ 1104), (0, u "java/lang/String$CaseInsensitiveComparator"), (1, .class_ 1107), (0, u "java/io/Serializable"), (0, .class_ 1109), (0, u "java/lang/Comparable"), (0, .class_ 1111), (0, u "java/lang/constant/Constable"), (0, .class_ 1113), (0, u "java/lang/constant/ConstantDesc"), (2, u "serialVersionUID"), (0, u "J"), (3, u "REPL"), (0, u "C"), (2, u "LATIN1"), (1, u "UTF16"), (105, u "(Ljava/lang/StringBuilder;)V")] 217

def k7m0 : Method := { name := "<init>", desc := "()V", sig := { parameters := [], returnType := none }, accessFlags := 1, code := none }
def k7c1 : Code := { maxStack := 5, maxLocals := 2, code := jdk_42_method_3_code, exceptionTable := #[], attributes := #[] }
def k7m1 : Method := { name := "<init>", desc := "([C)V", sig := { parameters := [(.array .char)], returnType := none }, accessFlags := 1, code := some k7c1 }
def k7c2 : Code := { maxStack := 3, maxLocals := 2, code := jdk_42_method_53_code, exceptionTable := #[], attributes := #[] }
def k7m2 : Method := { name := "<init>", desc := "(Ljava/lang/StringBuilder;)V", sig := { parameters := [(.object "java/lang/StringBuilder")], returnType := none }, accessFlags := 1, code := some k7c2 }
def k7c3 : Code := { maxStack := 2, maxLocals := 1, code := jdk_42_method_54_code, exceptionTable := #[], attributes := #[] }
def k7m3 : Method := { name := "length", desc := "()I", sig := { parameters := [], returnType := some .int }, accessFlags := 1, code := some k7c3 }
def k7c4 : Code := { maxStack := 2, maxLocals := 2, code := jdk_42_method_56_code, exceptionTable := #[], attributes := #[] }
def k7m4 : Method := { name := "charAt", desc := "(I)C", sig := { parameters := [.int], returnType := some .char }, accessFlags := 1, code := some k7c4 }
def k7c5 : Code := { maxStack := 5, maxLocals := 4, code := jdk_42_method_147_code, exceptionTable := #[], attributes := #[] }
def k7m5 : Method := { name := "getBytes", desc := "([BIB)V", sig := { parameters := [(.array .byte), .int, .byte], returnType := none }, accessFlags := 0, code := some k7c5 }
def k7c6 : Code := { maxStack := 4, maxLocals := 6, code := jdk_42_method_149_code, exceptionTable := #[], attributes := #[] }
def k7m6 : Method := { name := "<init>", desc := "([CIILjava/lang/Void;)V", sig := { parameters := [(.array .char), .int, .int, (.object "java/lang/Void")], returnType := none }, accessFlags := 2, code := some k7c6 }
def k7c7 : Code := { maxStack := 5, maxLocals := 5, code := jdk_42_method_150_code, exceptionTable := #[], attributes := #[] }
def k7m7 : Method := { name := "<init>", desc := "(Ljava/lang/AbstractStringBuilder;Ljava/lang/Void;)V", sig := { parameters := [(.object "java/lang/AbstractStringBuilder"), (.object "java/lang/Void")], returnType := none }, accessFlags := 0, code := some k7c7 }
def k7c8 : Code := { maxStack := 1, maxLocals := 1, code := jdk_42_method_152_code, exceptionTable := #[], attributes := #[] }
def k7m8 : Method := { name := "coder", desc := "()B", sig := { parameters := [], returnType := some .byte }, accessFlags := 0, code := some k7c8 }
def k7c9 : Code := { maxStack := 1, maxLocals := 1, code := jdk_42_method_154_code, exceptionTable := #[], attributes := #[] }
def k7m9 : Method := { name := "isLatin1", desc := "()Z", sig := { parameters := [], returnType := some .boolean }, accessFlags := 0, code := some k7c9 }
def k7c10 : Code := { maxStack := 3, maxLocals := 2, code := jdk_42_method_155_code, exceptionTable := #[], attributes := #[] }
def k7m10 : Method := { name := "checkIndex", desc := "(II)V", sig := { parameters := [.int, .int], returnType := none }, accessFlags := 8, code := some k7c10 }
def k7c11 : Code := { maxStack := 4, maxLocals := 3, code := jdk_42_method_157_code, exceptionTable := #[], attributes := #[] }
def k7m11 : Method := { name := "checkBoundsOffCount", desc := "(III)I", sig := { parameters := [.int, .int, .int], returnType := some .int }, accessFlags := 8, code := some k7c11 }
/-- java/lang/String -/
def k7 : Class := { plain "java/lang/String" (some 0) with
  accessFlags := 49
  interfaces := #[2, 3, 4, 5, 6]
  cf := some (fileOf pool7 10 #[.nestMembers #[1103]] #[{ accessFlags := 1, nameIndex := 5, descriptorIndex := 6, attributes := #[] }, { accessFlags := 1, nameIndex := 5, descriptorIndex := 1010, attributes := #[] }, { accessFlags := 1, nameIndex := 5, descriptorIndex := 1233, attributes := #[] }, { accessFlags := 1, nameIndex := 507, descriptorIndex := 334, attributes := #[] }, { accessFlags := 1, nameIndex := 497, descriptorIndex := 427, attributes := #[] }, { accessFlags := 0, nameIndex := 532, descriptorIndex := 821, attributes := #[] }, { accessFlags := 2, nameIndex := 5, descriptorIndex := 29, attributes := #[] }, { accessFlags := 0, nameIndex := 5, descriptorIndex := 491, attributes := #[] }, { accessFlags := 0, nameIndex := 17, descriptorIndex := 337, attributes := #[] }, { accessFlags := 0, nameIndex := 494, descriptorIndex := 142, attributes := #[] }, { accessFlags := 8, nameIndex := 501, descriptorIndex := 391, attributes := #[] }, { accessFlags := 8, nameIndex := 36, descriptorIndex := 37, attributes := #[] }] 49 2 #[1106, 1108, 575, 1110, 1112] #[{ accessFlags := 18, nameIndex := 13, descriptorIndex := 14, attributes := #[] }, { accessFlags := 18, nameIndex := 17, descriptorIndex := 18, attributes := #[] }, { accessFlags := 2, nameIndex := 21, descriptorIndex := 22, attributes := #[] }, { accessFlags := 2, nameIndex := 25, descriptorIndex := 26, attributes := #[] }, { accessFlags := 26, nameIndex := 1116, descriptorIndex := 1117, attributes := #[] }, { accessFlags := 24, nameIndex := 40, descriptorIndex := 26, attributes := #[] }, { accessFlags := 26, nameIndex := 1101, descriptorIndex := 1102, attributes := #[] }, { accessFlags := 26, nameIndex := 1121, descriptorIndex := 1122, attributes := #[] }, { accessFlags := 25, nameIndex := 599, descriptorIndex := 600, attributes := #[] }, { accessFlags := 24, nameIndex := 1125, descriptorIndex := 18, attributes := #[] }, { accessFlags := 24, nameIndex := 1127, descriptorIndex := 18, attributes := #[] }])
  fields := #[{ name := "value", type := (.array .byte), accessFlags := 18, slot := 0, constantValue := 0 }, { name := "coder", type := .byte, accessFlags := 18, slot := 1, constantValue := 0 }, { name := "hash", type := .int, accessFlags := 2, slot := 2, constantValue := 0 }, { name := "hashIsZero", type := .boolean, accessFlags := 2, slot := 3, constantValue := 0 }, { name := "serialVersionUID", type := .long, accessFlags := 26, slot := 0, constantValue := 0 }, { name := "COMPACT_STRINGS", type := .boolean, accessFlags := 24, slot := 1, constantValue := 0 }, { name := "serialPersistentFields", type := (.array (.object "java/io/ObjectStreamField")), accessFlags := 26, slot := 2, constantValue := 0 }, { name := "REPL", type := .char, accessFlags := 26, slot := 3, constantValue := 0 }, { name := "CASE_INSENSITIVE_ORDER", type := (.object "java/util/Comparator"), accessFlags := 25, slot := 4, constantValue := 0 }, { name := "LATIN1", type := .byte, accessFlags := 24, slot := 5, constantValue := 0 }, { name := "UTF16", type := .byte, accessFlags := 24, slot := 6, constantValue := 0 }]
  methods := #[k7m0, k7m1, k7m2, k7m3, k7m4, k7m5, k7m6, k7m7, k7m8, k7m9, k7m10, k7m11]
  instanceTypes := #[(.array .byte), .byte, .int, .boolean]
  staticTypes := #[.long, .boolean, (.array (.object "java/io/ObjectStreamField")), .char, (.object "java/util/Comparator"), .byte, .byte]
  resolved := Array.replicate 1451 none
  statics := some 0 }

def pool8 : Array CpInfo := pool [(3, .class_ 4), (0, u "java/lang/String"), (1, .class_ 8), (1, u "java/lang/Object"), (0, u "<init>"), (0, u "()V"), (0, .methodref 12 13), (0, .class_ 14), (0, .nameAndType 15 16), (0, u "java/lang/StringUTF16"), (0, u "newBytesLength"), (0, u "(I)I"), (3, .integer 1073741823), (23, .fieldref 12 45), (0, .nameAndType 46 47), (0, u "$assertionsDisabled"), (0, u "Z"), (0, .methodref 12 49), (0, .nameAndType 50 51), (0, u "length"), (0, u "([B)I"), (7, .fieldref 12 60), (0, .nameAndType 61 62), (0, u "HI_BYTE_SHIFT"), (0, u "I"), (0, .fieldref 12 64), (0, .nameAndType 65 62), (0, u "LO_BYTE_SHIFT"), (1, .methodref 12 68), (0, .nameAndType 69 70), (0, u "checkIndex"), (0, u "(I[B)V"), (0, .methodref 12 72), (0, .nameAndType 73 74), (0, u "getChar"), (0, u "([BI)C"), (24, u "(II[B)V"), (7, .methodref 12 108), (0, .nameAndType 109 110), (0, u "newBytesFor"), (0, u "(I)[B"), (0, .methodref 12 112), (0, .nameAndType 113 114), (0, u "putChar"), (0, u "([BII)V"), (0, .methodref 12 116), (0, .nameAndType 117 118), (0, u "compress"), (0, u "([CI[BII)I"), (0, .methodref 12 120), (0, .nameAndType 121 122), (0, u "toBytes"), (0, u "([CII)[B"), (17, u "inflate"), (0, u "([BI[BII)V"), (31, .methodref 12 174), (0, .nameAndType 175 99), (0, u "checkBoundsOffCount"), (85, u "coderFromArrayLen"), (0, u "([BI)B"), (18, u "(III)I"), (87, .class_ 371), (1, u "java/lang/StringUTF16$LinesSpliterator"), (20, u "charAt"), (21, .methodref 3 415), (0, .nameAndType 69 416), (0, u "(II)V"), (2, .methodref 3 420), (0, .nameAndType 175 281), (9, u "MAX_LENGTH"), (196, .class_ 628), (0, u "java/lang/StringUTF16$CodePointsSpliterator"), (0, .class_ 630), (0, u "java/lang/StringUTF16$CharsSpliterator")] 4

def k8m0 : Method := { name := "<init>", desc := "()V", sig := { parameters := [], returnType := none }, accessFlags := 0, code := none }
def k8c1 : Code := { maxStack := 1, maxLocals := 1, code := jdk_52_method_2_code, exceptionTable := #[], attributes := #[] }
def k8m1 : Method := { name := "newBytesFor", desc := "(I)[B", sig := { parameters := [.int], returnType := some (.array .byte) }, accessFlags := 9, code := some k8c1 }
def k8c2 : Code := { maxStack := 4, maxLocals := 1, code := jdk_52_method_3_code, exceptionTable := #[], attributes := #[] }
def k8m2 : Method := { name := "newBytesLength", desc := "(I)I", sig := { parameters := [.int], returnType := some .int }, accessFlags := 9, code := some k8c2 }
def k8c3 : Code := { maxStack := 4, maxLocals := 3, code := jdk_52_method_4_code, exceptionTable := #[], attributes := #[] }
def k8m3 : Method := { name := "putChar", desc := "([BII)V", sig := { parameters := [(.array .byte), .int, .int], returnType := none }, accessFlags := 8, code := some k8c3 }
def k8c4 : Code := { maxStack := 3, maxLocals := 2, code := jdk_52_method_5_code, exceptionTable := #[], attributes := #[] }
def k8m4 : Method := { name := "getChar", desc := "([BI)C", sig := { parameters := [(.array .byte), .int], returnType := some .char }, accessFlags := 8, code := some k8c4 }
def k8c5 : Code := { maxStack := 2, maxLocals := 1, code := jdk_52_method_6_code, exceptionTable := #[], attributes := #[] }
def k8m5 : Method := { name := "length", desc := "([B)I", sig := { parameters := [(.array .byte)], returnType := some .int }, accessFlags := 9, code := some k8c5 }
def k8c6 : Code := { maxStack := 4, maxLocals := 5, code := jdk_52_method_14_code, exceptionTable := #[], attributes := #[] }
def k8m6 : Method := { name := "toBytes", desc := "([CII)[B", sig := { parameters := [(.array .char), .int, .int], returnType := some (.array .byte) }, accessFlags := 9, code := some k8c6 }
def k8c7 : Code := { maxStack := 2, maxLocals := 2, code := jdk_52_method_15_code, exceptionTable := #[], attributes := #[] }
def k8m7 : Method := { name := "coderFromArrayLen", desc := "([BI)B", sig := { parameters := [(.array .byte), .int], returnType := some .byte }, accessFlags := 8, code := some k8c7 }
def k8c8 : Code := { maxStack := 5, maxLocals := 6, code := jdk_52_method_16_code, exceptionTable := #[], attributes := #[] }
def k8m8 : Method := { name := "compress", desc := "([CII)[B", sig := { parameters := [(.array .char), .int, .int], returnType := some (.array .byte) }, accessFlags := 9, code := some k8c8 }
def k8c9 : Code := { maxStack := 3, maxLocals := 7, code := jdk_52_method_21_code, exceptionTable := #[], attributes := #[] }
def k8m9 : Method := { name := "compress", desc := "([CI[BII)I", sig := { parameters := [(.array .char), .int, (.array .byte), .int, .int], returnType := some .int }, accessFlags := 9, code := some k8c9 }
def k8c10 : Code := { maxStack := 2, maxLocals := 2, code := jdk_52_method_83_code, exceptionTable := #[], attributes := #[] }
def k8m10 : Method := { name := "charAt", desc := "([BI)C", sig := { parameters := [(.array .byte), .int], returnType := some .char }, accessFlags := 9, code := some k8c10 }
def k8c11 : Code := { maxStack := 4, maxLocals := 6, code := jdk_52_method_86_code, exceptionTable := #[], attributes := #[] }
def k8m11 : Method := { name := "inflate", desc := "([BI[BII)V", sig := { parameters := [(.array .byte), .int, (.array .byte), .int, .int], returnType := none }, accessFlags := 9, code := some k8c11 }
def k8c12 : Code := { maxStack := 2, maxLocals := 2, code := jdk_52_method_91_code, exceptionTable := #[], attributes := #[] }
def k8m12 : Method := { name := "checkIndex", desc := "(I[B)V", sig := { parameters := [.int, (.array .byte)], returnType := none }, accessFlags := 9, code := some k8c12 }
def k8c13 : Code := { maxStack := 3, maxLocals := 3, code := jdk_52_method_94_code, exceptionTable := #[], attributes := #[] }
def k8m13 : Method := { name := "checkBoundsOffCount", desc := "(II[B)V", sig := { parameters := [.int, .int, (.array .byte)], returnType := none }, accessFlags := 9, code := some k8c13 }
/-- java/lang/StringUTF16 -/
def k8 : Class := { plain "java/lang/StringUTF16" (some 0) with
  accessFlags := 48
  interfaces := #[]
  cf := some (fileOf pool8 12 #[.nestMembers #[627, 629, 369]] #[{ accessFlags := 0, nameIndex := 9, descriptorIndex := 10, attributes := #[] }, { accessFlags := 9, nameIndex := 109, descriptorIndex := 110, attributes := #[] }, { accessFlags := 9, nameIndex := 15, descriptorIndex := 16, attributes := #[] }, { accessFlags := 8, nameIndex := 113, descriptorIndex := 114, attributes := #[] }, { accessFlags := 8, nameIndex := 73, descriptorIndex := 74, attributes := #[] }, { accessFlags := 9, nameIndex := 50, descriptorIndex := 51, attributes := #[] }, { accessFlags := 9, nameIndex := 121, descriptorIndex := 122, attributes := #[] }, { accessFlags := 8, nameIndex := 261, descriptorIndex := 262, attributes := #[] }, { accessFlags := 9, nameIndex := 117, descriptorIndex := 122, attributes := #[] }, { accessFlags := 9, nameIndex := 117, descriptorIndex := 118, attributes := #[] }, { accessFlags := 9, nameIndex := 392, descriptorIndex := 74, attributes := #[] }, { accessFlags := 9, nameIndex := 140, descriptorIndex := 141, attributes := #[] }, { accessFlags := 9, nameIndex := 69, descriptorIndex := 70, attributes := #[] }, { accessFlags := 9, nameIndex := 175, descriptorIndex := 99, attributes := #[] }] 48 6 #[] #[{ accessFlags := 26, nameIndex := 61, descriptorIndex := 62, attributes := #[] }, { accessFlags := 26, nameIndex := 65, descriptorIndex := 62, attributes := #[] }, { accessFlags := 24, nameIndex := 430, descriptorIndex := 62, attributes := #[] }, { accessFlags := 4120, nameIndex := 46, descriptorIndex := 47, attributes := #[] }])
  fields := #[{ name := "HI_BYTE_SHIFT", type := .int, accessFlags := 26, slot := 0, constantValue := 0 }, { name := "LO_BYTE_SHIFT", type := .int, accessFlags := 26, slot := 1, constantValue := 0 }, { name := "MAX_LENGTH", type := .int, accessFlags := 24, slot := 2, constantValue := 0 }, { name := "$assertionsDisabled", type := .boolean, accessFlags := 4120, slot := 3, constantValue := 0 }]
  methods := #[k8m0, k8m1, k8m2, k8m3, k8m4, k8m5, k8m6, k8m7, k8m8, k8m9, k8m10, k8m11, k8m12, k8m13]
  instanceTypes := #[]
  staticTypes := #[.int, .int, .int, .boolean]
  resolved := Array.replicate 635 none
  statics := some 1 }

def pool9 : Array CpInfo := pool [(1, .methodref 2 3), (0, .class_ 4), (0, .nameAndType 5 6), (0, u "java/lang/Object"), (0, u "<init>"), (0, u "()V"), (0, .class_ 8), (0, u "java/lang/Record")] 13

def k9c0 : Code := { maxStack := 1, maxLocals := 1, code := jdk_30_method_1_code, exceptionTable := #[], attributes := #[] }
def k9m0 : Method := { name := "<init>", desc := "()V", sig := { parameters := [], returnType := none }, accessFlags := 4, code := some k9c0 }
/-- java/lang/Record -/
def k9 : Class := { plain "java/lang/Record" (some 0) with
  accessFlags := 1057
  interfaces := #[]
  cf := some (fileOf pool9 7 #[] #[{ accessFlags := 4, nameIndex := 5, descriptorIndex := 6, attributes := #[] }] 1057 2 #[] #[])
  fields := #[]
  methods := #[k9m0]
  instanceTypes := #[]
  staticTypes := #[]
  resolved := Array.replicate 22 none
  statics := none }

def pool10 : Array CpInfo := pool [(1, .methodref 2 3), (0, .class_ 4), (0, .nameAndType 5 6), (0, u "java/lang/Record"), (0, u "<init>"), (0, u "()V"), (0, .fieldref 8 9), (0, .class_ 10), (0, .nameAndType 11 12), (0, u "com/example/goldenrod/goldenrod/InvalidRulesException$Problem"), (0, u "pointer"), (0, u "Ljava/lang/String;"), (0, .fieldref 8 14), (0, .nameAndType 15 12), (0, u "message"), (0, .class_ 17), (0, u "java/lang/StringBuilder"), (0, .methodref 16 3), (0, .methodref 16 20), (0, .nameAndType 21 22), (0, u "append"), (0, u "(Ljava/lang/String;)Ljava/lang/StringBuilder;"), (0, .string 24), (0, u ": "), (0, .methodref 16 26), (0, .nameAndType 27 28), (0, u "toString"), (0, u "()Ljava/lang/String;"), (8, u "(Ljava/lang/String;Ljava/lang/String;)V"), (8, .class_ 47), (0, u "com/example/goldenrod/goldenrod/InvalidRulesException")] 20

def k10c0 : Code := { maxStack := 2, maxLocals := 3, code := prog_4_method_1_code, exceptionTable := #[], attributes := #[] }
def k10m0 : Method := { name := "<init>", desc := "(Ljava/lang/String;Ljava/lang/String;)V", sig := { parameters := [(.object "java/lang/String"), (.object "java/lang/String")], returnType := none }, accessFlags := 0, code := some k10c0 }
def k10c1 : Code := { maxStack := 2, maxLocals := 1, code := prog_4_method_2_code, exceptionTable := #[], attributes := #[] }
def k10m1 : Method := { name := "toString", desc := "()Ljava/lang/String;", sig := { parameters := [], returnType := some (.object "java/lang/String") }, accessFlags := 1, code := some k10c1 }
/-- com/example/goldenrod/goldenrod/InvalidRulesException$Problem -/
def k10 : Class := { plain "com/example/goldenrod/goldenrod/InvalidRulesException$Problem" (some 9) with
  accessFlags := 48
  interfaces := #[]
  cf := some (fileOf pool10 8 #[.nestHost 46] #[{ accessFlags := 0, nameIndex := 5, descriptorIndex := 37, attributes := #[] }, { accessFlags := 1, nameIndex := 27, descriptorIndex := 28, attributes := #[] }] 48 2 #[] #[{ accessFlags := 18, nameIndex := 11, descriptorIndex := 12, attributes := #[] }, { accessFlags := 18, nameIndex := 15, descriptorIndex := 12, attributes := #[] }])
  fields := #[{ name := "pointer", type := (.object "java/lang/String"), accessFlags := 18, slot := 0, constantValue := 0 }, { name := "message", type := (.object "java/lang/String"), accessFlags := 18, slot := 1, constantValue := 0 }]
  methods := #[k10m0, k10m1]
  instanceTypes := #[(.object "java/lang/String"), (.object "java/lang/String")]
  staticTypes := #[]
  resolved := Array.replicate 68 none
  statics := none }

def pool11 : Array CpInfo := pool [(1, .class_ 2), (0, u "java/lang/Appendable"), (0, .class_ 4), (0, u "java/lang/Object")] 9

/-- java/lang/Appendable -/
def k11 : Class := { plain "java/lang/Appendable" (some 0) with
  accessFlags := 1537
  interfaces := #[]
  cf := some (fileOf pool11 1 #[] #[] 1537 3 #[] #[])
  fields := #[]
  methods := #[]
  instanceTypes := #[]
  staticTypes := #[]
  resolved := Array.replicate 14 none
  statics := none }

def pool12 : Array CpInfo := pool [(1, .class_ 2), (0, u "java/lang/String"), (0, .methodref 4 5), (0, .class_ 6), (0, .nameAndType 7 8), (0, u "java/lang/Object"), (0, u "<init>"), (0, u "()V"), (1, .class_ 12), (1, u "java/lang/AbstractStringBuilder"), (0, u "EMPTYVALUE"), (0, u "[B"), (0, .fieldref 10 16), (0, .nameAndType 17 14), (0, u "value"), (0, .fieldref 1 19), (0, .nameAndType 20 21), (0, u "COMPACT_STRINGS"), (0, u "Z"), (0, .fieldref 10 23), (0, .nameAndType 24 25), (0, u "coder"), (0, u "B"), (0, .methodref 27 28), (0, .class_ 29), (0, .nameAndType 30 31), (0, u "java/lang/StringUTF16"), (0, u "newBytesFor"), (0, u "(I)[B"), (0, .methodref 1 33), (0, .nameAndType 34 35), (0, u "length"), (0, u "()I"), (4, .methodref 1 41), (0, .nameAndType 24 42), (0, u "()B"), (2, u "append"), (0, u "(Ljava/lang/String;)Ljava/lang/AbstractStringBuilder;"), (1, .class_ 49), (0, u "java/lang/CharSequence"), (19, u "(Ljava/lang/String;)V"), (5, u "maybeLatin1"), (3, .fieldref 10 80), (0, .nameAndType 81 82), (0, u "count"), (0, u "I"), (0, .methodref 10 84), (0, .nameAndType 85 86), (0, u "isLatin1"), (0, u "()Z"), (1, .class_ 90), (1, u "java/lang/StringLatin1"), (9, .methodref 10 101), (0, .nameAndType 102 103), (0, u "ensureCapacityInternal"), (0, u "(I)V"), (21, .methodref 88 126), (0, .nameAndType 127 128), (0, u "inflate"), (0, u "([BI[BII)V"), (66, .methodref 10 196), (0, .nameAndType 127 8), (11, .methodref 10 209), (0, .nameAndType 210 211), (0, u "putStringAt"), (0, u "(ILjava/lang/String;)V"), (5, u "inflateIfNeededFor"), (2, .nameAndType 221 222), (0, u "getBytes"), (0, u "([BIB)V"), (174, .methodref 10 398), (0, .nameAndType 217 69), (0, .methodref 1 220), (3, u "()[B"), (40, .class_ 445), (0, u "java/lang/Appendable"), (106, u "getValue")] 56

def k12m0 : Method := { name := "<init>", desc := "()V", sig := { parameters := [], returnType := none }, accessFlags := 0, code := none }
def k12c1 : Code := { maxStack := 2, maxLocals := 2, code := jdk_68_method_2_code, exceptionTable := #[], attributes := #[] }
def k12m1 : Method := { name := "<init>", desc := "(I)V", sig := { parameters := [.int], returnType := none }, accessFlags := 0, code := some k12c1 }
def k12c2 : Code := { maxStack := 1, maxLocals := 1, code := jdk_68_method_6_code, exceptionTable := #[], attributes := #[] }
def k12m2 : Method := { name := "length", desc := "()I", sig := { parameters := [], returnType := some .int }, accessFlags := 1, code := some k12c2 }
def k12c3 : Code := { maxStack := 4, maxLocals := 3, code := jdk_68_method_9_code, exceptionTable := #[], attributes := #[] }
def k12m3 : Method := { name := "ensureCapacityInternal", desc := "(I)V", sig := { parameters := [.int], returnType := none }, accessFlags := 2, code := some k12c3 }
def k12c4 : Code := { maxStack := 5, maxLocals := 2, code := jdk_68_method_11_code, exceptionTable := #[], attributes := #[] }
def k12m4 : Method := { name := "inflate", desc := "()V", sig := { parameters := [], returnType := none }, accessFlags := 2, code := some k12c4 }
def k12c5 : Code := { maxStack := 3, maxLocals := 3, code := jdk_68_method_22_code, exceptionTable := #[], attributes := #[] }
def k12m5 : Method := { name := "append", desc := "(Ljava/lang/String;)Ljava/lang/AbstractStringBuilder;", sig := { parameters := [(.object "java/lang/String")], returnType := some (.object "java/lang/AbstractStringBuilder") }, accessFlags := 1, code := some k12c5 }
def k12c6 : Code := { maxStack := 1, maxLocals := 1, code := jdk_68_method_64_code, exceptionTable := #[], attributes := #[] }
def k12m6 : Method := { name := "getValue", desc := "()[B", sig := { parameters := [], returnType := some (.array .byte) }, accessFlags := 16, code := some k12c6 }
def k12c7 : Code := { maxStack := 1, maxLocals := 1, code := jdk_68_method_68_code, exceptionTable := #[], attributes := #[] }
def k12m7 : Method := { name := "isLatin1", desc := "()Z", sig := { parameters := [], returnType := some .boolean }, accessFlags := 16, code := some k12c7 }
def k12c8 : Code := { maxStack := 2, maxLocals := 2, code := jdk_68_method_71_code, exceptionTable := #[], attributes := #[] }
def k12m8 : Method := { name := "inflateIfNeededFor", desc := "(Ljava/lang/String;)V", sig := { parameters := [(.object "java/lang/String")], returnType := none }, accessFlags := 2, code := some k12c8 }
def k12c9 : Code := { maxStack := 4, maxLocals := 3, code := jdk_68_method_73_code, exceptionTable := #[], attributes := #[] }
def k12m9 : Method := { name := "putStringAt", desc := "(ILjava/lang/String;)V", sig := { parameters := [.int, (.object "java/lang/String")], returnType := none }, accessFlags := 2, code := some k12c9 }
/-- java/lang/AbstractStringBuilder -/
def k12 : Class := { plain "java/lang/AbstractStringBuilder" (some 0) with
  accessFlags := 1056
  interfaces := #[11, 4]
  cf := some (fileOf pool12 10 #[] #[{ accessFlags := 0, nameIndex := 7, descriptorIndex := 8, attributes := #[] }, { accessFlags := 0, nameIndex := 7, descriptorIndex := 103, attributes := #[] }, { accessFlags := 1, nameIndex := 34, descriptorIndex := 35, attributes := #[] }, { accessFlags := 2, nameIndex := 102, descriptorIndex := 103, attributes := #[] }, { accessFlags := 2, nameIndex := 127, descriptorIndex := 8, attributes := #[] }, { accessFlags := 1, nameIndex := 45, descriptorIndex := 46, attributes := #[] }, { accessFlags := 16, nameIndex := 552, descriptorIndex := 403, attributes := #[] }, { accessFlags := 16, nameIndex := 85, descriptorIndex := 86, attributes := #[] }, { accessFlags := 2, nameIndex := 217, descriptorIndex := 69, attributes := #[] }, { accessFlags := 2, nameIndex := 210, descriptorIndex := 211, attributes := #[] }] 1056 4 #[444, 48] #[{ accessFlags := 0, nameIndex := 17, descriptorIndex := 14, attributes := #[] }, { accessFlags := 0, nameIndex := 24, descriptorIndex := 25, attributes := #[] }, { accessFlags := 0, nameIndex := 75, descriptorIndex := 21, attributes := #[] }, { accessFlags := 0, nameIndex := 81, descriptorIndex := 82, attributes := #[] }, { accessFlags := 26, nameIndex := 13, descriptorIndex := 14, attributes := #[] }])
  fields := #[{ name := "value", type := (.array .byte), accessFlags := 0, slot := 0, constantValue := 0 }, { name := "coder", type := .byte, accessFlags := 0, slot := 1, constantValue := 0 }, { name := "maybeLatin1", type := .boolean, accessFlags := 0, slot := 2, constantValue := 0 }, { name := "count", type := .int, accessFlags := 0, slot := 3, constantValue := 0 }, { name := "EMPTYVALUE", type := (.array .byte), accessFlags := 26, slot := 0, constantValue := 0 }]
  methods := #[k12m0, k12m1, k12m2, k12m3, k12m4, k12m5, k12m6, k12m7, k12m8, k12m9]
  instanceTypes := #[(.array .byte), .byte, .boolean, .int]
  staticTypes := #[(.array .byte)]
  resolved := Array.replicate 609 none
  statics := none }

def pool13 : Array CpInfo := pool [(1, .methodref 2 3), (0, .class_ 4), (0, .nameAndType 5 6), (0, u "java/lang/AbstractStringBuilder"), (0, u "<init>"), (0, u "(I)V"), (11, .class_ 20), (1, u "java/lang/String"), (3, .class_ 26), (1, u "java/lang/StringBuilder"), (0, u "append"), (0, u "(Ljava/lang/String;)Ljava/lang/StringBuilder;"), (0, .methodref 2 30), (0, .nameAndType 27 31), (0, u "(Ljava/lang/String;)Ljava/lang/AbstractStringBuilder;"), (105, .methodref 18 138), (0, .nameAndType 5 139), (0, u "(Ljava/lang/StringBuilder;)V"), (5, u "()V"), (10, u "()I"), (186, .methodref 2 344), (0, .nameAndType 345 156), (0, u "length"), (3, .class_ 350), (0, u "java/lang/Appendable"), (0, .class_ 352), (0, u "java/io/Serializable"), (0, .class_ 354), (0, u "java/lang/Comparable"), (0, .class_ 356), (0, u "java/lang/CharSequence"), (0, u "serialVersionUID"), (0, u "J"), (40, u "toString"), (0, u "()Ljava/lang/String;")] 21

def k13c0 : Code := { maxStack := 2, maxLocals := 1, code := jdk_67_method_1_code, exceptionTable := #[], attributes := #[] }
def k13m0 : Method := { name := "<init>", desc := "()V", sig := { parameters := [], returnType := none }, accessFlags := 1, code := some k13c0 }
def k13c1 : Code := { maxStack := 2, maxLocals := 2, code := jdk_67_method_7_code, exceptionTable := #[], attributes := #[] }
def k13m1 : Method := { name := "append", desc := "(Ljava/lang/String;)Ljava/lang/StringBuilder;", sig := { parameters := [(.object "java/lang/String")], returnType := some (.object "java/lang/StringBuilder") }, accessFlags := 1, code := some k13c1 }
def k13c2 : Code := { maxStack := 3, maxLocals := 1, code := jdk_67_method_42_code, exceptionTable := #[], attributes := #[] }
def k13m2 : Method := { name := "toString", desc := "()Ljava/lang/String;", sig := { parameters := [], returnType := some (.object "java/lang/String") }, accessFlags := 1, code := some k13c2 }
def k13c3 : Code := { maxStack := 1, maxLocals := 1, code := jdk_67_method_93_code, exceptionTable := #[], attributes := #[] }
def k13m3 : Method := { name := "length", desc := "()I", sig := { parameters := [], returnType := some .int }, accessFlags := 4161, code := some k13c3 }
/-- java/lang/StringBuilder -/
def k13 : Class := { plain "java/lang/StringBuilder" (some 12) with
  accessFlags := 49
  interfaces := #[11, 2, 3, 4]
  cf := some (fileOf pool13 24 #[] #[{ accessFlags := 1, nameIndex := 5, descriptorIndex := 145, attributes := #[] }, { accessFlags := 1, nameIndex := 27, descriptorIndex := 28, attributes := #[] }, { accessFlags := 1, nameIndex := 399, descriptorIndex := 400, attributes := #[] }, { accessFlags := 4161, nameIndex := 345, descriptorIndex := 156, attributes := #[] }] 49 2 #[349, 351, 353, 355] #[{ accessFlags := 24, nameIndex := 357, descriptorIndex := 358, attributes := #[] }])
  fields := #[{ name := "serialVersionUID", type := .long, accessFlags := 24, slot := 0, constantValue := 0 }]
  methods := #[k13m0, k13m1, k13m2, k13m3]
  instanceTypes := #[(.array .byte), .byte, .boolean, .int]
  staticTypes := #[.long]
  resolved := Array.replicate 422 none
  statics := none }

def pool14 : Array CpInfo := pool [(2, .class_ 4), (1, u "java/lang/Object"), (0, u "<init>"), (0, u "()V"), (1, .class_ 10), (1, u "java/lang/System"), (0, u "allowSecurityManager"), (0, u "I"), (16, u "cons"), (0, u "Ljava/io/Console;"), (77, .class_ 110), (1, u "java/lang/System$CallersHolder"), (43, u "initialErrStream"), (0, u "Ljava/io/PrintStream;"), (19, u "security"), (0, u "Ljava/lang/SecurityManager;"), (31, .class_ 209), (0, u "java/lang/System$1"), (7, u "props"), (0, u "Ljava/util/Properties;"), (2, u "lineSeparator"), (0, u "Ljava/lang/String;"), (96, .class_ 321), (1, u "java/lang/System$LoggerFinder"), (5, .class_ 328), (0, u "java/lang/System$Logger"), (67, u "err"), (2, u "out"), (91, u "notSupportedJnuEncoding"), (15, u "in"), (17, u "initialIn"), (0, u "Ljava/io/InputStream;"), (35, u "bootLayer"), (0, u "Ljava/lang/ModuleLayer;"), (99, .class_ 664), (0, u "java/lang/System$2"), (9, u "NEVER"), (2, u "MAYBE"), (49, u "arraycopy"), (0, u "(Ljava/lang/Object;ILjava/lang/Object;II)V"), (72, .class_ 802), (0, u "java/lang/System$Logger$Level")] 31

def k14m0 : Method := { name := "<init>", desc := "()V", sig := { parameters := [], returnType := none }, accessFlags := 2, code := none }
def k14m1 : Method := { name := "arraycopy", desc := "(Ljava/lang/Object;ILjava/lang/Object;II)V", sig := { parameters := [(.object "java/lang/Object"), .int, (.object "java/lang/Object"), .int, .int], returnType := none }, accessFlags := 265, code := none }
/-- java/lang/System -/
def k14 : Class := { plain "java/lang/System" (some 0) with
  accessFlags := 49
  interfaces := #[]
  cf := some (fileOf pool14 8 #[.nestMembers #[319, 327, 801, 108, 663, 208]] #[{ accessFlags := 2, nameIndex := 5, descriptorIndex := 6, attributes := #[] }, { accessFlags := 265, nameIndex := 727, descriptorIndex := 728, attributes := #[] }] 49 2 #[] #[{ accessFlags := 25, nameIndex := 507, descriptorIndex := 526, attributes := #[] }, { accessFlags := 25, nameIndex := 399, descriptorIndex := 155, attributes := #[] }, { accessFlags := 25, nameIndex := 396, descriptorIndex := 155, attributes := #[] }, { accessFlags := 10, nameIndex := 525, descriptorIndex := 526, attributes := #[] }, { accessFlags := 26, nameIndex := 674, descriptorIndex := 12, attributes := #[] }, { accessFlags := 26, nameIndex := 677, descriptorIndex := 12, attributes := #[] }, { accessFlags := 10, nameIndex := 11, descriptorIndex := 12, attributes := #[] }, { accessFlags := 74, nameIndex := 175, descriptorIndex := 176, attributes := #[] }, { accessFlags := 10, nameIndex := 491, descriptorIndex := 222, attributes := #[] }, { accessFlags := 74, nameIndex := 29, descriptorIndex := 30, attributes := #[] }, { accessFlags := 74, nameIndex := 154, descriptorIndex := 155, attributes := #[] }, { accessFlags := 10, nameIndex := 217, descriptorIndex := 218, attributes := #[] }, { accessFlags := 10, nameIndex := 221, descriptorIndex := 222, attributes := #[] }, { accessFlags := 8, nameIndex := 562, descriptorIndex := 563, attributes := #[] }])
  fields := #[{ name := "in", type := (.object "java/io/InputStream"), accessFlags := 25, slot := 0, constantValue := 0 }, { name := "out", type := (.object "java/io/PrintStream"), accessFlags := 25, slot := 1, constantValue := 0 }, { name := "err", type := (.object "java/io/PrintStream"), accessFlags := 25, slot := 2, constantValue := 0 }, { name := "initialIn", type := (.object "java/io/InputStream"), accessFlags := 10, slot := 3, constantValue := 0 }, { name := "NEVER", type := .int, accessFlags := 26, slot := 4, constantValue := 0 }, { name := "MAYBE", type := .int, accessFlags := 26, slot := 5, constantValue := 0 }, { name := "allowSecurityManager", type := .int, accessFlags := 10, slot := 6, constantValue := 0 }, { name := "security", type := (.object "java/lang/SecurityManager"), accessFlags := 74, slot := 7, constantValue := 0 }, { name := "notSupportedJnuEncoding", type := (.object "java/lang/String"), accessFlags := 10, slot := 8, constantValue := 0 }, { name := "cons", type := (.object "java/io/Console"), accessFlags := 74, slot := 9, constantValue := 0 }, { name := "initialErrStream", type := (.object "java/io/PrintStream"), accessFlags := 74, slot := 10, constantValue := 0 }, { name := "props", type := (.object "java/util/Properties"), accessFlags := 10, slot := 11, constantValue := 0 }, { name := "lineSeparator", type := (.object "java/lang/String"), accessFlags := 10, slot := 12, constantValue := 0 }, { name := "bootLayer", type := (.object "java/lang/ModuleLayer"), accessFlags := 8, slot := 13, constantValue := 0 }]
  methods := #[k14m0, k14m1]
  instanceTypes := #[]
  staticTypes := #[(.object "java/io/InputStream"), (.object "java/io/PrintStream"), (.object "java/io/PrintStream"), (.object "java/io/InputStream"), .int, .int, .int, (.object "java/lang/SecurityManager"), (.object "java/lang/String"), (.object "java/io/Console"), (.object "java/io/PrintStream"), (.object "java/util/Properties"), (.object "java/lang/String"), (.object "java/lang/ModuleLayer")]
  resolved := Array.replicate 834 none
  statics := none }

def pool15 : Array CpInfo := pool [(2, .class_ 4), (1, u "java/lang/Object"), (0, u "<init>"), (0, u "()V"), (7, .class_ 16), (1, u "java/util/Arrays"), (57, .class_ 76), (1, u "java/util/Arrays$NaturalOrder"), (36, .class_ 115), (1, u "java/util/Arrays$LegacyMergeSort"), (1, u "Z"), (21, u "copyOfRange"), (10, .methodref 151 152), (0, .class_ 153), (0, .nameAndType 154 155), (0, u "java/lang/System"), (0, u "arraycopy"), (0, u "(Ljava/lang/Object;ILjava/lang/Object;II)V"), (148, .methodref 305 306), (0, .class_ 307), (0, .nameAndType 308 309), (0, u "java/lang/Math"), (0, u "min"), (0, u "(II)I"), (29, .methodref 14 340), (0, .nameAndType 341 342), (0, u "copyOfRangeByte"), (0, u "([BII)[B"), (0, .methodref 14 344), (0, .nameAndType 345 346), (0, u "checkLength"), (0, u "(II)V"), (28, .class_ 376), (0, u "java/util/Arrays$ArrayList"), (68, u "$assertionsDisabled"), (269, u "MIN_ARRAY_SORT_GRAN"), (0, u "I"), (2, u "INSERTIONSORT_THRESHOLD"), (255, .class_ 976), (0, u "java/util/Arrays$ArrayItr")] 52

def k15m0 : Method := { name := "<init>", desc := "()V", sig := { parameters := [], returnType := none }, accessFlags := 2, code := none }
def k15c1 : Code := { maxStack := 4, maxLocals := 2, code := jdk_65_method_131_code, exceptionTable := #[], attributes := #[] }
def k15m1 : Method := { name := "checkLength", desc := "(II)V", sig := { parameters := [.int, .int], returnType := none }, accessFlags := 10, code := some k15c1 }
def k15c2 : Code := { maxStack := 3, maxLocals := 3, code := jdk_65_method_132_code, exceptionTable := #[], attributes := #[] }
def k15m2 : Method := { name := "copyOfRange", desc := "([BII)[B", sig := { parameters := [(.array .byte), .int, .int], returnType := some (.array .byte) }, accessFlags := 9, code := some k15c2 }
def k15c3 : Code := { maxStack := 6, maxLocals := 5, code := jdk_65_method_133_code, exceptionTable := #[], attributes := #[] }
def k15m3 : Method := { name := "copyOfRangeByte", desc := "([BII)[B", sig := { parameters := [(.array .byte), .int, .int], returnType := some (.array .byte) }, accessFlags := 10, code := some k15c3 }
/-- java/util/Arrays -/
def k15 : Class := { plain "java/util/Arrays" (some 0) with
  accessFlags := 49
  interfaces := #[]
  cf := some (fileOf pool15 14 #[.nestMembers #[975, 375, 113, 74]] #[{ accessFlags := 2, nameIndex := 5, descriptorIndex := 6, attributes := #[] }, { accessFlags := 10, nameIndex := 345, descriptorIndex := 346, attributes := #[] }, { accessFlags := 9, nameIndex := 139, descriptorIndex := 342, attributes := #[] }, { accessFlags := 10, nameIndex := 341, descriptorIndex := 342, attributes := #[] }] 49 2 #[] #[{ accessFlags := 26, nameIndex := 715, descriptorIndex := 716, attributes := #[] }, { accessFlags := 26, nameIndex := 719, descriptorIndex := 716, attributes := #[] }, { accessFlags := 4120, nameIndex := 445, descriptorIndex := 117, attributes := #[] }])
  fields := #[{ name := "MIN_ARRAY_SORT_GRAN", type := .int, accessFlags := 26, slot := 0, constantValue := 0 }, { name := "INSERTIONSORT_THRESHOLD", type := .int, accessFlags := 26, slot := 1, constantValue := 0 }, { name := "$assertionsDisabled", type := .boolean, accessFlags := 4120, slot := 2, constantValue := 0 }]
  methods := #[k15m0, k15m1, k15m2, k15m3]
  instanceTypes := #[]
  staticTypes := #[.int, .int, .boolean]
  resolved := Array.replicate 1029 none
  statics := none }

def pool16 : Array CpInfo := pool [(1, .class_ 2), (0, u "java/lang/Math"), (1, .class_ 6), (1, u "java/lang/Object"), (0, u "<init>"), (0, u "()V"), (89, .class_ 100), (1, u "java/lang/Math$RandomNumberGeneratorHolder"), (71, u "negativeZeroFloatBits"), (0, u "J"), (2, u "negativeZeroDoubleBits"), (24, u "min"), (43, u "$assertionsDisabled"), (0, u "Z"), (88, u "(II)I"), (2, u "twoToTheDoubleScaleDown"), (0, u "D"), (4, u "twoToTheDoubleScaleUp"), (9, u "E"), (3, u "PI"), (2, u "TAU"), (2, u "DEGREES_TO_RADIANS"), (0, u "RADIANS_TO_DEGREES")] 94

def k16m0 : Method := { name := "<init>", desc := "()V", sig := { parameters := [], returnType := none }, accessFlags := 2, code := none }
def k16c1 : Code := { maxStack := 2, maxLocals := 2, code := jdk_29_method_69_code, exceptionTable := #[], attributes := #[] }
def k16m1 : Method := { name := "min", desc := "(II)I", sig := { parameters := [.int, .int], returnType := some .int }, accessFlags := 9, code := some k16c1 }
/-- java/lang/Math -/
def k16 : Class := { plain "java/lang/Math" (some 0) with
  accessFlags := 49
  interfaces := #[]
  cf := some (fileOf pool16 1 #[.nestMembers #[98]] #[{ accessFlags := 2, nameIndex := 7, descriptorIndex := 8, attributes := #[] }, { accessFlags := 9, nameIndex := 201, descriptorIndex := 335, attributes := #[] }] 49 4 #[] #[{ accessFlags := 25, nameIndex := 354, descriptorIndex := 339, attributes := #[] }, { accessFlags := 25, nameIndex := 358, descriptorIndex := 339, attributes := #[] }, { accessFlags := 25, nameIndex := 361, descriptorIndex := 339, attributes := #[] }, { accessFlags := 26, nameIndex := 364, descriptorIndex := 339, attributes := #[] }, { accessFlags := 26, nameIndex := 365, descriptorIndex := 339, attributes := #[] }, { accessFlags := 26, nameIndex := 172, descriptorIndex := 173, attributes := #[] }, { accessFlags := 26, nameIndex := 176, descriptorIndex := 173, attributes := #[] }, { accessFlags := 8, nameIndex := 344, descriptorIndex := 339, attributes := #[] }, { accessFlags := 8, nameIndex := 338, descriptorIndex := 339, attributes := #[] }, { accessFlags := 4120, nameIndex := 245, descriptorIndex := 246, attributes := #[] }])
  fields := #[{ name := "E", type := .double, accessFlags := 25, slot := 0, constantValue := 0 }, { name := "PI", type := .double, accessFlags := 25, slot := 1, constantValue := 0 }, { name := "TAU", type := .double, accessFlags := 25, slot := 2, constantValue := 0 }, { name := "DEGREES_TO_RADIANS", type := .double, accessFlags := 26, slot := 3, constantValue := 0 }, { name := "RADIANS_TO_DEGREES", type := .double, accessFlags := 26, slot := 4, constantValue := 0 }, { name := "negativeZeroFloatBits", type := .long, accessFlags := 26, slot := 5, constantValue := 0 }, { name := "negativeZeroDoubleBits", type := .long, accessFlags := 26, slot := 6, constantValue := 0 }, { name := "twoToTheDoubleScaleUp", type := .double, accessFlags := 8, slot := 7, constantValue := 0 }, { name := "twoToTheDoubleScaleDown", type := .double, accessFlags := 8, slot := 8, constantValue := 0 }, { name := "$assertionsDisabled", type := .boolean, accessFlags := 4120, slot := 9, constantValue := 0 }]
  methods := #[k16m0, k16m1]
  instanceTypes := #[]
  staticTypes := #[.double, .double, .double, .double, .double, .long, .long, .double, .double, .boolean]
  resolved := Array.replicate 460 none
  statics := none }

def pool17 : Array CpInfo := pool [(1, .class_ 2), (0, u "java/lang/String"), (1, .class_ 6), (1, u "java/lang/Object"), (0, u "<init>"), (0, u "()V"), (0, .methodref 1 10), (0, .nameAndType 11 12), (0, u "checkIndex"), (0, u "(II)V"), (1, .class_ 16), (1, u "java/lang/StringLatin1"), (0, u "inflate"), (2, .class_ 22), (1, u "java/lang/StringUTF16"), (3, .nameAndType 17 27), (0, u "([BI[BII)V"), (25, u "([BI)C"), (67, u "$assertionsDisabled"), (0, u "Z"), (98, .class_ 223), (1, u "java/lang/StringLatin1$LinesSpliterator"), (16, .methodref 20 26), (11, u "charAt"), (137, .class_ 391), (0, u "java/lang/StringLatin1$CharsSpliterator")] 3

def k17m0 : Method := { name := "<init>", desc := "()V", sig := { parameters := [], returnType := none }, accessFlags := 0, code := none }
def k17c1 : Code := { maxStack := 2, maxLocals := 2, code := jdk_43_method_2_code, exceptionTable := #[], attributes := #[] }
def k17m1 : Method := { name := "charAt", desc := "([BI)C", sig := { parameters := [(.array .byte), .int], returnType := some .char }, accessFlags := 9, code := some k17c1 }
def k17c2 : Code := { maxStack := 5, maxLocals := 5, code := jdk_43_method_50_code, exceptionTable := #[], attributes := #[] }
def k17m2 : Method := { name := "inflate", desc := "([BI[BII)V", sig := { parameters := [(.array .byte), .int, (.array .byte), .int, .int], returnType := none }, accessFlags := 9, code := some k17c2 }
/-- java/lang/StringLatin1 -/
def k17 : Class := { plain "java/lang/StringLatin1" (some 0) with
  accessFlags := 48
  interfaces := #[]
  cf := some (fileOf pool17 14 #[.nestMembers #[390, 221]] #[{ accessFlags := 0, nameIndex := 7, descriptorIndex := 8, attributes := #[] }, { accessFlags := 9, nameIndex := 252, descriptorIndex := 53, attributes := #[] }, { accessFlags := 9, nameIndex := 17, descriptorIndex := 27, attributes := #[] }] 48 4 #[] #[{ accessFlags := 4120, nameIndex := 121, descriptorIndex := 122, attributes := #[] }])
  fields := #[{ name := "$assertionsDisabled", type := .boolean, accessFlags := 4120, slot := 0, constantValue := 0 }]
  methods := #[k17m0, k17m1, k17m2]
  instanceTypes := #[]
  staticTypes := #[.boolean]
  resolved := Array.replicate 395 none
  statics := none }

def pool18 : Array CpInfo := pool [(2, .class_ 4), (1, u "java/lang/Object"), (0, u "<init>"), (0, u "()V"), (17, .class_ 26), (1, u "jdk/internal/util/Preconditions"), (6, u "checkIndex"), (15, u "checkFromIndexSize"), (5, .class_ 56), (0, u "jdk/internal/util/Preconditions$4"), (57, .class_ 115), (0, u "jdk/internal/util/Preconditions$1"), (7, u "SIOOBE_FORMATTER"), (0, u "Ljava/util/function/BiFunction;"), (0, .class_ 126), (0, u "jdk/internal/util/Preconditions$2"), (3, u "AIOOBE_FORMATTER"), (0, .class_ 132), (0, u "jdk/internal/util/Preconditions$3"), (3, u "IOOBE_FORMATTER"), (41, u "(IILjava/util/function/BiFunction;)I"), (4, u "(IIILjava/util/function/BiFunction;)I")] 10

def k18m0 : Method := { name := "<init>", desc := "()V", sig := { parameters := [], returnType := none }, accessFlags := 1, code := none }
def k18c1 : Code := { maxStack := 3, maxLocals := 3, code := jdk_41_method_11_code, exceptionTable := #[], attributes := #[] }
def k18m1 : Method := { name := "checkIndex", desc := "(IILjava/util/function/BiFunction;)I", sig := { parameters := [.int, .int, (.object "java/util/function/BiFunction")], returnType := some .int }, accessFlags := 9, code := some k18c1 }
def k18c2 : Code := { maxStack := 4, maxLocals := 4, code := jdk_41_method_13_code, exceptionTable := #[], attributes := #[] }
def k18m2 : Method := { name := "checkFromIndexSize", desc := "(IIILjava/util/function/BiFunction;)I", sig := { parameters := [.int, .int, .int, (.object "java/util/function/BiFunction")], returnType := some .int }, accessFlags := 9, code := some k18c2 }
/-- jdk/internal/util/Preconditions -/
def k18 : Class := { plain "jdk/internal/util/Preconditions" (some 0) with
  accessFlags := 33
  interfaces := #[]
  cf := some (fileOf pool18 24 #[.nestMembers #[55, 131, 125, 114]] #[{ accessFlags := 1, nameIndex := 5, descriptorIndex := 6, attributes := #[] }, { accessFlags := 9, nameIndex := 33, descriptorIndex := 178, attributes := #[] }, { accessFlags := 9, nameIndex := 49, descriptorIndex := 183, attributes := #[] }] 33 2 #[] #[{ accessFlags := 25, nameIndex := 123, descriptorIndex := 124, attributes := #[] }, { accessFlags := 25, nameIndex := 130, descriptorIndex := 124, attributes := #[] }, { accessFlags := 25, nameIndex := 136, descriptorIndex := 124, attributes := #[] }])
  fields := #[{ name := "SIOOBE_FORMATTER", type := (.object "java/util/function/BiFunction"), accessFlags := 25, slot := 0, constantValue := 0 }, { name := "AIOOBE_FORMATTER", type := (.object "java/util/function/BiFunction"), accessFlags := 25, slot := 1, constantValue := 0 }, { name := "IOOBE_FORMATTER", type := (.object "java/util/function/BiFunction"), accessFlags := 25, slot := 2, constantValue := 0 }]
  methods := #[k18m0, k18m1, k18m2]
  instanceTypes := #[]
  staticTypes := #[(.object "java/util/function/BiFunction"), (.object "java/util/function/BiFunction"), (.object "java/util/function/BiFunction")]
  resolved := Array.replicate 194 none
  statics := some 2 }

def pool19 : Array CpInfo := pool [(9, u "<init>"), (6, .class_ 18), (1, u "java/lang/Object"), (0, u "()V"), (1, .class_ 23), (1, u "jdk/internal/util/ArraysSupport"), (0, u "LOG2_ARRAY_LONG_INDEX_SCALE"), (0, u "I"), (2, u "U"), (0, u "Ljdk/internal/misc/Unsafe;"), (8, u "BIG_ENDIAN"), (0, u "Z"), (8, u "LOG2_BYTE_BIT_SIZE"), (4, u "LOG2_ARRAY_INT_INDEX_SCALE"), (54, u "JLA"), (0, u "Ljdk/internal/access/JavaLangAccess;"), (11, u "LOG2_ARRAY_BOOLEAN_INDEX_SCALE"), (9, u "LOG2_ARRAY_BYTE_INDEX_SCALE"), (5, u "LOG2_ARRAY_CHAR_INDEX_SCALE"), (5, u "LOG2_ARRAY_SHORT_INDEX_SCALE"), (18, u "LOG2_ARRAY_FLOAT_INDEX_SCALE"), (24, u "LOG2_ARRAY_DOUBLE_INDEX_SCALE"), (89, u "T_BOOLEAN"), (2, u "T_CHAR"), (1, u "T_FLOAT"), (1, u "T_DOUBLE"), (1, u "T_BYTE"), (1, u "T_SHORT"), (1, u "T_INT"), (1, u "T_LONG"), (1, u "SOFT_MAX_ARRAY_LENGTH")] 83

def k19m0 : Method := { name := "<init>", desc := "()V", sig := { parameters := [], returnType := none }, accessFlags := 2, code := none }
/-- jdk/internal/util/ArraysSupport -/
def k19 : Class := { plain "jdk/internal/util/ArraysSupport" (some 0) with
  accessFlags := 33
  interfaces := #[]
  cf := some (fileOf pool19 21 #[] #[{ accessFlags := 2, nameIndex := 9, descriptorIndex := 19, attributes := #[] }] 33 16 #[] #[{ accessFlags := 24, nameIndex := 28, descriptorIndex := 29, attributes := #[] }, { accessFlags := 26, nameIndex := 38, descriptorIndex := 39, attributes := #[] }, { accessFlags := 25, nameIndex := 121, descriptorIndex := 25, attributes := #[] }, { accessFlags := 25, nameIndex := 131, descriptorIndex := 25, attributes := #[] }, { accessFlags := 25, nameIndex := 137, descriptorIndex := 25, attributes := #[] }, { accessFlags := 25, nameIndex := 143, descriptorIndex := 25, attributes := #[] }, { accessFlags := 25, nameIndex := 53, descriptorIndex := 25, attributes := #[] }, { accessFlags := 25, nameIndex := 24, descriptorIndex := 25, attributes := #[] }, { accessFlags := 25, nameIndex := 162, descriptorIndex := 25, attributes := #[] }, { accessFlags := 25, nameIndex := 187, descriptorIndex := 25, attributes := #[] }, { accessFlags := 26, nameIndex := 48, descriptorIndex := 25, attributes := #[] }, { accessFlags := 25, nameIndex := 277, descriptorIndex := 25, attributes := #[] }, { accessFlags := 25, nameIndex := 280, descriptorIndex := 25, attributes := #[] }, { accessFlags := 25, nameIndex := 282, descriptorIndex := 25, attributes := #[] }, { accessFlags := 25, nameIndex := 284, descriptorIndex := 25, attributes := #[] }, { accessFlags := 25, nameIndex := 286, descriptorIndex := 25, attributes := #[] }, { accessFlags := 25, nameIndex := 288, descriptorIndex := 25, attributes := #[] }, { accessFlags := 25, nameIndex := 290, descriptorIndex := 25, attributes := #[] }, { accessFlags := 25, nameIndex := 292, descriptorIndex := 25, attributes := #[] }, { accessFlags := 26, nameIndex := 108, descriptorIndex := 109, attributes := #[] }, { accessFlags := 25, nameIndex := 294, descriptorIndex := 25, attributes := #[] }])
  fields := #[{ name := "U", type := (.object "jdk/internal/misc/Unsafe"), accessFlags := 24, slot := 0, constantValue := 0 }, { name := "BIG_ENDIAN", type := .boolean, accessFlags := 26, slot := 1, constantValue := 0 }, { name := "LOG2_ARRAY_BOOLEAN_INDEX_SCALE", type := .int, accessFlags := 25, slot := 2, constantValue := 0 }, { name := "LOG2_ARRAY_BYTE_INDEX_SCALE", type := .int, accessFlags := 25, slot := 3, constantValue := 0 }, { name := "LOG2_ARRAY_CHAR_INDEX_SCALE", type := .int, accessFlags := 25, slot := 4, constantValue := 0 }, { name := "LOG2_ARRAY_SHORT_INDEX_SCALE", type := .int, accessFlags := 25, slot := 5, constantValue := 0 }, { name := "LOG2_ARRAY_INT_INDEX_SCALE", type := .int, accessFlags := 25, slot := 6, constantValue := 0 }, { name := "LOG2_ARRAY_LONG_INDEX_SCALE", type := .int, accessFlags := 25, slot := 7, constantValue := 0 }, { name := "LOG2_ARRAY_FLOAT_INDEX_SCALE", type := .int, accessFlags := 25, slot := 8, constantValue := 0 }, { name := "LOG2_ARRAY_DOUBLE_INDEX_SCALE", type := .int, accessFlags := 25, slot := 9, constantValue := 0 }, { name := "LOG2_BYTE_BIT_SIZE", type := .int, accessFlags := 26, slot := 10, constantValue := 0 }, { name := "T_BOOLEAN", type := .int, accessFlags := 25, slot := 11, constantValue := 0 }, { name := "T_CHAR", type := .int, accessFlags := 25, slot := 12, constantValue := 0 }, { name := "T_FLOAT", type := .int, accessFlags := 25, slot := 13, constantValue := 0 }, { name := "T_DOUBLE", type := .int, accessFlags := 25, slot := 14, constantValue := 0 }, { name := "T_BYTE", type := .int, accessFlags := 25, slot := 15, constantValue := 0 }, { name := "T_SHORT", type := .int, accessFlags := 25, slot := 16, constantValue := 0 }, { name := "T_INT", type := .int, accessFlags := 25, slot := 17, constantValue := 0 }, { name := "T_LONG", type := .int, accessFlags := 25, slot := 18, constantValue := 0 }, { name := "JLA", type := (.object "jdk/internal/access/JavaLangAccess"), accessFlags := 26, slot := 19, constantValue := 0 }, { name := "SOFT_MAX_ARRAY_LENGTH", type := .int, accessFlags := 25, slot := 20, constantValue := 0 }]
  methods := #[k19m0]
  instanceTypes := #[]
  staticTypes := #[(.object "jdk/internal/misc/Unsafe"), .boolean, .int, .int, .int, .int, .int, .int, .int, .int, .int, .int, .int, .int, .int, .int, .int, .int, .int, (.object "jdk/internal/access/JavaLangAccess"), .int]
  resolved := Array.replicate 378 none
  statics := none }

def pool20 : Array CpInfo := pool [(1, u "java/lang/Cloneable"), (0, .class_ 1), (0, u "java/lang/Object"), (0, .class_ 3)] 3

/-- java/lang/Cloneable -/
def k20 : Class := { plain "java/lang/Cloneable" (some 0) with
  accessFlags := 1537
  interfaces := #[]
  cf := some (fileOf pool20 2 #[] #[] 1537 4 #[] #[])
  fields := #[]
  methods := #[]
  instanceTypes := #[]
  staticTypes := #[]
  resolved := Array.replicate 8 none
  statics := none }

/-- the primitive byte -/
def k21 : Class := { plain "byte" none with kind := .primitive 'B', accessFlags := 0x411 }
/-- [B -/
def k22 : Class := { plain "[B" (some 0) with kind := .array 21 .byte, interfaces := #[20, 2], accessFlags := 1041 }

/-- the primitive char -/
def k23 : Class := { plain "char" none with kind := .primitive 'C', accessFlags := 0x411 }
/-- [C -/
def k24 : Class := { plain "[C" (some 0) with kind := .array 23 .char, interfaces := #[20, 2], accessFlags := 1041 }

/-- the primitive int -/
def k25 : Class := { plain "int" none with kind := .primitive 'I', accessFlags := 0x411 }
/-- [I -/
def k26 : Class := { plain "[I" (some 0) with kind := .array 25 .int, interfaces := #[20, 2], accessFlags := 1041 }

def heap : Heap := #[{ cls := 7, slots := #[.long 0, .int 1, .null, .int 0, .null, .int 0, .int 0], vm := .statics 7 },
  { cls := 8, slots := #[.int 0, .int 8, .int 0, .int 1], vm := .statics 8 },
  { cls := 18, slots := #[.null, .null, .null], vm := .statics 18 }]
def classes : Array Class := #[k0, k1, k2, k3, k4, k5, k6, k7, k8, k9, k10, k11, k12, k13, k14, k15, k16, k17, k18, k19, k20, k21, k22, k23, k24, k25, k26]
def interned : List (Array UInt16 × Addr) := []
def slotsUsed : Nat := 14
def theMethod : MethodId := ⟨1, 2⟩
def args0 : Array Value := #[.int 17039425, .int 131138, .int 513]
def aboutOver (below : List Frame) : State where
  vm := { classes := classes, interned := interned.toArray }
  heap := heap
  slotsUsed := slotsUsed
  threads := #[{ frames := .invoking theMethod args0 :: below }]
def below0 : List Frame := [.native { method := ⟨0, 0⟩, args := #[] }]
def about1 : State := aboutOver below0
def p0 : Program := .bare "" "" ""
def e0 : Env := launch0.env 0 0 0
theorem w_frames : about1.frames = Frame.invoking theMethod args0 :: below0 := rfl
set_option maxRecDepth 65536 in
theorem w_args : argsFit about1.vm theMethod args0 = true := by decide +kernel
set_option maxRecDepth 65536 in
theorem w_heap : heapFits about1 = true := by decide +kernel
set_option maxRecDepth 65536 in
theorem w_runnable : about1.curStatus? = some .runnable := by decide +kernel
set_option maxRecDepth 65536 in
theorem w_alone : about1.alone = true := by decide +kernel
set_option maxRecDepth 65536 in
theorem w_named : about1.methodNamed? x = some theMethod := by decide +kernel
set_option maxRecDepth 65536 in
theorem w_hears : about1.hears theMethod below0 = true := by decide +kernel
set_option maxRecDepth 65536 in
theorem w_ripe : about1.ripe theMethod args0 below0 = true := by decide +kernel
theorem w_running : about1.status = .running := rfl
set_option maxRecDepth 65536 in
theorem w_room : about1.hasRoom e0.platform room_1 = true :=
  launch0.hasRoom_least _ room_1 (by decide +kernel) (by decide +kernel) (by decide +kernel) (by decide +kernel) (by decide +kernel) (by decide +kernel)
theorem allAtoms_all (ts : List Jvm.Cond) (a : Array Jvm.Value) (st : Jvm.State) : (allAtoms ts).before a st = ts.all (fun c => c.before a st) := by
  induction ts with
  | nil => rfl
  | cons c t ih =>
    show (Jvm.Cond.and c (allAtoms t)).before a st = _
    rw [Jvm.Cond.before_and, ih, List.all_cons]
def words1 : List Jvm.Cond := Jvm.Cond.code x code maxLocals ret :: tables_1
/-- a 'code' word, met by the world's own term for the bytes: nothing is compared byte by byte -/
theorem code_word {y : MethodName} {bytes : ByteArray} {mx : Nat} {rt : Option FieldType} {a : Array Value} {s : State} {m : MethodId} {meth : Method} {c : Code} (h1 : s.methodNamed? y = some m) (h2 : s.vm.method? m = some meth) (h3 : meth.code = some c) (h4 : c.code = bytes)
    (h5 : (c.maxLocals == mx && c.exceptionTable.isEmpty && decide (c.maxStack ≤ mostOperands) && decide (meth.sig.returnType = rt) && !meth.locks && decide (parseMethodDescriptor y.desc = some meth.sig)) = true) : (Jvm.Cond.code y bytes mx rt).before a s = true := by
  simp only [Bool.and_eq_true, beq_iff_eq, Bool.not_eq_true', decide_eq_true_eq] at h5
  obtain ⟨⟨⟨⟨⟨g1, g2⟩, g3⟩, g4⟩, g5⟩, g6⟩ := h5
  simp [Cond.before, Cond.holds, Cond.value, h1, h2, h3, h4, g1, g2, g3, g4, g5, g6]
def isCode : Jvm.Cond → Bool
  | .code _ _ _ _ => true
  | _ => false
theorem all_split {L : List Jvm.Cond} {P : Jvm.Cond → Bool} (h1 : L.all (fun c => isCode c || P c) = true) (h2 : ∀ c ∈ L.filter isCode, P c = true) : L.all P = true := by
  refine List.all_eq_true.mpr fun c hc => ?_
  have h := List.all_eq_true.mp h1 c hc
  rcases Bool.eq_false_or_eq_true (isCode c) with hi | hi
  · exact h2 c (List.mem_filter.mpr ⟨hc, hi⟩)
  · simpa [hi] using h
set_option maxRecDepth 65536 in
theorem w_c0 : (Jvm.Cond.code x code maxLocals ret).before args0 about1 = true := code_word (m := ⟨1, 2⟩) (meth := k1m2) (c := k1c2) (by decide +kernel) rfl rfl rfl (by decide +kernel)
set_option maxRecDepth 65536 in
theorem w_c1 : (Jvm.Cond.code ({ cls := "com/example/goldenrod/goldenrod/ProblemToStringPinLaw", name := "mk", desc := "(II)Ljava/lang/String;" } : Jvm.MethodName) method_2_code (5 : Nat) (Option.some (Jvm.ClassFile.FieldType.object "java/lang/String"))).before args0 about1 = true := code_word (m := ⟨1, 1⟩) (meth := k1m1) (c := k1c1) (by decide +kernel) rfl rfl rfl (by decide +kernel)
set_option maxRecDepth 65536 in
theorem w_c2 : (Jvm.Cond.code ({ cls := "java/lang/String", name := "<init>", desc := "([C)V" } : Jvm.MethodName) jdk_42_method_3_code (2 : Nat) (Option.none : Option Jvm.ClassFile.FieldType)).before args0 about1 = true := code_word (m := ⟨7, 1⟩) (meth := k7m1) (c := k7c1) (by decide +kernel) rfl rfl rfl (by decide +kernel)
set_option maxRecDepth 65536 in
theorem w_c3 : (Jvm.Cond.code ({ cls := "java/lang/String", name := "<init>", desc := "([CIILjava/lang/Void;)V" } : Jvm.MethodName) jdk_42_method_149_code (6 : Nat) (Option.none : Option Jvm.ClassFile.FieldType)).before args0 about1 = true := code_word (m := ⟨7, 6⟩) (meth := k7m6) (c := k7c6) (by decide +kernel) rfl rfl rfl (by decide +kernel)
set_option maxRecDepth 65536 in
theorem w_c4 : (Jvm.Cond.code ({ cls := "java/lang/Object", name := "<init>", desc := "()V" } : Jvm.MethodName) object_method_1_code (1 : Nat) (Option.none : Option Jvm.ClassFile.FieldType)).before args0 about1 = true := code_word (m := ⟨0, 0⟩) (meth := k0m0) (c := k0c0) (by decide +kernel) rfl rfl rfl (by decide +kernel)
set_option maxRecDepth 65536 in
theorem w_c5 : (Jvm.Cond.code ({ cls := "java/lang/StringUTF16", name := "compress", desc := "([CII)[B" } : Jvm.MethodName) jdk_52_method_16_code (6 : Nat) (Option.some (Jvm.ClassFile.FieldType.array Jvm.ClassFile.FieldType.byte))).before args0 about1 = true := code_word (m := ⟨8, 8⟩) (meth := k8m8) (c := k8c8) (by decide +kernel) rfl rfl rfl (by decide +kernel)
set_option maxRecDepth 65536 in
theorem w_c6 : (Jvm.Cond.code ({ cls := "java/lang/StringUTF16", name := "compress", desc := "([CI[BII)I" } : Jvm.MethodName) jdk_52_method_21_code (7 : Nat) (Option.some Jvm.ClassFile.FieldType.int)).before args0 about1 = true := code_word (m := ⟨8, 9⟩) (meth := k8m9) (c := k8c9) (by decide +kernel) rfl rfl rfl (by decide +kernel)
set_option maxRecDepth 65536 in
theorem w_c7 : (Jvm.Cond.code ({ cls := "java/lang/StringUTF16", name := "coderFromArrayLen", desc := "([BI)B" } : Jvm.MethodName) jdk_52_method_15_code (2 : Nat) (Option.some Jvm.ClassFile.FieldType.byte)).before args0 about1 = true := code_word (m := ⟨8, 7⟩) (meth := k8m7) (c := k8c7) (by decide +kernel) rfl rfl rfl (by decide +kernel)
set_option maxRecDepth 65536 in
theorem w_c8 : (Jvm.Cond.code ({ cls := "com/example/goldenrod/goldenrod/InvalidRulesException$Problem", name := "<init>", desc := "(Ljava/lang/String;Ljava/lang/String;)V" } : Jvm.MethodName) prog_4_method_1_code (3 : Nat) (Option.none : Option Jvm.ClassFile.FieldType)).before args0 about1 = true := code_word (m := ⟨10, 0⟩) (meth := k10m0) (c := k10c0) (by decide +kernel) rfl rfl rfl (by decide +kernel)
set_option maxRecDepth 65536 in
theorem w_c9 : (Jvm.Cond.code ({ cls := "java/lang/Record", name := "<init>", desc := "()V" } : Jvm.MethodName) jdk_30_method_1_code (1 : Nat) (Option.none : Option Jvm.ClassFile.FieldType)).before args0 about1 = true := code_word (m := ⟨9, 0⟩) (meth := k9m0) (c := k9c0) (by decide +kernel) rfl rfl rfl (by decide +kernel)
set_option maxRecDepth 65536 in
theorem w_c10 : (Jvm.Cond.code ({ cls := "com/example/goldenrod/goldenrod/InvalidRulesException$Problem", name := "toString", desc := "()Ljava/lang/String;" } : Jvm.MethodName) prog_4_method_2_code (1 : Nat) (Option.some (Jvm.ClassFile.FieldType.object "java/lang/String"))).before args0 about1 = true := code_word (m := ⟨10, 1⟩) (meth := k10m1) (c := k10c1) (by decide +kernel) rfl rfl rfl (by decide +kernel)
set_option maxRecDepth 65536 in
theorem w_c11 : (Jvm.Cond.code ({ cls := "java/lang/StringBuilder", name := "<init>", desc := "()V" } : Jvm.MethodName) jdk_67_method_1_code (1 : Nat) (Option.none : Option Jvm.ClassFile.FieldType)).before args0 about1 = true := code_word (m := ⟨13, 0⟩) (meth := k13m0) (c := k13c0) (by decide +kernel) rfl rfl rfl (by decide +kernel)
set_option maxRecDepth 65536 in
theorem w_c12 : (Jvm.Cond.code ({ cls := "java/lang/AbstractStringBuilder", name := "<init>", desc := "(I)V" } : Jvm.MethodName) jdk_68_method_2_code (2 : Nat) (Option.none : Option Jvm.ClassFile.FieldType)).before args0 about1 = true := code_word (m := ⟨12, 1⟩) (meth := k12m1) (c := k12c1) (by decide +kernel) rfl rfl rfl (by decide +kernel)
set_option maxRecDepth 65536 in
theorem w_c13 : (Jvm.Cond.code ({ cls := "java/lang/StringBuilder", name := "append", desc := "(Ljava/lang/String;)Ljava/lang/StringBuilder;" } : Jvm.MethodName) jdk_67_method_7_code (2 : Nat) (Option.some (Jvm.ClassFile.FieldType.object "java/lang/StringBuilder"))).before args0 about1 = true := code_word (m := ⟨13, 1⟩) (meth := k13m1) (c := k13c1) (by decide +kernel) rfl rfl rfl (by decide +kernel)
set_option maxRecDepth 65536 in
theorem w_c14 : (Jvm.Cond.code ({ cls := "java/lang/AbstractStringBuilder", name := "append", desc := "(Ljava/lang/String;)Ljava/lang/AbstractStringBuilder;" } : Jvm.MethodName) jdk_68_method_22_code (3 : Nat) (Option.some (Jvm.ClassFile.FieldType.object "java/lang/AbstractStringBuilder"))).before args0 about1 = true := code_word (m := ⟨12, 5⟩) (meth := k12m5) (c := k12c5) (by decide +kernel) rfl rfl rfl (by decide +kernel)
set_option maxRecDepth 65536 in
theorem w_c15 : (Jvm.Cond.code ({ cls := "java/lang/String", name := "length", desc := "()I" } : Jvm.MethodName) jdk_42_method_54_code (1 : Nat) (Option.some Jvm.ClassFile.FieldType.int)).before args0 about1 = true := code_word (m := ⟨7, 3⟩) (meth := k7m3) (c := k7c3) (by decide +kernel) rfl rfl rfl (by decide +kernel)
set_option maxRecDepth 65536 in
theorem w_c16 : (Jvm.Cond.code ({ cls := "java/lang/String", name := "coder", desc := "()B" } : Jvm.MethodName) jdk_42_method_152_code (1 : Nat) (Option.some Jvm.ClassFile.FieldType.byte)).before args0 about1 = true := code_word (m := ⟨7, 8⟩) (meth := k7m8) (c := k7c8) (by decide +kernel) rfl rfl rfl (by decide +kernel)
set_option maxRecDepth 65536 in
theorem w_c17 : (Jvm.Cond.code ({ cls := "java/lang/AbstractStringBuilder", name := "ensureCapacityInternal", desc := "(I)V" } : Jvm.MethodName) jdk_68_method_9_code (3 : Nat) (Option.none : Option Jvm.ClassFile.FieldType)).before args0 about1 = true := code_word (m := ⟨12, 3⟩) (meth := k12m3) (c := k12c3) (by decide +kernel) rfl rfl rfl (by decide +kernel)
set_option maxRecDepth 65536 in
theorem w_c18 : (Jvm.Cond.code ({ cls := "java/lang/AbstractStringBuilder", name := "putStringAt", desc := "(ILjava/lang/String;)V" } : Jvm.MethodName) jdk_68_method_73_code (3 : Nat) (Option.none : Option Jvm.ClassFile.FieldType)).before args0 about1 = true := code_word (m := ⟨12, 9⟩) (meth := k12m9) (c := k12c9) (by decide +kernel) rfl rfl rfl (by decide +kernel)
set_option maxRecDepth 65536 in
theorem w_c19 : (Jvm.Cond.code ({ cls := "java/lang/AbstractStringBuilder", name := "inflateIfNeededFor", desc := "(Ljava/lang/String;)V" } : Jvm.MethodName) jdk_68_method_71_code (2 : Nat) (Option.none : Option Jvm.ClassFile.FieldType)).before args0 about1 = true := code_word (m := ⟨12, 8⟩) (meth := k12m8) (c := k12c8) (by decide +kernel) rfl rfl rfl (by decide +kernel)
set_option maxRecDepth 65536 in
theorem w_c20 : (Jvm.Cond.code ({ cls := "java/lang/String", name := "getBytes", desc := "([BIB)V" } : Jvm.MethodName) jdk_42_method_147_code (4 : Nat) (Option.none : Option Jvm.ClassFile.FieldType)).before args0 about1 = true := code_word (m := ⟨7, 5⟩) (meth := k7m5) (c := k7c5) (by decide +kernel) rfl rfl rfl (by decide +kernel)
set_option maxRecDepth 65536 in
theorem w_c21 : (Jvm.Cond.code ({ cls := "java/lang/StringBuilder", name := "toString", desc := "()Ljava/lang/String;" } : Jvm.MethodName) jdk_67_method_42_code (1 : Nat) (Option.some (Jvm.ClassFile.FieldType.object "java/lang/String"))).before args0 about1 = true := code_word (m := ⟨13, 2⟩) (meth := k13m2) (c := k13c2) (by decide +kernel) rfl rfl rfl (by decide +kernel)
set_option maxRecDepth 65536 in
theorem w_c22 : (Jvm.Cond.code ({ cls := "java/lang/String", name := "<init>", desc := "(Ljava/lang/StringBuilder;)V" } : Jvm.MethodName) jdk_42_method_53_code (2 : Nat) (Option.none : Option Jvm.ClassFile.FieldType)).before args0 about1 = true := code_word (m := ⟨7, 2⟩) (meth := k7m2) (c := k7c2) (by decide +kernel) rfl rfl rfl (by decide +kernel)
set_option maxRecDepth 65536 in
theorem w_c23 : (Jvm.Cond.code ({ cls := "java/lang/String", name := "<init>", desc := "(Ljava/lang/AbstractStringBuilder;Ljava/lang/Void;)V" } : Jvm.MethodName) jdk_42_method_150_code (5 : Nat) (Option.none : Option Jvm.ClassFile.FieldType)).before args0 about1 = true := code_word (m := ⟨7, 7⟩) (meth := k7m7) (c := k7c7) (by decide +kernel) rfl rfl rfl (by decide +kernel)
set_option maxRecDepth 65536 in
theorem w_c24 : (Jvm.Cond.code ({ cls := "java/lang/AbstractStringBuilder", name := "getValue", desc := "()[B" } : Jvm.MethodName) jdk_68_method_64_code (1 : Nat) (Option.some (Jvm.ClassFile.FieldType.array Jvm.ClassFile.FieldType.byte))).before args0 about1 = true := code_word (m := ⟨12, 6⟩) (meth := k12m6) (c := k12c6) (by decide +kernel) rfl rfl rfl (by decide +kernel)
set_option maxRecDepth 65536 in
theorem w_c25 : (Jvm.Cond.code ({ cls := "java/lang/StringBuilder", name := "length", desc := "()I" } : Jvm.MethodName) jdk_67_method_93_code (1 : Nat) (Option.some Jvm.ClassFile.FieldType.int)).before args0 about1 = true := code_word (m := ⟨13, 3⟩) (meth := k13m3) (c := k13c3) (by decide +kernel) rfl rfl rfl (by decide +kernel)
set_option maxRecDepth 65536 in
theorem w_c26 : (Jvm.Cond.code ({ cls := "java/lang/AbstractStringBuilder", name := "length", desc := "()I" } : Jvm.MethodName) jdk_68_method_6_code (1 : Nat) (Option.some Jvm.ClassFile.FieldType.int)).before args0 about1 = true := code_word (m := ⟨12, 2⟩) (meth := k12m2) (c := k12c2) (by decide +kernel) rfl rfl rfl (by decide +kernel)
set_option maxRecDepth 65536 in
theorem w_c27 : (Jvm.Cond.code ({ cls := "java/lang/AbstractStringBuilder", name := "isLatin1", desc := "()Z" } : Jvm.MethodName) jdk_68_method_68_code (1 : Nat) (Option.some Jvm.ClassFile.FieldType.boolean)).before args0 about1 = true := code_word (m := ⟨12, 7⟩) (meth := k12m7) (c := k12c7) (by decide +kernel) rfl rfl rfl (by decide +kernel)
set_option maxRecDepth 65536 in
theorem w_c28 : (Jvm.Cond.code ({ cls := "java/util/Arrays", name := "copyOfRange", desc := "([BII)[B" } : Jvm.MethodName) jdk_65_method_132_code (3 : Nat) (Option.some (Jvm.ClassFile.FieldType.array Jvm.ClassFile.FieldType.byte))).before args0 about1 = true := code_word (m := ⟨15, 2⟩) (meth := k15m2) (c := k15c2) (by decide +kernel) rfl rfl rfl (by decide +kernel)
set_option maxRecDepth 65536 in
theorem w_c29 : (Jvm.Cond.code ({ cls := "java/util/Arrays", name := "copyOfRangeByte", desc := "([BII)[B" } : Jvm.MethodName) jdk_65_method_133_code (5 : Nat) (Option.some (Jvm.ClassFile.FieldType.array Jvm.ClassFile.FieldType.byte))).before args0 about1 = true := code_word (m := ⟨15, 3⟩) (meth := k15m3) (c := k15c3) (by decide +kernel) rfl rfl rfl (by decide +kernel)
set_option maxRecDepth 65536 in
theorem w_c30 : (Jvm.Cond.code ({ cls := "java/util/Arrays", name := "checkLength", desc := "(II)V" } : Jvm.MethodName) jdk_65_method_131_code (2 : Nat) (Option.none : Option Jvm.ClassFile.FieldType)).before args0 about1 = true := code_word (m := ⟨15, 1⟩) (meth := k15m1) (c := k15c1) (by decide +kernel) rfl rfl rfl (by decide +kernel)
set_option maxRecDepth 65536 in
theorem w_c31 : (Jvm.Cond.code ({ cls := "java/lang/Math", name := "min", desc := "(II)I" } : Jvm.MethodName) jdk_29_method_69_code (2 : Nat) (Option.some Jvm.ClassFile.FieldType.int)).before args0 about1 = true := code_word (m := ⟨16, 1⟩) (meth := k16m1) (c := k16c1) (by decide +kernel) rfl rfl rfl (by decide +kernel)
set_option maxRecDepth 65536 in
theorem w_c32 : (Jvm.Cond.code ({ cls := "java/lang/String", name := "charAt", desc := "(I)C" } : Jvm.MethodName) jdk_42_method_56_code (2 : Nat) (Option.some Jvm.ClassFile.FieldType.char)).before args0 about1 = true := code_word (m := ⟨7, 4⟩) (meth := k7m4) (c := k7c4) (by decide +kernel) rfl rfl rfl (by decide +kernel)
set_option maxRecDepth 65536 in
theorem w_c33 : (Jvm.Cond.code ({ cls := "java/lang/String", name := "isLatin1", desc := "()Z" } : Jvm.MethodName) jdk_42_method_154_code (1 : Nat) (Option.some Jvm.ClassFile.FieldType.boolean)).before args0 about1 = true := code_word (m := ⟨7, 9⟩) (meth := k7m9) (c := k7c9) (by decide +kernel) rfl rfl rfl (by decide +kernel)
set_option maxRecDepth 65536 in
theorem w_c34 : (Jvm.Cond.code ({ cls := "java/lang/StringLatin1", name := "charAt", desc := "([BI)C" } : Jvm.MethodName) jdk_43_method_2_code (2 : Nat) (Option.some Jvm.ClassFile.FieldType.char)).before args0 about1 = true := code_word (m := ⟨17, 1⟩) (meth := k17m1) (c := k17c1) (by decide +kernel) rfl rfl rfl (by decide +kernel)
set_option maxRecDepth 65536 in
theorem w_c35 : (Jvm.Cond.code ({ cls := "java/lang/String", name := "checkIndex", desc := "(II)V" } : Jvm.MethodName) jdk_42_method_155_code (2 : Nat) (Option.none : Option Jvm.ClassFile.FieldType)).before args0 about1 = true := code_word (m := ⟨7, 10⟩) (meth := k7m10) (c := k7c10) (by decide +kernel) rfl rfl rfl (by decide +kernel)
set_option maxRecDepth 65536 in
theorem w_c36 : (Jvm.Cond.code ({ cls := "jdk/internal/util/Preconditions", name := "checkIndex", desc := "(IILjava/util/function/BiFunction;)I" } : Jvm.MethodName) jdk_41_method_11_code (3 : Nat) (Option.some Jvm.ClassFile.FieldType.int)).before args0 about1 = true := code_word (m := ⟨18, 1⟩) (meth := k18m1) (c := k18c1) (by decide +kernel) rfl rfl rfl (by decide +kernel)
set_option maxRecDepth 65536 in
theorem w_c37 : (Jvm.Cond.code ({ cls := "java/lang/StringUTF16", name := "toBytes", desc := "([CII)[B" } : Jvm.MethodName) jdk_52_method_14_code (5 : Nat) (Option.some (Jvm.ClassFile.FieldType.array Jvm.ClassFile.FieldType.byte))).before args0 about1 = true := code_word (m := ⟨8, 6⟩) (meth := k8m6) (c := k8c6) (by decide +kernel) rfl rfl rfl (by decide +kernel)
set_option maxRecDepth 65536 in
theorem w_c38 : (Jvm.Cond.code ({ cls := "java/lang/StringUTF16", name := "newBytesFor", desc := "(I)[B" } : Jvm.MethodName) jdk_52_method_2_code (1 : Nat) (Option.some (Jvm.ClassFile.FieldType.array Jvm.ClassFile.FieldType.byte))).before args0 about1 = true := code_word (m := ⟨8, 1⟩) (meth := k8m1) (c := k8c1) (by decide +kernel) rfl rfl rfl (by decide +kernel)
set_option maxRecDepth 65536 in
theorem w_c39 : (Jvm.Cond.code ({ cls := "java/lang/StringUTF16", name := "newBytesLength", desc := "(I)I" } : Jvm.MethodName) jdk_52_method_3_code (1 : Nat) (Option.some Jvm.ClassFile.FieldType.int)).before args0 about1 = true := code_word (m := ⟨8, 2⟩) (meth := k8m2) (c := k8c2) (by decide +kernel) rfl rfl rfl (by decide +kernel)
set_option maxRecDepth 65536 in
theorem w_c40 : (Jvm.Cond.code ({ cls := "java/lang/StringUTF16", name := "putChar", desc := "([BII)V" } : Jvm.MethodName) jdk_52_method_4_code (3 : Nat) (Option.none : Option Jvm.ClassFile.FieldType)).before args0 about1 = true := code_word (m := ⟨8, 3⟩) (meth := k8m3) (c := k8c3) (by decide +kernel) rfl rfl rfl (by decide +kernel)
set_option maxRecDepth 65536 in
theorem w_c41 : (Jvm.Cond.code ({ cls := "java/lang/StringUTF16", name := "getChar", desc := "([BI)C" } : Jvm.MethodName) jdk_52_method_5_code (2 : Nat) (Option.some Jvm.ClassFile.FieldType.char)).before args0 about1 = true := code_word (m := ⟨8, 4⟩) (meth := k8m4) (c := k8c4) (by decide +kernel) rfl rfl rfl (by decide +kernel)
set_option maxRecDepth 65536 in
theorem w_c42 : (Jvm.Cond.code ({ cls := "java/lang/AbstractStringBuilder", name := "inflate", desc := "()V" } : Jvm.MethodName) jdk_68_method_11_code (2 : Nat) (Option.none : Option Jvm.ClassFile.FieldType)).before args0 about1 = true := code_word (m := ⟨12, 4⟩) (meth := k12m4) (c := k12c4) (by decide +kernel) rfl rfl rfl (by decide +kernel)
set_option maxRecDepth 65536 in
theorem w_c43 : (Jvm.Cond.code ({ cls := "java/lang/StringLatin1", name := "inflate", desc := "([BI[BII)V" } : Jvm.MethodName) jdk_43_method_50_code (5 : Nat) (Option.none : Option Jvm.ClassFile.FieldType)).before args0 about1 = true := code_word (m := ⟨17, 2⟩) (meth := k17m2) (c := k17c2) (by decide +kernel) rfl rfl rfl (by decide +kernel)
set_option maxRecDepth 65536 in
theorem w_c44 : (Jvm.Cond.code ({ cls := "java/lang/StringUTF16", name := "inflate", desc := "([BI[BII)V" } : Jvm.MethodName) jdk_52_method_86_code (6 : Nat) (Option.none : Option Jvm.ClassFile.FieldType)).before args0 about1 = true := code_word (m := ⟨8, 11⟩) (meth := k8m11) (c := k8c11) (by decide +kernel) rfl rfl rfl (by decide +kernel)
set_option maxRecDepth 65536 in
theorem w_c45 : (Jvm.Cond.code ({ cls := "java/lang/StringUTF16", name := "checkBoundsOffCount", desc := "(II[B)V" } : Jvm.MethodName) jdk_52_method_94_code (3 : Nat) (Option.none : Option Jvm.ClassFile.FieldType)).before args0 about1 = true := code_word (m := ⟨8, 13⟩) (meth := k8m13) (c := k8c13) (by decide +kernel) rfl rfl rfl (by decide +kernel)
set_option maxRecDepth 65536 in
theorem w_c46 : (Jvm.Cond.code ({ cls := "java/lang/StringUTF16", name := "length", desc := "([B)I" } : Jvm.MethodName) jdk_52_method_6_code (1 : Nat) (Option.some Jvm.ClassFile.FieldType.int)).before args0 about1 = true := code_word (m := ⟨8, 5⟩) (meth := k8m5) (c := k8c5) (by decide +kernel) rfl rfl rfl (by decide +kernel)
set_option maxRecDepth 65536 in
theorem w_c47 : (Jvm.Cond.code ({ cls := "java/lang/String", name := "checkBoundsOffCount", desc := "(III)I" } : Jvm.MethodName) jdk_42_method_157_code (3 : Nat) (Option.some Jvm.ClassFile.FieldType.int)).before args0 about1 = true := code_word (m := ⟨7, 11⟩) (meth := k7m11) (c := k7c11) (by decide +kernel) rfl rfl rfl (by decide +kernel)
set_option maxRecDepth 65536 in
theorem w_c48 : (Jvm.Cond.code ({ cls := "jdk/internal/util/Preconditions", name := "checkFromIndexSize", desc := "(IIILjava/util/function/BiFunction;)I" } : Jvm.MethodName) jdk_41_method_13_code (4 : Nat) (Option.some Jvm.ClassFile.FieldType.int)).before args0 about1 = true := code_word (m := ⟨18, 2⟩) (meth := k18m2) (c := k18c2) (by decide +kernel) rfl rfl rfl (by decide +kernel)
set_option maxRecDepth 65536 in
theorem w_c49 : (Jvm.Cond.code ({ cls := "java/lang/StringUTF16", name := "charAt", desc := "([BI)C" } : Jvm.MethodName) jdk_52_method_83_code (2 : Nat) (Option.some Jvm.ClassFile.FieldType.char)).before args0 about1 = true := code_word (m := ⟨8, 10⟩) (meth := k8m10) (c := k8c10) (by decide +kernel) rfl rfl rfl (by decide +kernel)
set_option maxRecDepth 65536 in
theorem w_c50 : (Jvm.Cond.code ({ cls := "java/lang/StringUTF16", name := "checkIndex", desc := "(I[B)V" } : Jvm.MethodName) jdk_52_method_91_code (2 : Nat) (Option.none : Option Jvm.ClassFile.FieldType)).before args0 about1 = true := code_word (m := ⟨8, 12⟩) (meth := k8m12) (c := k8c12) (by decide +kernel) rfl rfl rfl (by decide +kernel)
def codes1 : List Jvm.Cond := [Jvm.Cond.code x code maxLocals ret, Jvm.Cond.code ({ cls := "com/example/goldenrod/goldenrod/ProblemToStringPinLaw", name := "mk", desc := "(II)Ljava/lang/String;" } : Jvm.MethodName) method_2_code (5 : Nat) (Option.some (Jvm.ClassFile.FieldType.object "java/lang/String")), Jvm.Cond.code ({ cls := "java/lang/String", name := "<init>", desc := "([C)V" } : Jvm.MethodName) jdk_42_method_3_code (2 : Nat) (Option.none : Option Jvm.ClassFile.FieldType), Jvm.Cond.code ({ cls := "java/lang/String", name := "<init>", desc := "([CIILjava/lang/Void;)V" } : Jvm.MethodName) jdk_42_method_149_code (6 : Nat) (Option.none : Option Jvm.ClassFile.FieldType), Jvm.Cond.code ({ cls := "java/lang/Object", name := "<init>", desc := "()V" } : Jvm.MethodName) object_method_1_code (1 : Nat) (Option.none : Option Jvm.ClassFile.FieldType), Jvm.Cond.code ({ cls := "java/lang/StringUTF16", name := "compress", desc := "([CII)[B" } : Jvm.MethodName) jdk_52_method_16_code (6 : Nat) (Option.some (Jvm.ClassFile.FieldType.array Jvm.ClassFile.FieldType.byte)), Jvm.Cond.code ({ cls := "java/lang/StringUTF16", name := "compress", desc := "([CI[BII)I" } : Jvm.MethodName) jdk_52_method_21_code (7 : Nat) (Option.some Jvm.ClassFile.FieldType.int), Jvm.Cond.code ({ cls := "java/lang/StringUTF16", name := "coderFromArrayLen", desc := "([BI)B" } : Jvm.MethodName) jdk_52_method_15_code (2 : Nat) (Option.some Jvm.ClassFile.FieldType.byte), Jvm.Cond.code ({ cls := "com/example/goldenrod/goldenrod/InvalidRulesException$Problem", name := "<init>", desc := "(Ljava/lang/String;Ljava/lang/String;)V" } : Jvm.MethodName) prog_4_method_1_code (3 : Nat) (Option.none : Option Jvm.ClassFile.FieldType), Jvm.Cond.code ({ cls := "java/lang/Record", name := "<init>", desc := "()V" } : Jvm.MethodName) jdk_30_method_1_code (1 : Nat) (Option.none : Option Jvm.ClassFile.FieldType), Jvm.Cond.code ({ cls := "com/example/goldenrod/goldenrod/InvalidRulesException$Problem", name := "toString", desc := "()Ljava/lang/String;" } : Jvm.MethodName) prog_4_method_2_code (1 : Nat) (Option.some (Jvm.ClassFile.FieldType.object "java/lang/String")), Jvm.Cond.code ({ cls := "java/lang/StringBuilder", name := "<init>", desc := "()V" } : Jvm.MethodName) jdk_67_method_1_code (1 : Nat) (Option.none : Option Jvm.ClassFile.FieldType), Jvm.Cond.code ({ cls := "java/lang/AbstractStringBuilder", name := "<init>", desc := "(I)V" } : Jvm.MethodName) jdk_68_method_2_code (2 : Nat) (Option.none : Option Jvm.ClassFile.FieldType), Jvm.Cond.code ({ cls := "java/lang/StringBuilder", name := "append", desc := "(Ljava/lang/String;)Ljava/lang/StringBuilder;" } : Jvm.MethodName) jdk_67_method_7_code (2 : Nat) (Option.some (Jvm.ClassFile.FieldType.object "java/lang/StringBuilder")), Jvm.Cond.code ({ cls := "java/lang/AbstractStringBuilder", name := "append", desc := "(Ljava/lang/String;)Ljava/lang/AbstractStringBuilder;" } : Jvm.MethodName) jdk_68_method_22_code (3 : Nat) (Option.some (Jvm.ClassFile.FieldType.object "java/lang/AbstractStringBuilder")), Jvm.Cond.code ({ cls := "java/lang/String", name := "length", desc := "()I" } : Jvm.MethodName) jdk_42_method_54_code (1 : Nat) (Option.some Jvm.ClassFile.FieldType.int), Jvm.Cond.code ({ cls := "java/lang/String", name := "coder", desc := "()B" } : Jvm.MethodName) jdk_42_method_152_code (1 : Nat) (Option.some Jvm.ClassFile.FieldType.byte), Jvm.Cond.code ({ cls := "java/lang/AbstractStringBuilder", name := "ensureCapacityInternal", desc := "(I)V" } : Jvm.MethodName) jdk_68_method_9_code (3 : Nat) (Option.none : Option Jvm.ClassFile.FieldType), Jvm.Cond.code ({ cls := "java/lang/AbstractStringBuilder", name := "putStringAt", desc := "(ILjava/lang/String;)V" } : Jvm.MethodName) jdk_68_method_73_code (3 : Nat) (Option.none : Option Jvm.ClassFile.FieldType), Jvm.Cond.code ({ cls := "java/lang/AbstractStringBuilder", name := "inflateIfNeededFor", desc := "(Ljava/lang/String;)V" } : Jvm.MethodName) jdk_68_method_71_code (2 : Nat) (Option.none : Option Jvm.ClassFile.FieldType), Jvm.Cond.code ({ cls := "java/lang/String", name := "getBytes", desc := "([BIB)V" } : Jvm.MethodName) jdk_42_method_147_code (4 : Nat) (Option.none : Option Jvm.ClassFile.FieldType), Jvm.Cond.code ({ cls := "java/lang/StringBuilder", name := "toString", desc := "()Ljava/lang/String;" } : Jvm.MethodName) jdk_67_method_42_code (1 : Nat) (Option.some (Jvm.ClassFile.FieldType.object "java/lang/String")), Jvm.Cond.code ({ cls := "java/lang/String", name := "<init>", desc := "(Ljava/lang/StringBuilder;)V" } : Jvm.MethodName) jdk_42_method_53_code (2 : Nat) (Option.none : Option Jvm.ClassFile.FieldType), Jvm.Cond.code ({ cls := "java/lang/String", name := "<init>", desc := "(Ljava/lang/AbstractStringBuilder;Ljava/lang/Void;)V" } : Jvm.MethodName) jdk_42_method_150_code (5 : Nat) (Option.none : Option Jvm.ClassFile.FieldType), Jvm.Cond.code ({ cls := "java/lang/AbstractStringBuilder", name := "getValue", desc := "()[B" } : Jvm.MethodName) jdk_68_method_64_code (1 : Nat) (Option.some (Jvm.ClassFile.FieldType.array Jvm.ClassFile.FieldType.byte)), Jvm.Cond.code ({ cls := "java/lang/StringBuilder", name := "length", desc := "()I" } : Jvm.MethodName) jdk_67_method_93_code (1 : Nat) (Option.some Jvm.ClassFile.FieldType.int), Jvm.Cond.code ({ cls := "java/lang/AbstractStringBuilder", name := "length", desc := "()I" } : Jvm.MethodName) jdk_68_method_6_code (1 : Nat) (Option.some Jvm.ClassFile.FieldType.int), Jvm.Cond.code ({ cls := "java/lang/AbstractStringBuilder", name := "isLatin1", desc := "()Z" } : Jvm.MethodName) jdk_68_method_68_code (1 : Nat) (Option.some Jvm.ClassFile.FieldType.boolean), Jvm.Cond.code ({ cls := "java/util/Arrays", name := "copyOfRange", desc := "([BII)[B" } : Jvm.MethodName) jdk_65_method_132_code (3 : Nat) (Option.some (Jvm.ClassFile.FieldType.array Jvm.ClassFile.FieldType.byte)), Jvm.Cond.code ({ cls := "java/util/Arrays", name := "copyOfRangeByte", desc := "([BII)[B" } : Jvm.MethodName) jdk_65_method_133_code (5 : Nat) (Option.some (Jvm.ClassFile.FieldType.array Jvm.ClassFile.FieldType.byte)), Jvm.Cond.code ({ cls := "java/util/Arrays", name := "checkLength", desc := "(II)V" } : Jvm.MethodName) jdk_65_method_131_code (2 : Nat) (Option.none : Option Jvm.ClassFile.FieldType), Jvm.Cond.code ({ cls := "java/lang/Math", name := "min", desc := "(II)I" } : Jvm.MethodName) jdk_29_method_69_code (2 : Nat) (Option.some Jvm.ClassFile.FieldType.int), Jvm.Cond.code ({ cls := "java/lang/String", name := "charAt", desc := "(I)C" } : Jvm.MethodName) jdk_42_method_56_code (2 : Nat) (Option.some Jvm.ClassFile.FieldType.char), Jvm.Cond.code ({ cls := "java/lang/String", name := "isLatin1", desc := "()Z" } : Jvm.MethodName) jdk_42_method_154_code (1 : Nat) (Option.some Jvm.ClassFile.FieldType.boolean), Jvm.Cond.code ({ cls := "java/lang/StringLatin1", name := "charAt", desc := "([BI)C" } : Jvm.MethodName) jdk_43_method_2_code (2 : Nat) (Option.some Jvm.ClassFile.FieldType.char), Jvm.Cond.code ({ cls := "java/lang/String", name := "checkIndex", desc := "(II)V" } : Jvm.MethodName) jdk_42_method_155_code (2 : Nat) (Option.none : Option Jvm.ClassFile.FieldType), Jvm.Cond.code ({ cls := "jdk/internal/util/Preconditions", name := "checkIndex", desc := "(IILjava/util/function/BiFunction;)I" } : Jvm.MethodName) jdk_41_method_11_code (3 : Nat) (Option.some Jvm.ClassFile.FieldType.int), Jvm.Cond.code ({ cls := "java/lang/StringUTF16", name := "toBytes", desc := "([CII)[B" } : Jvm.MethodName) jdk_52_method_14_code (5 : Nat) (Option.some (Jvm.ClassFile.FieldType.array Jvm.ClassFile.FieldType.byte)), Jvm.Cond.code ({ cls := "java/lang/StringUTF16", name := "newBytesFor", desc := "(I)[B" } : Jvm.MethodName) jdk_52_method_2_code (1 : Nat) (Option.some (Jvm.ClassFile.FieldType.array Jvm.ClassFile.FieldType.byte)), Jvm.Cond.code ({ cls := "java/lang/StringUTF16", name := "newBytesLength", desc := "(I)I" } : Jvm.MethodName) jdk_52_method_3_code (1 : Nat) (Option.some Jvm.ClassFile.FieldType.int), Jvm.Cond.code ({ cls := "java/lang/StringUTF16", name := "putChar", desc := "([BII)V" } : Jvm.MethodName) jdk_52_method_4_code (3 : Nat) (Option.none : Option Jvm.ClassFile.FieldType), Jvm.Cond.code ({ cls := "java/lang/StringUTF16", name := "getChar", desc := "([BI)C" } : Jvm.MethodName) jdk_52_method_5_code (2 : Nat) (Option.some Jvm.ClassFile.FieldType.char), Jvm.Cond.code ({ cls := "java/lang/AbstractStringBuilder", name := "inflate", desc := "()V" } : Jvm.MethodName) jdk_68_method_11_code (2 : Nat) (Option.none : Option Jvm.ClassFile.FieldType), Jvm.Cond.code ({ cls := "java/lang/StringLatin1", name := "inflate", desc := "([BI[BII)V" } : Jvm.MethodName) jdk_43_method_50_code (5 : Nat) (Option.none : Option Jvm.ClassFile.FieldType), Jvm.Cond.code ({ cls := "java/lang/StringUTF16", name := "inflate", desc := "([BI[BII)V" } : Jvm.MethodName) jdk_52_method_86_code (6 : Nat) (Option.none : Option Jvm.ClassFile.FieldType), Jvm.Cond.code ({ cls := "java/lang/StringUTF16", name := "checkBoundsOffCount", desc := "(II[B)V" } : Jvm.MethodName) jdk_52_method_94_code (3 : Nat) (Option.none : Option Jvm.ClassFile.FieldType), Jvm.Cond.code ({ cls := "java/lang/StringUTF16", name := "length", desc := "([B)I" } : Jvm.MethodName) jdk_52_method_6_code (1 : Nat) (Option.some Jvm.ClassFile.FieldType.int), Jvm.Cond.code ({ cls := "java/lang/String", name := "checkBoundsOffCount", desc := "(III)I" } : Jvm.MethodName) jdk_42_method_157_code (3 : Nat) (Option.some Jvm.ClassFile.FieldType.int), Jvm.Cond.code ({ cls := "jdk/internal/util/Preconditions", name := "checkFromIndexSize", desc := "(IIILjava/util/function/BiFunction;)I" } : Jvm.MethodName) jdk_41_method_13_code (4 : Nat) (Option.some Jvm.ClassFile.FieldType.int), Jvm.Cond.code ({ cls := "java/lang/StringUTF16", name := "charAt", desc := "([BI)C" } : Jvm.MethodName) jdk_52_method_83_code (2 : Nat) (Option.some Jvm.ClassFile.FieldType.char), Jvm.Cond.code ({ cls := "java/lang/StringUTF16", name := "checkIndex", desc := "(I[B)V" } : Jvm.MethodName) jdk_52_method_91_code (2 : Nat) (Option.none : Option Jvm.ClassFile.FieldType)]
set_option maxRecDepth 65536 in
theorem codes_eq : words1.filter isCode = codes1 := rfl
theorem w_codes : ∀ c ∈ words1.filter isCode, c.before args0 about1 = true := by
  rw [codes_eq]
  intro c hc
  simp only [codes1, List.mem_cons, List.not_mem_nil, or_false] at hc
  rcases hc with rfl | rfl | rfl | rfl | rfl | rfl | rfl | rfl | rfl | rfl | rfl | rfl | rfl | rfl | rfl | rfl | rfl | rfl | rfl | rfl | rfl | rfl | rfl | rfl | rfl | rfl | rfl | rfl | rfl | rfl | rfl | rfl | rfl | rfl | rfl | rfl | rfl | rfl | rfl | rfl | rfl | rfl | rfl | rfl | rfl | rfl | rfl | rfl | rfl | rfl | rfl
  · exact w_c0
  · exact w_c1
  · exact w_c2
  · exact w_c3
  · exact w_c4
  · exact w_c5
  · exact w_c6
  · exact w_c7
  · exact w_c8
  · exact w_c9
  · exact w_c10
  · exact w_c11
  · exact w_c12
  · exact w_c13
  · exact w_c14
  · exact w_c15
  · exact w_c16
  · exact w_c17
  · exact w_c18
  · exact w_c19
  · exact w_c20
  · exact w_c21
  · exact w_c22
  · exact w_c23
  · exact w_c24
  · exact w_c25
  · exact w_c26
  · exact w_c27
  · exact w_c28
  · exact w_c29
  · exact w_c30
  · exact w_c31
  · exact w_c32
  · exact w_c33
  · exact w_c34
  · exact w_c35
  · exact w_c36
  · exact w_c37
  · exact w_c38
  · exact w_c39
  · exact w_c40
  · exact w_c41
  · exact w_c42
  · exact w_c43
  · exact w_c44
  · exact w_c45
  · exact w_c46
  · exact w_c47
  · exact w_c48
  · exact w_c49
  · exact w_c50
set_option maxRecDepth 65536 in
theorem w_t1 : (words1.take 24).all (fun c => isCode c || c.before args0 about1) = true := by decide +kernel
set_option maxRecDepth 65536 in
theorem w_t2 : ((words1.drop 24).take 24).all (fun c => isCode c || c.before args0 about1) = true := by decide +kernel
set_option maxRecDepth 65536 in
theorem w_t3 : (((words1.drop 24).drop 24).take 24).all (fun c => isCode c || c.before args0 about1) = true := by decide +kernel
set_option maxRecDepth 65536 in
theorem w_t4 : ((((words1.drop 24).drop 24).drop 24).take 24).all (fun c => isCode c || c.before args0 about1) = true := by decide +kernel
set_option maxRecDepth 65536 in
theorem w_t5 : (((((words1.drop 24).drop 24).drop 24).drop 24).take 24).all (fun c => isCode c || c.before args0 about1) = true := by decide +kernel
set_option maxRecDepth 65536 in
theorem w_t6 : ((((((words1.drop 24).drop 24).drop 24).drop 24).drop 24).take 24).all (fun c => isCode c || c.before args0 about1) = true := by decide +kernel
set_option maxRecDepth 65536 in
theorem w_t7 : (((((((words1.drop 24).drop 24).drop 24).drop 24).drop 24).drop 24).take 24).all (fun c => isCode c || c.before args0 about1) = true := by decide +kernel
set_option maxRecDepth 65536 in
theorem w_t8 : ((((((((words1.drop 24).drop 24).drop 24).drop 24).drop 24).drop 24).drop 24).take 24).all (fun c => isCode c || c.before args0 about1) = true := by decide +kernel
set_option maxRecDepth 65536 in
theorem w_t9 : (((((((((words1.drop 24).drop 24).drop 24).drop 24).drop 24).drop 24).drop 24).drop 24).take 24).all (fun c => isCode c || c.before args0 about1) = true := by decide +kernel
set_option maxRecDepth 65536 in
theorem w_t10 : ((((((((((words1.drop 24).drop 24).drop 24).drop 24).drop 24).drop 24).drop 24).drop 24).drop 24).take 24).all (fun c => isCode c || c.before args0 about1) = true := by decide +kernel
set_option maxRecDepth 65536 in
theorem w_t11 : ((((((((((words1.drop 24).drop 24).drop 24).drop 24).drop 24).drop 24).drop 24).drop 24).drop 24).drop 24).all (fun c => isCode c || c.before args0 about1) = true := by decide +kernel
theorem w_tables : (allAtoms (Jvm.Cond.code x code maxLocals ret :: tables_1)).before args0 about1 = true := by
  rw [allAtoms_all]
  show words1.all (fun c => c.before args0 about1) = true
  refine all_split ?_ w_codes
  rw [← List.take_append_drop 24 words1, List.all_append, w_t1, ← List.take_append_drop 24 (words1.drop 24), List.all_append, w_t2, ← List.take_append_drop 24 ((words1.drop 24).drop 24), List.all_append, w_t3, ← List.take_append_drop 24 (((words1.drop 24).drop 24).drop 24), List.all_append, w_t4, ← List.take_append_drop 24 ((((words1.drop 24).drop 24).drop 24).drop 24), List.all_append, w_t5, ← List.take_append_drop 24 (((((words1.drop 24).drop 24).drop 24).drop 24).drop 24), List.all_append, w_t6, ← List.take_append_drop 24 ((((((words1.drop 24).drop 24).drop 24).drop 24).drop 24).drop 24), List.all_append, w_t7, ← List.take_append_drop 24 (((((((words1.drop 24).drop 24).drop 24).drop 24).drop 24).drop 24).drop 24), List.all_append, w_t8, ← List.take_append_drop 24 ((((((((words1.drop 24).drop 24).drop 24).drop 24).drop 24).drop 24).drop 24).drop 24), List.all_append, w_t9, ← List.take_append_drop 24 (((((((((words1.drop 24).drop 24).drop 24).drop 24).drop 24).drop 24).drop 24).drop 24).drop 24), List.all_append, w_t10, w_t11]
  rfl
set_option maxRecDepth 65536 in
theorem w_rest : rest_1_c.before args0 about1 = true := by decide +kernel
set_option maxRecDepth 65536 in
theorem w_case : (Jvm.Cond.and given_1 narrow_1).before args0 about1 = true := by decide +kernel
set_option maxRecDepth 65536 in
theorem w_consts : constsHeld consts_1 about1 := Jvm.Lit.constsHeldB_iff.mp (by decide +kernel)
theorem w_applies : (headSpec (Jvm.Cond.code x code maxLocals ret :: tables_1) room_1).applies x e0.platform about1 = true :=
  (Spec.applies_iff w_frames).mpr ⟨w_running, w_runnable, w_alone, w_named, w_hears, w_ripe, w_room, w_tables⟩
theorem atStart : AtStart classFile x code maxLocals ret World_1 tables_1 room_1 Calls_1 rest_1 Pre_1 launch0 p0 e0 about1 theMethod args0 below0 :=
  ⟨lists_1, trivial, launch0.admits_env _ _ _, launch0.least_env, fairChoices_fair.cas, fairChoices_fair.clock, w_frames, w_args, w_heap, w_applies, ⟨w_consts, trivial⟩, w_rest, w_case⟩
end start1
theorem witness_1 : WitnessClaimed_1 := ⟨start1.p0, start1.e0, start1.about1, start1.theMethod, start1.args0, start1.below0, start1.atStart⟩
end Jvm.Pilot.@@N@@
