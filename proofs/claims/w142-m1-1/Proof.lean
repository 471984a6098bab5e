import JvmDerived
import JvmDerived.Pilot.@@N@@Statement
import JvmDerived.Pilot.@@N@@Code
set_option linter.unusedVariables false
set_option linter.unusedSimpArgs false
namespace Jvm.OwnKit
open Jvm Jvm.ClassFile Sem Op Lib Jvm.Free Jvm.Stand Jvm.LawKit Jvm.RoadKit Bundle
/-- what is known of the body at hand -/
def Me (p : Program) (meth : Method) (c : Code) (nm : String) (bytes : ByteArray) (maxL : Nat) (ret : Option FieldType) : Prop :=
  p.tables.exec = Jvm.exec ∧ c.code = bytes ∧ c.maxLocals = maxL ∧ meth.sig.returnType = ret ∧ meth.locks = false ∧ meth.name = nm
/-- the walk stands at T, whose heap is h; ss: addresses that are no booked constant's -/
def Wk (p : Program) (l : Launch) (e : Env) (R : Room) (s : State) (m : MethodId) (args : Array Value) (below : List Frame) (meth : Method) (c : Code)
    (Z : State) (EL : List (String × Nat)) (kn : Bool) (own : String) (T : State) (h : Heap) (ss : List Addr) (cells slots : Nat) : Prop :=
  ∃ (vm0 : Vm) (locs : List Loc) (k0 : Nat), Stand p l e R (s.setVm vm0) m args below meth c T locs cells slots ∧ T.heap = h ∧ Z.Warmed39 vm0 ∧ s.Since vm0 k0 ∧ k0 ≤ h.size ∧
    vm0.findClass own = some m.cls ∧ Fr Z.heap.size locs ∧ Old Z Z.heap.size h ∧ CHr Z EL s.vm s.heap vm0 h ∧ (∀ x ∈ ss, x < h.size ∧ Safe Z EL vm0 h x) ∧ (kn = true → vm0.MethodsKnown ∧ vm0.FramesKnown below)
/-- from T at g the body comes to its end, with P of what it returns and of the heap -/
def Fi (p : Program) (e : Env) (below : List Frame) (s Z : State) (EL : List (String × Nat)) (kc ks : Nat) (P : Option Value → Heap → Prop) (T : State) (g : JFrame) : Prop :=
  ∃ (s₂ : State) (v : Option Value) (L : List Loc), Steps p.tables e below (T.setTop g) s₂ ∧ s₂.status = .running ∧ Ended s₂ below (.returned v) ∧ P v s₂.heap ∧ Fr Z.heap.size L ∧
    Old Z Z.heap.size s₂.heap ∧ CHr Z EL s.vm s.heap s₂.vm s₂.heap ∧ ReturnedEndW s (.returned v) s₂ L kc ks
/-- a method's contract at given arguments and heap -/
def Con (l : Launch) (Z : State) (EL : List (String × Nat)) (kn : Bool) (ws : List Cond) (y : MethodName) (bytes : ByteArray) (maxL : Nat) (ret : Option FieldType) (rm : Room) (as' : Array Value) (h0 : Heap) (ss : List Addr)
    (P : Option Value → Heap → Prop) : Prop :=
  MetFree l y (head1 (Cond.code y bytes maxL ret :: ws) rm) (fun a U => a = as' ∧ Z.Warmed39 U.vm ∧ U.heap = h0 ∧ CHv Z EL U.vm h0 ∧ (∀ x ∈ ss, x < h0.size ∧ Safe Z EL U.vm h0 x))
    (fun _ _ bl U _ => kn = true → U.vm.MethodsKnown ∧ U.vm.FramesKnown bl)
    (fun _ U o U' => ∃ v L, o = .returned v ∧ (P v U'.heap ∧ Fr Z.heap.size L ∧ Old Z Z.heap.size U'.heap) ∧ CHr Z EL U.vm U.heap U'.vm U'.heap ∧ ReturnedEndW U o U' L rm.cells rm.slots)
def rV (P : Value → Heap → Prop) : Option Value → Heap → Prop := fun v h => ∃ w, v = some w ∧ P w h
def rU (P : Heap → Prop) : Option Value → Heap → Prop := fun v h => v = none ∧ P h
/-- an address that may be written -/
def Sf (Z : State) (h : Heap) (ss : List Addr) (a : Addr) : Prop :=
  a ∈ ss ∨ (∃ C, Exa Z h a C ∧ C ≠ "java/lang/String" ∧ C ≠ "[B") ∨ (∃ cl ty, Arr Z h a cl ty ∧ ty ≠ .byte)
section Kit
variable {p : Program} {l : Launch} {e : Env} {R : Room} {s : State} {m : MethodId} {args : Array Value} {below : List Frame} {meth : Method} {c : Code} {Z : State} {a0 : Array Value} {EL : List (String × Nat)} {kn : Bool} {own : String}
  {T : State} {h h' h2 : Heap} {ss : List Addr} {cells slots : Nat} {nm : String} {bytes : ByteArray} {maxL : Nat} {ret : Option FieldType} {kc ks : Nat} {P : Option Value → Heap → Prop} {pc : Nat} {Ls : Array Slot} {st : List Value}
theorem Me.x (me : Me p meth c nm bytes maxL ret) : p.tables.exec = Jvm.exec := me.1
theorem Me.b (me : Me p meth c nm bytes maxL ret) : c.code = bytes := me.2.1
theorem Me.ml (me : Me p meth c nm bytes maxL ret) : c.maxLocals = maxL := me.2.2.1
theorem Me.r (me : Me p meth c nm bytes maxL ret) : meth.sig.returnType = ret := me.2.2.2.1
theorem Me.k (me : Me p meth c nm bytes maxL ret) : meth.locks = false := me.2.2.2.2.1
theorem Me.n (me : Me p meth c nm bytes maxL ret) : meth.name = nm := me.2.2.2.2.2
theorem Fi.step {T' : State} {g g' : JFrame} (k : ∀ t, Steps p.tables e below (T'.setTop g') t → Steps p.tables e below (T.setTop g) t) (F : Fi p e below s Z EL kc ks P T' g') : Fi p e below s Z EL kc ks P T g := by
  obtain ⟨s₂, v, L, h1, r⟩ := F
  exact ⟨s₂, v, L, k _ h1, r⟩
theorem Fi.mono {P' : Option Value → Heap → Prop} {g : JFrame} (F : Fi p e below s Z EL kc ks P T g) (q : ∀ v h, P v h → P' v h) : Fi p e below s Z EL kc ks P' T g := by
  obtain ⟨s₂, v, L, h1, h2, h3, h4, r⟩ := F
  exact ⟨s₂, v, L, h1, h2, h3, q _ _ h4, r⟩
theorem Wk.heap (W : Wk p l e R s m args below meth c Z EL kn own T h ss cells slots) : T.heap = h := by obtain ⟨_, _, _, -, e, -⟩ := W; exact e
theorem Wk.here (W : Wk p l e R s m args below meth c Z EL kn own T h ss cells slots) : At T m c below := by obtain ⟨_, _, _, X, -⟩ := W; exact X.here
theorem Wk.old (W : Wk p l e R s m args below meth c Z EL kn own T h ss cells slots) : Old Z Z.heap.size h := by obtain ⟨_, _, _, -, -, -, -, -, -, -, O, -⟩ := W; exact O
theorem Wk.more {cells' slots' : Nat} (W : Wk p l e R s m args below meth c Z EL kn own T h ss cells slots) (hc : cells ≤ cells') (hs : slots ≤ slots') : Wk p l e R s m args below meth c Z EL kn own T h ss cells' slots' := by
  obtain ⟨vm0, locs, k0, X, r⟩ := W; exact ⟨vm0, locs, k0, X.more hc hs, r⟩
theorem Wk.less {ss' : List Addr} (W : Wk p l e R s m args below meth c Z EL kn own T h ss cells slots) (q : ∀ x ∈ ss', x ∈ ss) : Wk p l e R s m args below meth c Z EL kn own T h ss' cells slots := by
  obtain ⟨vm0, locs, k0, h1, h2, h3, h4, h5, h6, h7, h8, h9, h10, h11⟩ := W; exact ⟨vm0, locs, k0, h1, h2, h3, h4, h5, h6, h7, h8, h9, fun x hx => h10 x (q x hx), h11⟩
theorem ReturnedEndW.mono {s t : State} {o : Outcome} {L : List Loc} {k n k' n' : Nat} (q : ReturnedEndW s o t L k n) (hk : k ≤ k') (hn : n ≤ n') : ReturnedEndW s o t L k' n' := ⟨q.1, q.2.1, q.2.2.1, q.2.2.2.mono hk hn⟩
theorem Wk.leave (W : Wk p l e R s m args below meth c Z EL kn own T h ss cells slots) (hEL : EW Z a0 EL) (me : Me p meth c nm bytes maxL ret) (hc : cells ≤ kc) (hs : slots ≤ ks) {v : Option Value} (hv : ret = none → v = none) {g : JFrame}
    (hst : ∀ {vm0 : Vm} {locs : List Loc} (X : Stand p l e R (s.setVm vm0) m args below meth c T locs cells slots) {fs : List Frame}, (∀ (f : JFrame) (acts : List Action), f.method = m → f.locked = none → f.entered = [] → (doReturn e (T.setTop f) acts v).1 = T.setFrames fs) → Steps p.tables e below (T.setTop g) (T.setFrames fs))
    (hP : P v h) : Fi p e below s Z EL kc ks P T g := by
  obtain ⟨vm0, locs, k0, X, eT, hZ, hS, hk, hown, N, O, C, -, -⟩ := W
  have hk' := me.k
  obtain ⟨fs, hr, hrun, hend, hR⟩ := X.leaveW hS (by rw [eT]; exact hk) (v := v) (fun q => hv (me.r ▸ q)) hk'
  subst eT
  have C' := C.trans (CHv.at X hZ hEL C.1)
  exact ⟨T.setFrames fs, v, locs, hst X hr, hrun, hend, hP, N, O, C', ReturnedEndW.mono hR hc hs⟩
theorem Wk.retU (W : Wk p l e R s m args below meth c Z EL kn own T h ss cells slots) (hEL : EW Z a0 EL) (me : Me p meth c nm bytes maxL none) (hd : decode bytes pc = .ok (.return_, 1)) {P : Heap → Prop} (hP : P h) (hc : cells ≤ kc) (hs : slots ≤ ks) :
    Fi p e below s Z EL kc ks (rU P) T (mkF m pc Ls []) :=
  W.leave hEL me hc hs (v := none) (fun _ => rfl) (fun X _ hr => X.returnOut me.x me.r (hb me.b hd) hr) ⟨rfl, hP⟩
theorem Wk.retV {t : FieldType} {w : Value} {i : Instr} (W : Wk p l e R s m args below meth c Z EL kn own T h ss cells slots) (hEL : EW Z a0 EL) (me : Me p meth c nm bytes maxL (some t)) (hd : decode bytes pc = .ok (i, 1)) {P : Value → Heap → Prop} (hP : P w h) (hc : cells ≤ kc) (hs : slots ≤ ks) (hn : narrow t w = w)
    (hi : (i = .ireturn ∧ (t = .int ∨ t = .boolean ∨ t = .byte ∨ t = .char ∨ t = .short) ∧ ∃ z, w = .int z) ∨ (i = .lreturn ∧ t = .long ∧ ∃ z, w = .long z) ∨ (i = .dreturn ∧ t = .double ∧ ∃ z, w = .double z) ∨ (i = .freturn ∧ t = .float ∧ ∃ z, w = .float z) ∨ (i = .areturn ∧ t.isReference = true ∧ w.isRef = true)) :
    Fi p e below s Z EL kc ks (rV P) T (mkF m pc Ls (w :: st)) :=
  W.leave hEL me hc hs (v := some w) (fun q => nomatch q) (fun X _ hr => retOut X me.x me.r hn hi (hb me.b hd) hr) ⟨w, rfl, hP⟩
theorem Wk.retI {z : Int32} (W : Wk p l e R s m args below meth c Z EL kn own T h ss cells slots) (hEL : EW Z a0 EL) (me : Me p meth c nm bytes maxL (some .int)) (hd : decode bytes pc = .ok (.ireturn, 1)) {P : Value → Heap → Prop} (hP : P (.int z) h) (hc : cells ≤ kc) (hs : slots ≤ ks) :
    Fi p e below s Z EL kc ks (rV P) T (mkF m pc Ls (.int z :: st)) := W.retV hEL me hd hP hc hs rfl (Or.inl ⟨rfl, Or.inl rfl, z, rfl⟩)
theorem Wk.retA {w : Value} {t : FieldType} (W : Wk p l e R s m args below meth c Z EL kn own T h ss cells slots) (hEL : EW Z a0 EL) (me : Me p meth c nm bytes maxL (some t)) (hd : decode bytes pc = .ok (.areturn, 1)) {P : Value → Heap → Prop} (hP : P w h) (hc : cells ≤ kc) (hs : slots ≤ ks) (hw : w.isRef = true) (ht : t.isReference = true) (hn : narrow t w = w) :
    Fi p e below s Z EL kc ks (rV P) T (mkF m pc Ls (w :: st)) := W.retV hEL me hd hP hc hs hn (Or.inr (Or.inr (Or.inr (Or.inr ⟨rfl, ht, hw⟩))))
/-- a small int returned: boolean, byte, char, short, as 'nar' keeps it -/
theorem Wk.retN {z : Int32} {t : FieldType} (W : Wk p l e R s m args below meth c Z EL kn own T h ss cells slots) (hEL : EW Z a0 EL) (me : Me p meth c nm bytes maxL (some t)) (ht : t = .boolean ∨ t = .byte ∨ t = .char ∨ t = .short) (hd : decode bytes pc = .ok (.ireturn, 1)) {P : Value → Heap → Prop} (hP : P (.int (nar t z)) h) (hc : cells ≤ kc) (hs : slots ≤ ks) :
    Fi p e below s Z EL kc ks (rV P) T (mkF m pc Ls (.int z :: st)) :=
  W.leave hEL me hc hs (v := some (.int (nar t z))) (fun q => nomatch q) (fun X _ hr => Jvm.RoadKit.retN X me.x me.r ht (hb me.b hd) hr) ⟨_, rfl, hP⟩
/-- the contract by its body -/
theorem Con.of {ws : List Cond} {y : MethodName} {rm : Room} {as' : Array Value} (hp : plainFor y = true) (hO : Old Z Z.heap.size h)
    (body : ∀ (p : Program) (e : Env) (s : State) (m : MethodId) (below : List Frame) (meth : Method) (c : Code) (T : State), Me p meth c y.name bytes maxL ret → Wk p l e rm s m as' below meth c Z EL kn y.cls T h ss 0 0 → Fi p e below s Z EL rm.cells rm.slots P T (entryFrame m as' maxL)) :
    Con l Z EL kn ws y bytes maxL ret rm as' h ss P := by
  refine MetFree.of_bodySF hp hisR ?_
  intro p e s m args below meth c s₁ Bd hml0 hP hK
  obtain ⟨rfl, hZ, hh, hC, hS⟩ := hP
  have X0 : Stand p l e rm s m args below meth c s₁ [] 0 0 := Stand.of_body Bd
  have e0 : s₁.heap = h := by rw [← hh, Bd.state]; rfl
  have hown : s.vm.findClass y.cls = some m.cls := findClass_of_methodNamed Bd.named
  have hnm := (name_of_methodNamed Bd.named Bd.method).1
  have W : Wk p l e rm s m args below meth c Z EL kn y.cls s₁ h ss 0 0 := ⟨s.vm, [], 0, X0, e0, hZ, (State.WarmedH.refl s).since 0, Nat.zero_le _, hown, Fr.nil _, hO, by rw [hh]; exact CHr.refl hC, hS, hK⟩
  obtain ⟨s₂, v, L, q1, q2, q3, q4, q5, q6, q7, q8⟩ := body p e s m below meth c s₁ ⟨Bd.exec, Bd.bytes, hml0, Bd.returns, Bd.notSynchronized, hnm⟩ W
  exact ⟨s₂, _, q1, q2, q3, v, L, rfl, ⟨q4, q5, q6⟩, q7, q8⟩
theorem Con.back {y : MethodName} {rm : Room} {as' : Array Value} {vm0 : Vm} {len Wt : Nat} (hM : Con l Z EL kn [] y bytes maxL ret rm as' h ss P) (hZ : Z.Warmed39 vm0) (wc : (Cond.code y bytes maxL ret).before a0 Z = true) (wz : (Cond.initialized y.cls).before a0 Z = true)
    (hf : rm.frames + 1 ≤ R.frames) (hl : Wt + (maxL + 11) + rm.locals ≤ R.locals) (hEL : EW Z a0 EL) (H : CHv Z EL vm0 h) (hS : ∀ x ∈ ss, x < h.size ∧ Safe Z EL vm0 h x) (hK : kn = true → vm0.MethodsKnown ∧ vm0.FramesKnown below) :
    BackS l R p e below (s.setVm vm0) args y len Wt (fun A a => a = as' ∧ A.U.heap = h ∧ A.cells + rm.cells ≤ R.cells ∧ A.slots + rm.slots ≤ R.slots)
      (fun A _ v B => ∃ L, (P v B.U.heap ∧ Fr Z.heap.size L ∧ Old Z Z.heap.size B.U.heap) ∧ B.locs = A.locs ++ L ∧ B.cells = A.cells + rm.cells ∧ B.slots = A.slots + rm.slots ∧ CHr Z EL vm0 h B.U.vm B.U.heap) := by
  refine BackS.of_freeWG (bytes := bytes) (maxL := maxL) (ret := ret) (E := fun _ first o t L k n => k = rm.cells ∧ n = rm.slots ∧ (∃ v, o = .returned v ∧ P v t.heap ∧ Fr Z.heap.size L ∧ Old Z Z.heap.size t.heap) ∧ CHr Z EL first.vm first.heap t.vm t.heap) hM hf hl ?_ ?_ ?_ ?_ ?_
  · intro m meth c A a Y hp
    have hU : Z.Warmed39 A.U.vm := wtrans (s := s.setVm vm0) hZ Y.warmed
    exact ⟨by show (Cond.and _ .tt).before a A.U = true; rw [Cond.before_and, mv hU wc]; rfl, mv hU wc, mv hU wz, hp.2.2.1, hp.2.2.2⟩
  · intro m meth c A a g mk Y hp
    have q := CHv.at Y hZ hEL H
    exact ⟨hp.1, wtrans (s := s.setVm vm0) hZ Y.warmed, hp.2.1, q.1, fun x hx => ⟨(hS x hx).1, q.safe (hS x hx).1 (hS x hx).2⟩⟩
  · intro m meth c A a g mk Y _ hg k
    exact known_frames Y hg (hK k).1 (hK k).2
  · rintro _ _ _ _ ⟨v, L, h1, h2, h3, h4⟩
    exact ⟨L, _, _, h4, rfl, rfl, ⟨v, h1, h2⟩, h3⟩
  · rintro m meth c A a g mk v t L k n Y hp _ _ ⟨e1, e2, ⟨v', e3, e4⟩, e5⟩
    cases e3; subst e1 e2
    refine ⟨L, e4, rfl, rfl, rfl, (CHv.at Y hZ hEL H).trans ?_⟩
    rw [← hp.2.1]; exact e5
/-- the walk behind a call that may intern -/
theorem Wk.behind {B : Pt} {vm0 : Vm} {locs L : List Loc} {k0 k n : Nat} (X : Stand p l e R ((s.setVm vm0).setVm B.U.vm) m args below meth c B.U B.locs B.cells B.slots) (hZ : Z.Warmed39 vm0) (hS : s.Since vm0 k0) (hk : k0 ≤ h.size) (hown : vm0.findClass own = some m.cls) (N : Fr Z.heap.size locs) (C : CHr Z EL s.vm s.heap vm0 h)
    (hss : ∀ x ∈ ss, x < h.size ∧ Safe Z EL vm0 h x) (hK : kn = true → vm0.MethodsKnown ∧ vm0.FramesKnown below) (hS2 : (s.setVm vm0).Since B.U.vm B.U.heap.size) (hg : h.size ≤ B.U.heap.size)
    (NL : Fr Z.heap.size L) (O : Old Z Z.heap.size B.U.heap) (e1 : B.locs = locs ++ L) (e2 : B.cells = cells + k) (e3 : B.slots = slots + n) (C2 : CHr Z EL vm0 h B.U.vm B.U.heap) :
    Wk p l e R s m args below meth c Z EL kn own B.U B.U.heap ss (cells + k) (slots + n) := by
  have hZ' : Z.Warmed39 B.U.vm := State.Warmed39.trans (t := s.setVm vm0) hZ hS2.1
  have hal : vm0.Alike B.U.vm := hS2.1.alike
  refine ⟨B.U.vm, B.locs, _, e3 ▸ e2 ▸ X, rfl, hZ', hS.trans hS2 (Nat.le_trans hk hg), Nat.le_refl _, by rw [hal.findClass]; exact hown, e1 ▸ N.app NL, O, C.trans C2, fun x hx => ⟨Nat.lt_of_lt_of_le (hss x hx).1 hg, C2.safe (hss x hx).1 (hss x hx).2⟩, fun k => ?_⟩
  refine ⟨Vm.MethodsKnown.alikeC hal (hK k).1, ?_⟩
  exact Vm.FramesKnown.alikeC hal (hK k).2
end Kit
end Jvm.OwnKit
namespace Jvm.OwnKit
open Jvm Jvm.ClassFile Sem Op Lib Jvm.Free Jvm.Stand Jvm.LawKit Jvm.RoadKit Bundle
section Steps2
variable {p : Program} {l : Launch} {e : Env} {R : Room} {s : State} {m : MethodId} {args : Array Value} {below : List Frame} {meth : Method} {c : Code} {Z : State} {a0 : Array Value} {EL : List (String × Nat)} {kn : Bool} {own : String}
  {T : State} {h h' h2 : Heap} {ss : List Addr} {cells slots : Nat} {nm : String} {bytes : ByteArray} {maxL : Nat} {ret : Option FieldType} {kc ks : Nat} {P : Option Value → Heap → Prop} {pc : Nat} {Ls : Array Slot} {st : List Value}
theorem Wk.aloadN (W : Wk p l e R s m args below meth c Z EL kn own T h ss cells slots) (me : Me p meth c nm bytes maxL ret) {k : Fin 4} {v : Value} (hd : decode bytes pc = .ok (.aload_n k, 1)) (hl : Ls[k.val]? = some (.val v)) (hv : v.isRef = true) (F : Fi p e below s Z EL kc ks P T (mkF m (pc + 1) Ls (v :: st))) : Fi p e below s Z EL kc ks P T (mkF m pc Ls st) :=
  F.step fun _ => XS.aloadN W.here me.x rfl (hb me.b hd) hl hv
theorem Wk.aload (W : Wk p l e R s m args below meth c Z EL kn own T h ss cells slots) (me : Me p meth c nm bytes maxL ret) {k : Nat} {v : Value} (hd : decode bytes pc = .ok (.aload k, 2)) (hl : Ls[k]? = some (.val v)) (hv : v.isRef = true) (F : Fi p e below s Z EL kc ks P T (mkF m (pc + 2) Ls (v :: st))) : Fi p e below s Z EL kc ks P T (mkF m pc Ls st) :=
  F.step fun _ => XS.aload W.here me.x rfl (hb me.b hd) hl hv
theorem Wk.iloadN (W : Wk p l e R s m args below meth c Z EL kn own T h ss cells slots) (me : Me p meth c nm bytes maxL ret) {k : Fin 4} {v : Int32} (hd : decode bytes pc = .ok (.iload_n k, 1)) (hl : Ls[k.val]? = some (.val (.int v))) (F : Fi p e below s Z EL kc ks P T (mkF m (pc + 1) Ls (.int v :: st))) : Fi p e below s Z EL kc ks P T (mkF m pc Ls st) :=
  F.step fun _ => XS.iloadN W.here me.x rfl (hb me.b hd) hl
theorem Wk.iload (W : Wk p l e R s m args below meth c Z EL kn own T h ss cells slots) (me : Me p meth c nm bytes maxL ret) {k : Nat} {v : Int32} (hd : decode bytes pc = .ok (.iload k, 2)) (hl : Ls[k]? = some (.val (.int v))) (F : Fi p e below s Z EL kc ks P T (mkF m (pc + 2) Ls (.int v :: st))) : Fi p e below s Z EL kc ks P T (mkF m pc Ls st) :=
  F.step fun _ => XS.iload W.here me.x rfl (hb me.b hd) hl
theorem Wk.lloadN (W : Wk p l e R s m args below meth c Z EL kn own T h ss cells slots) (me : Me p meth c nm bytes maxL ret) {k : Fin 4} {v : Int64} (hd : decode bytes pc = .ok (.lload_n k, 1)) (hl : Ls[k.val]? = some (.val (.long v))) (F : Fi p e below s Z EL kc ks P T (mkF m (pc + 1) Ls (.long v :: st))) : Fi p e below s Z EL kc ks P T (mkF m pc Ls st) :=
  F.step fun _ => XT.lloadN W.here me.x rfl (hb me.b hd) hl
theorem Wk.lload (W : Wk p l e R s m args below meth c Z EL kn own T h ss cells slots) (me : Me p meth c nm bytes maxL ret) {k : Nat} {v : Int64} (hd : decode bytes pc = .ok (.lload k, 2)) (hl : Ls[k]? = some (.val (.long v))) (F : Fi p e below s Z EL kc ks P T (mkF m (pc + 2) Ls (.long v :: st))) : Fi p e below s Z EL kc ks P T (mkF m pc Ls st) :=
  F.step fun _ => XT.lload W.here me.x rfl (hb me.b hd) hl
theorem Wk.istoreN (W : Wk p l e R s m args below meth c Z EL kn own T h ss cells slots) (me : Me p meth c nm bytes maxL ret) {k : Fin 4} {x : Int32} {l' : Array Slot} (hd : decode bytes pc = .ok (.istore_n k, 1)) (hl : storeLocals Ls k.val (.int x) = some l') (F : Fi p e below s Z EL kc ks P T (mkF m (pc + 1) l' st)) : Fi p e below s Z EL kc ks P T (mkF m pc Ls (.int x :: st)) :=
  F.step fun _ => XS.istoreN W.here me.x rfl (hb me.b hd) rfl hl
theorem Wk.istore (W : Wk p l e R s m args below meth c Z EL kn own T h ss cells slots) (me : Me p meth c nm bytes maxL ret) {k : Nat} {x : Int32} {l' : Array Slot} (hd : decode bytes pc = .ok (.istore k, 2)) (hl : storeLocals Ls k (.int x) = some l') (F : Fi p e below s Z EL kc ks P T (mkF m (pc + 2) l' st)) : Fi p e below s Z EL kc ks P T (mkF m pc Ls (.int x :: st)) :=
  F.step fun _ => XS.istore W.here me.x rfl (hb me.b hd) rfl hl
theorem Wk.astoreN (W : Wk p l e R s m args below meth c Z EL kn own T h ss cells slots) (me : Me p meth c nm bytes maxL ret) {k : Fin 4} {x : Value} {l' : Array Slot} (hd : decode bytes pc = .ok (.astore_n k, 1)) (hv : x.isRef = true) (hl : storeLocals Ls k.val x = some l') (F : Fi p e below s Z EL kc ks P T (mkF m (pc + 1) l' st)) : Fi p e below s Z EL kc ks P T (mkF m pc Ls (x :: st)) :=
  F.step fun _ => XS.astoreN W.here me.x rfl (hb me.b hd) rfl hv hl
theorem Wk.astore (W : Wk p l e R s m args below meth c Z EL kn own T h ss cells slots) (me : Me p meth c nm bytes maxL ret) {k : Nat} {x : Value} {l' : Array Slot} (hd : decode bytes pc = .ok (.astore k, 2)) (hv : x.isRef = true) (hl : storeLocals Ls k x = some l') (F : Fi p e below s Z EL kc ks P T (mkF m (pc + 2) l' st)) : Fi p e below s Z EL kc ks P T (mkF m pc Ls (x :: st)) :=
  F.step fun _ => XS.astore W.here me.x rfl (hb me.b hd) rfl hv hl
theorem Wk.lstoreN (W : Wk p l e R s m args below meth c Z EL kn own T h ss cells slots) (me : Me p meth c nm bytes maxL ret) {k : Fin 4} {x : Int64} {l' : Array Slot} (hd : decode bytes pc = .ok (.lstore_n k, 1)) (hl : storeLocals Ls k.val (.long x) = some l') (F : Fi p e below s Z EL kc ks P T (mkF m (pc + 1) l' st)) : Fi p e below s Z EL kc ks P T (mkF m pc Ls (.long x :: st)) :=
  F.step fun _ => XT.lstoreN W.here me.x rfl (hb me.b hd) rfl hl
theorem Wk.lstore (W : Wk p l e R s m args below meth c Z EL kn own T h ss cells slots) (me : Me p meth c nm bytes maxL ret) {k : Nat} {x : Int64} {l' : Array Slot} (hd : decode bytes pc = .ok (.lstore k, 2)) (hl : storeLocals Ls k (.long x) = some l') (F : Fi p e below s Z EL kc ks P T (mkF m (pc + 2) l' st)) : Fi p e below s Z EL kc ks P T (mkF m pc Ls (.long x :: st)) :=
  F.step fun _ => XT.lstore W.here me.x rfl (hb me.b hd) rfl hl
theorem Wk.iconst (W : Wk p l e R s m args below meth c Z EL kn own T h ss cells slots) (me : Me p meth c nm bytes maxL ret) {i : Int} {v : Int32} (hd : decode bytes pc = .ok (.iconst i, 1)) (hv : Int32.ofInt i = v) (F : Fi p e below s Z EL kc ks P T (mkF m (pc + 1) Ls (.int v :: st))) : Fi p e below s Z EL kc ks P T (mkF m pc Ls st) :=
  F.step fun _ => XT.iconstV W.here me.x rfl v (hb me.b hd) hv
theorem Wk.bipush (W : Wk p l e R s m args below meth c Z EL kn own T h ss cells slots) (me : Me p meth c nm bytes maxL ret) {i : Int} {v : Int32} (hd : decode bytes pc = .ok (.bipush i, 2)) (hv : (Int8.ofInt i).toInt32 = v) (F : Fi p e below s Z EL kc ks P T (mkF m (pc + 2) Ls (.int v :: st))) : Fi p e below s Z EL kc ks P T (mkF m pc Ls st) :=
  F.step fun _ => XT.bipushV W.here me.x rfl v (hb me.b hd) hv
theorem Wk.sipush (W : Wk p l e R s m args below meth c Z EL kn own T h ss cells slots) (me : Me p meth c nm bytes maxL ret) {i : Int} {v : Int32} (hd : decode bytes pc = .ok (.sipush i, 3)) (hv : (Int16.ofInt i).toInt32 = v) (F : Fi p e below s Z EL kc ks P T (mkF m (pc + 3) Ls (.int v :: st))) : Fi p e below s Z EL kc ks P T (mkF m pc Ls st) :=
  F.step fun _ => XT.sipushV W.here me.x rfl v (hb me.b hd) hv
theorem Wk.aconstNull (W : Wk p l e R s m args below meth c Z EL kn own T h ss cells slots) (me : Me p meth c nm bytes maxL ret)  (hd : decode bytes pc = .ok (.aconst_null, 1))  (F : Fi p e below s Z EL kc ks P T (mkF m (pc + 1) Ls (.null :: st))) : Fi p e below s Z EL kc ks P T (mkF m pc Ls st) :=
  F.step fun _ => XS.aconstNull W.here me.x rfl (hb me.b hd) 
theorem Wk.iadd (W : Wk p l e R s m args below meth c Z EL kn own T h ss cells slots) (me : Me p meth c nm bytes maxL ret) {x y : Int32} (hd : decode bytes pc = .ok (.iadd, 1))  (F : Fi p e below s Z EL kc ks P T (mkF m (pc + 1) Ls (.int (x + y) :: st))) : Fi p e below s Z EL kc ks P T (mkF m pc Ls (.int y :: .int x :: st)) :=
  F.step fun _ => XS.iadd W.here me.x rfl (hb me.b hd) rfl
theorem Wk.isub (W : Wk p l e R s m args below meth c Z EL kn own T h ss cells slots) (me : Me p meth c nm bytes maxL ret) {x y : Int32} (hd : decode bytes pc = .ok (.isub, 1))  (F : Fi p e below s Z EL kc ks P T (mkF m (pc + 1) Ls (.int (x - y) :: st))) : Fi p e below s Z EL kc ks P T (mkF m pc Ls (.int y :: .int x :: st)) :=
  F.step fun _ => XS.isub W.here me.x rfl (hb me.b hd) rfl
theorem Wk.imul (W : Wk p l e R s m args below meth c Z EL kn own T h ss cells slots) (me : Me p meth c nm bytes maxL ret) {x y : Int32} (hd : decode bytes pc = .ok (.imul, 1))  (F : Fi p e below s Z EL kc ks P T (mkF m (pc + 1) Ls (.int (x * y) :: st))) : Fi p e below s Z EL kc ks P T (mkF m pc Ls (.int y :: .int x :: st)) :=
  F.step fun _ => XS.imul W.here me.x rfl (hb me.b hd) rfl
theorem Wk.iand (W : Wk p l e R s m args below meth c Z EL kn own T h ss cells slots) (me : Me p meth c nm bytes maxL ret) {x y : Int32} (hd : decode bytes pc = .ok (.iand, 1))  (F : Fi p e below s Z EL kc ks P T (mkF m (pc + 1) Ls (.int (x &&& y) :: st))) : Fi p e below s Z EL kc ks P T (mkF m pc Ls (.int y :: .int x :: st)) :=
  F.step fun _ => XS.iand W.here me.x rfl (hb me.b hd) rfl
theorem Wk.ior (W : Wk p l e R s m args below meth c Z EL kn own T h ss cells slots) (me : Me p meth c nm bytes maxL ret) {x y : Int32} (hd : decode bytes pc = .ok (.ior, 1))  (F : Fi p e below s Z EL kc ks P T (mkF m (pc + 1) Ls (.int (x ||| y) :: st))) : Fi p e below s Z EL kc ks P T (mkF m pc Ls (.int y :: .int x :: st)) :=
  F.step fun _ => XT.ior W.here me.x rfl (hb me.b hd) rfl
theorem Wk.ixor (W : Wk p l e R s m args below meth c Z EL kn own T h ss cells slots) (me : Me p meth c nm bytes maxL ret) {x y : Int32} (hd : decode bytes pc = .ok (.ixor, 1))  (F : Fi p e below s Z EL kc ks P T (mkF m (pc + 1) Ls (.int (x ^^^ y) :: st))) : Fi p e below s Z EL kc ks P T (mkF m pc Ls (.int y :: .int x :: st)) :=
  F.step fun _ => XT.ixor W.here me.x rfl (hb me.b hd) rfl
theorem Wk.ishl (W : Wk p l e R s m args below meth c Z EL kn own T h ss cells slots) (me : Me p meth c nm bytes maxL ret) {x y : Int32} (hd : decode bytes pc = .ok (.ishl, 1))  (F : Fi p e below s Z EL kc ks P T (mkF m (pc + 1) Ls (.int (x <<< (y &&& 31)) :: st))) : Fi p e below s Z EL kc ks P T (mkF m pc Ls (.int y :: .int x :: st)) :=
  F.step fun _ => XT.ishl W.here me.x rfl (hb me.b hd) rfl
theorem Wk.ishr (W : Wk p l e R s m args below meth c Z EL kn own T h ss cells slots) (me : Me p meth c nm bytes maxL ret) {x y : Int32} (hd : decode bytes pc = .ok (.ishr, 1))  (F : Fi p e below s Z EL kc ks P T (mkF m (pc + 1) Ls (.int (x >>> (y &&& 31)) :: st))) : Fi p e below s Z EL kc ks P T (mkF m pc Ls (.int y :: .int x :: st)) :=
  F.step fun _ => XT.ishr W.here me.x rfl (hb me.b hd) rfl
theorem Wk.iushr (W : Wk p l e R s m args below meth c Z EL kn own T h ss cells slots) (me : Me p meth c nm bytes maxL ret) {x y : Int32} (hd : decode bytes pc = .ok (.iushr, 1))  (F : Fi p e below s Z EL kc ks P T (mkF m (pc + 1) Ls (.int (XT.ushr x y) :: st))) : Fi p e below s Z EL kc ks P T (mkF m pc Ls (.int y :: .int x :: st)) :=
  F.step fun _ => XT.iushr W.here me.x rfl (hb me.b hd) rfl
theorem Wk.irem (W : Wk p l e R s m args below meth c Z EL kn own T h ss cells slots) (me : Me p meth c nm bytes maxL ret) {x y : Int32} (hd : decode bytes pc = .ok (.irem, 1)) (hy : y ≠ 0) (F : Fi p e below s Z EL kc ks P T (mkF m (pc + 1) Ls (.int (x % y) :: st))) : Fi p e below s Z EL kc ks P T (mkF m pc Ls (.int y :: .int x :: st)) := by
  obtain ⟨vm0, locs, k0, X, -⟩ := W
  exact F.step fun _ => iremM X me.x rfl (hb me.b hd) rfl hy
theorem Wk.ladd (W : Wk p l e R s m args below meth c Z EL kn own T h ss cells slots) (me : Me p meth c nm bytes maxL ret) {x y : Int64} (hd : decode bytes pc = .ok (.ladd, 1))  (F : Fi p e below s Z EL kc ks P T (mkF m (pc + 1) Ls (.long (x + y) :: st))) : Fi p e below s Z EL kc ks P T (mkF m pc Ls (.long y :: .long x :: st)) :=
  F.step fun _ => XT.ladd W.here me.x rfl (hb me.b hd) rfl
theorem Wk.lsub (W : Wk p l e R s m args below meth c Z EL kn own T h ss cells slots) (me : Me p meth c nm bytes maxL ret) {x y : Int64} (hd : decode bytes pc = .ok (.lsub, 1))  (F : Fi p e below s Z EL kc ks P T (mkF m (pc + 1) Ls (.long (x - y) :: st))) : Fi p e below s Z EL kc ks P T (mkF m pc Ls (.long y :: .long x :: st)) :=
  F.step fun _ => XT.lsub W.here me.x rfl (hb me.b hd) rfl
theorem Wk.lmul (W : Wk p l e R s m args below meth c Z EL kn own T h ss cells slots) (me : Me p meth c nm bytes maxL ret) {x y : Int64} (hd : decode bytes pc = .ok (.lmul, 1))  (F : Fi p e below s Z EL kc ks P T (mkF m (pc + 1) Ls (.long (x * y) :: st))) : Fi p e below s Z EL kc ks P T (mkF m pc Ls (.long y :: .long x :: st)) :=
  F.step fun _ => XT.lmul W.here me.x rfl (hb me.b hd) rfl
theorem Wk.lcmp (W : Wk p l e R s m args below meth c Z EL kn own T h ss cells slots) (me : Me p meth c nm bytes maxL ret) {x y : Int64} (hd : decode bytes pc = .ok (.lcmp, 1))  (F : Fi p e below s Z EL kc ks P T (mkF m (pc + 1) Ls (.int (XT.cmpL x y) :: st))) : Fi p e below s Z EL kc ks P T (mkF m pc Ls (.long y :: .long x :: st)) :=
  F.step fun _ => XT.lcmp W.here me.x rfl (hb me.b hd) rfl
theorem Wk.i2l (W : Wk p l e R s m args below meth c Z EL kn own T h ss cells slots) (me : Me p meth c nm bytes maxL ret) {x : Int32} (hd : decode bytes pc = .ok (.i2l, 1))  (F : Fi p e below s Z EL kc ks P T (mkF m (pc + 1) Ls (.long x.toInt64 :: st))) : Fi p e below s Z EL kc ks P T (mkF m pc Ls (.int x :: st)) :=
  F.step fun _ => XT.i2l W.here me.x rfl (hb me.b hd) rfl
theorem Wk.l2i (W : Wk p l e R s m args below meth c Z EL kn own T h ss cells slots) (me : Me p meth c nm bytes maxL ret) {x : Int64} (hd : decode bytes pc = .ok (.l2i, 1))  (F : Fi p e below s Z EL kc ks P T (mkF m (pc + 1) Ls (.int x.toInt32 :: st))) : Fi p e below s Z EL kc ks P T (mkF m pc Ls (.long x :: st)) :=
  F.step fun _ => XT.l2i W.here me.x rfl (hb me.b hd) rfl
theorem Wk.i2b (W : Wk p l e R s m args below meth c Z EL kn own T h ss cells slots) (me : Me p meth c nm bytes maxL ret) {x : Int32} (hd : decode bytes pc = .ok (.i2b, 1))  (F : Fi p e below s Z EL kc ks P T (mkF m (pc + 1) Ls (.int x.toInt8.toInt32 :: st))) : Fi p e below s Z EL kc ks P T (mkF m pc Ls (.int x :: st)) :=
  F.step fun _ => XT.i2b W.here me.x rfl (hb me.b hd) rfl
theorem Wk.i2c (W : Wk p l e R s m args below meth c Z EL kn own T h ss cells slots) (me : Me p meth c nm bytes maxL ret) {x : Int32} (hd : decode bytes pc = .ok (.i2c, 1))  (F : Fi p e below s Z EL kc ks P T (mkF m (pc + 1) Ls (.int x.toUInt32.toUInt16.toUInt32.toInt32 :: st))) : Fi p e below s Z EL kc ks P T (mkF m pc Ls (.int x :: st)) :=
  F.step fun _ => XT.i2c W.here me.x rfl (hb me.b hd) rfl
theorem Wk.dup (W : Wk p l e R s m args below meth c Z EL kn own T h ss cells slots) (me : Me p meth c nm bytes maxL ret) {x : Value} (hd : decode bytes pc = .ok (.dup, 1)) (hc : x.category = 1) (F : Fi p e below s Z EL kc ks P T (mkF m (pc + 1) Ls (x :: x :: st))) : Fi p e below s Z EL kc ks P T (mkF m pc Ls (x :: st)) :=
  F.step fun _ => XS.dup W.here me.x rfl (hb me.b hd) rfl hc
theorem Wk.pop (W : Wk p l e R s m args below meth c Z EL kn own T h ss cells slots) (me : Me p meth c nm bytes maxL ret) {x : Value} (hd : decode bytes pc = .ok (.pop, 1)) (hc : x.category = 1) (F : Fi p e below s Z EL kc ks P T (mkF m (pc + 1) Ls st)) : Fi p e below s Z EL kc ks P T (mkF m pc Ls (x :: st)) :=
  F.step fun _ => XT.pop W.here me.x rfl (hb me.b hd) rfl hc
theorem Wk.dupX1 (W : Wk p l e R s m args below meth c Z EL kn own T h ss cells slots) (me : Me p meth c nm bytes maxL ret) {x y : Value} (hd : decode bytes pc = .ok (.dup_x1, 1)) (hc : x.category = 1) (hc' : y.category = 1) (F : Fi p e below s Z EL kc ks P T (mkF m (pc + 1) Ls (x :: y :: x :: st))) : Fi p e below s Z EL kc ks P T (mkF m pc Ls (x :: y :: st)) :=
  F.step fun _ => XT.dupX1 W.here me.x rfl (hb me.b hd) rfl hc hc'
theorem Wk.dup2 (W : Wk p l e R s m args below meth c Z EL kn own T h ss cells slots) (me : Me p meth c nm bytes maxL ret) {x y : Value} (hd : decode bytes pc = .ok (.dup2, 1)) (hc : x.category = 1) (hc' : y.category = 1) (F : Fi p e below s Z EL kc ks P T (mkF m (pc + 1) Ls (x :: y :: x :: y :: st))) : Fi p e below s Z EL kc ks P T (mkF m pc Ls (x :: y :: st)) :=
  F.step fun _ => XT.dup2 W.here me.x rfl (hb me.b hd) rfl hc hc'
theorem Wk.iinc (W : Wk p l e R s m args below meth c Z EL kn own T h ss cells slots) (me : Me p meth c nm bytes maxL ret) {k : Nat} {cst : Int} {x v : Int32} {l' : Array Slot} (hd : decode bytes pc = .ok (.iinc k cst, 3)) (hv : Int32.ofInt cst = v) (hl : Ls[k]? = some (.val (.int x))) (hl' : storeLocals Ls k (.int (x + v)) = some l') (F : Fi p e below s Z EL kc ks P T (mkF m (pc + 3) l' st)) : Fi p e below s Z EL kc ks P T (mkF m pc Ls st) :=
  F.step fun _ => XT.iincV W.here me.x rfl v (hb me.b hd) hv hl hl'
theorem Wk.goto (W : Wk p l e R s m args below meth c Z EL kn own T h ss cells slots) (me : Me p meth c nm bytes maxL ret) {o : Int} {pc' : Nat} (hd : decode bytes pc = .ok (.goto o, 3)) (ho : 0 ≤ (pc : Int) + o) (hp : ((pc : Int) + o).toNat = pc') (F : Fi p e below s Z EL kc ks P T (mkF m pc' Ls st)) : Fi p e below s Z EL kc ks P T (mkF m pc Ls st) :=
  F.step fun _ => XS.goto W.here me.x rfl rfl (hb me.b hd) ho hp
theorem Wk.ifY (W : Wk p l e R s m args below meth c Z EL kn own T h ss cells slots) (me : Me p meth c nm bytes maxL ret) {cd : ClassFile.Cond} {x : Int32} {o : Int} {pc' : Nat} (hd : decode bytes pc = .ok (.ifCond cd o, 3)) (hc : ifCond.holds cd x = true) (ho : 0 ≤ (pc : Int) + o) (hp : ((pc : Int) + o).toNat = pc') (F : Fi p e below s Z EL kc ks P T (mkF m pc' Ls st)) : Fi p e below s Z EL kc ks P T (mkF m pc Ls (.int x :: st)) :=
  F.step fun _ => XS.ifYes W.here me.x rfl rfl (hb me.b hd) rfl hc ho hp
theorem Wk.ifN (W : Wk p l e R s m args below meth c Z EL kn own T h ss cells slots) (me : Me p meth c nm bytes maxL ret) {cd : ClassFile.Cond} {x : Int32} {o : Int} (hd : decode bytes pc = .ok (.ifCond cd o, 3)) (hc : ifCond.holds cd x = false) (F : Fi p e below s Z EL kc ks P T (mkF m (pc + 3) Ls st)) : Fi p e below s Z EL kc ks P T (mkF m pc Ls (.int x :: st)) :=
  F.step fun _ => XS.ifNo W.here me.x rfl (hb me.b hd) rfl hc
theorem Wk.icY (W : Wk p l e R s m args below meth c Z EL kn own T h ss cells slots) (me : Me p meth c nm bytes maxL ret) {cd : ClassFile.Cond} {x y : Int32} {o : Int} {pc' : Nat} (hd : decode bytes pc = .ok (.if_icmp cd o, 3)) (hc : if_icmp.holds cd x y = true) (ho : 0 ≤ (pc : Int) + o) (hp : ((pc : Int) + o).toNat = pc') (F : Fi p e below s Z EL kc ks P T (mkF m pc' Ls st)) : Fi p e below s Z EL kc ks P T (mkF m pc Ls (.int y :: .int x :: st)) :=
  F.step fun _ => XS.icmpYes W.here me.x rfl rfl (hb me.b hd) rfl hc ho hp
theorem Wk.icN (W : Wk p l e R s m args below meth c Z EL kn own T h ss cells slots) (me : Me p meth c nm bytes maxL ret) {cd : ClassFile.Cond} {x y : Int32} {o : Int} (hd : decode bytes pc = .ok (.if_icmp cd o, 3)) (hc : if_icmp.holds cd x y = false) (F : Fi p e below s Z EL kc ks P T (mkF m (pc + 3) Ls st)) : Fi p e below s Z EL kc ks P T (mkF m pc Ls (.int y :: .int x :: st)) :=
  F.step fun _ => XS.icmpNo W.here me.x rfl (hb me.b hd) rfl hc
theorem Wk.ic_eq (W : Wk p l e R s m args below meth c Z EL kn own T h ss cells slots) (me : Me p meth c nm bytes maxL ret) {x y : Int32} {o : Int} {pc' : Nat} (hd : decode bytes pc = .ok (.if_icmp .eq o, 3)) (ho : 0 ≤ (pc : Int) + o) (hp : ((pc : Int) + o).toNat = pc') (F : x = y → Fi p e below s Z EL kc ks P T (mkF m pc' Ls st)) (G : ¬ x = y → Fi p e below s Z EL kc ks P T (mkF m (pc + 3) Ls st)) : Fi p e below s Z EL kc ks P T (mkF m pc Ls (.int y :: .int x :: st)) := by
  by_cases q : x = y
  · exact W.icY me hd (teq q).1 ho hp (F q)
  · exact W.icN me hd (feq (by first | exact q | exact Decidable.not_not.mp q)).1 (G (by first | exact q | exact Decidable.not_not.mp q))
theorem Wk.if_eq (W : Wk p l e R s m args below meth c Z EL kn own T h ss cells slots) (me : Me p meth c nm bytes maxL ret) {x : Int32} {o : Int} {pc' : Nat} (hd : decode bytes pc = .ok (.ifCond .eq o, 3)) (ho : 0 ≤ (pc : Int) + o) (hp : ((pc : Int) + o).toNat = pc') (F : x = 0 → Fi p e below s Z EL kc ks P T (mkF m pc' Ls st)) (G : ¬ x = 0 → Fi p e below s Z EL kc ks P T (mkF m (pc + 3) Ls st)) : Fi p e below s Z EL kc ks P T (mkF m pc Ls (.int x :: st)) := by
  by_cases q : x = 0
  · exact W.ifY me hd ((if0 _ _).trans (teq q).1) ho hp (F q)
  · exact W.ifN me hd ((if0 _ _).trans (feq (by first | exact q | exact Decidable.not_not.mp q)).1) (G (by first | exact q | exact Decidable.not_not.mp q))
theorem Wk.icY_eq (W : Wk p l e R s m args below meth c Z EL kn own T h ss cells slots) (me : Me p meth c nm bytes maxL ret) {x y : Int32} {o : Int} {pc' : Nat} (hd : decode bytes pc = .ok (.if_icmp .eq o, 3)) (q : x = y) (ho : 0 ≤ (pc : Int) + o) (hp : ((pc : Int) + o).toNat = pc') (F : Fi p e below s Z EL kc ks P T (mkF m pc' Ls st)) : Fi p e below s Z EL kc ks P T (mkF m pc Ls (.int y :: .int x :: st)) := W.icY me hd (teq q).1 ho hp F
theorem Wk.icN_eq (W : Wk p l e R s m args below meth c Z EL kn own T h ss cells slots) (me : Me p meth c nm bytes maxL ret) {x y : Int32} {o : Int} (hd : decode bytes pc = .ok (.if_icmp .eq o, 3)) (q : ¬ x = y) (F : Fi p e below s Z EL kc ks P T (mkF m (pc + 3) Ls st)) : Fi p e below s Z EL kc ks P T (mkF m pc Ls (.int y :: .int x :: st)) := W.icN me hd (feq q).1 F
theorem Wk.ifY_eq (W : Wk p l e R s m args below meth c Z EL kn own T h ss cells slots) (me : Me p meth c nm bytes maxL ret) {x : Int32} {o : Int} {pc' : Nat} (hd : decode bytes pc = .ok (.ifCond .eq o, 3)) (q : x = 0) (ho : 0 ≤ (pc : Int) + o) (hp : ((pc : Int) + o).toNat = pc') (F : Fi p e below s Z EL kc ks P T (mkF m pc' Ls st)) : Fi p e below s Z EL kc ks P T (mkF m pc Ls (.int x :: st)) := W.ifY me hd ((if0 _ _).trans (teq q).1) ho hp F
theorem Wk.ifN_eq (W : Wk p l e R s m args below meth c Z EL kn own T h ss cells slots) (me : Me p meth c nm bytes maxL ret) {x : Int32} {o : Int} (hd : decode bytes pc = .ok (.ifCond .eq o, 3)) (q : ¬ x = 0) (F : Fi p e below s Z EL kc ks P T (mkF m (pc + 3) Ls st)) : Fi p e below s Z EL kc ks P T (mkF m pc Ls (.int x :: st)) := W.ifN me hd ((if0 _ _).trans (feq q).1) F
theorem Wk.ic_ne (W : Wk p l e R s m args below meth c Z EL kn own T h ss cells slots) (me : Me p meth c nm bytes maxL ret) {x y : Int32} {o : Int} {pc' : Nat} (hd : decode bytes pc = .ok (.if_icmp .ne o, 3)) (ho : 0 ≤ (pc : Int) + o) (hp : ((pc : Int) + o).toNat = pc') (F : ¬ x = y → Fi p e below s Z EL kc ks P T (mkF m pc' Ls st)) (G : x = y → Fi p e below s Z EL kc ks P T (mkF m (pc + 3) Ls st)) : Fi p e below s Z EL kc ks P T (mkF m pc Ls (.int y :: .int x :: st)) := by
  by_cases q : ¬ x = y
  · exact W.icY me hd (feq q).2 ho hp (F q)
  · exact W.icN me hd (teq (by first | exact q | exact Decidable.not_not.mp q)).2 (G (by first | exact q | exact Decidable.not_not.mp q))
theorem Wk.if_ne (W : Wk p l e R s m args below meth c Z EL kn own T h ss cells slots) (me : Me p meth c nm bytes maxL ret) {x : Int32} {o : Int} {pc' : Nat} (hd : decode bytes pc = .ok (.ifCond .ne o, 3)) (ho : 0 ≤ (pc : Int) + o) (hp : ((pc : Int) + o).toNat = pc') (F : ¬ x = 0 → Fi p e below s Z EL kc ks P T (mkF m pc' Ls st)) (G : x = 0 → Fi p e below s Z EL kc ks P T (mkF m (pc + 3) Ls st)) : Fi p e below s Z EL kc ks P T (mkF m pc Ls (.int x :: st)) := by
  by_cases q : ¬ x = 0
  · exact W.ifY me hd ((if0 _ _).trans (feq q).2) ho hp (F q)
  · exact W.ifN me hd ((if0 _ _).trans (teq (by first | exact q | exact Decidable.not_not.mp q)).2) (G (by first | exact q | exact Decidable.not_not.mp q))
theorem Wk.icY_ne (W : Wk p l e R s m args below meth c Z EL kn own T h ss cells slots) (me : Me p meth c nm bytes maxL ret) {x y : Int32} {o : Int} {pc' : Nat} (hd : decode bytes pc = .ok (.if_icmp .ne o, 3)) (q : ¬ x = y) (ho : 0 ≤ (pc : Int) + o) (hp : ((pc : Int) + o).toNat = pc') (F : Fi p e below s Z EL kc ks P T (mkF m pc' Ls st)) : Fi p e below s Z EL kc ks P T (mkF m pc Ls (.int y :: .int x :: st)) := W.icY me hd (feq q).2 ho hp F
theorem Wk.icN_ne (W : Wk p l e R s m args below meth c Z EL kn own T h ss cells slots) (me : Me p meth c nm bytes maxL ret) {x y : Int32} {o : Int} (hd : decode bytes pc = .ok (.if_icmp .ne o, 3)) (q : x = y) (F : Fi p e below s Z EL kc ks P T (mkF m (pc + 3) Ls st)) : Fi p e below s Z EL kc ks P T (mkF m pc Ls (.int y :: .int x :: st)) := W.icN me hd (teq q).2 F
theorem Wk.ifY_ne (W : Wk p l e R s m args below meth c Z EL kn own T h ss cells slots) (me : Me p meth c nm bytes maxL ret) {x : Int32} {o : Int} {pc' : Nat} (hd : decode bytes pc = .ok (.ifCond .ne o, 3)) (q : ¬ x = 0) (ho : 0 ≤ (pc : Int) + o) (hp : ((pc : Int) + o).toNat = pc') (F : Fi p e below s Z EL kc ks P T (mkF m pc' Ls st)) : Fi p e below s Z EL kc ks P T (mkF m pc Ls (.int x :: st)) := W.ifY me hd ((if0 _ _).trans (feq q).2) ho hp F
theorem Wk.ifN_ne (W : Wk p l e R s m args below meth c Z EL kn own T h ss cells slots) (me : Me p meth c nm bytes maxL ret) {x : Int32} {o : Int} (hd : decode bytes pc = .ok (.ifCond .ne o, 3)) (q : x = 0) (F : Fi p e below s Z EL kc ks P T (mkF m (pc + 3) Ls st)) : Fi p e below s Z EL kc ks P T (mkF m pc Ls (.int x :: st)) := W.ifN me hd ((if0 _ _).trans (teq q).2) F
theorem Wk.ic_lt (W : Wk p l e R s m args below meth c Z EL kn own T h ss cells slots) (me : Me p meth c nm bytes maxL ret) {x y : Int32} {o : Int} {pc' : Nat} (hd : decode bytes pc = .ok (.if_icmp .lt o, 3)) (ho : 0 ≤ (pc : Int) + o) (hp : ((pc : Int) + o).toNat = pc') (F : x < y → Fi p e below s Z EL kc ks P T (mkF m pc' Ls st)) (G : ¬ x < y → Fi p e below s Z EL kc ks P T (mkF m (pc + 3) Ls st)) : Fi p e below s Z EL kc ks P T (mkF m pc Ls (.int y :: .int x :: st)) := by
  by_cases q : x < y
  · exact W.icY me hd (tlt q).1 ho hp (F q)
  · exact W.icN me hd (flt (by first | exact q | exact Decidable.not_not.mp q)).1 (G (by first | exact q | exact Decidable.not_not.mp q))
theorem Wk.if_lt (W : Wk p l e R s m args below meth c Z EL kn own T h ss cells slots) (me : Me p meth c nm bytes maxL ret) {x : Int32} {o : Int} {pc' : Nat} (hd : decode bytes pc = .ok (.ifCond .lt o, 3)) (ho : 0 ≤ (pc : Int) + o) (hp : ((pc : Int) + o).toNat = pc') (F : x < 0 → Fi p e below s Z EL kc ks P T (mkF m pc' Ls st)) (G : ¬ x < 0 → Fi p e below s Z EL kc ks P T (mkF m (pc + 3) Ls st)) : Fi p e below s Z EL kc ks P T (mkF m pc Ls (.int x :: st)) := by
  by_cases q : x < 0
  · exact W.ifY me hd ((if0 _ _).trans (tlt q).1) ho hp (F q)
  · exact W.ifN me hd ((if0 _ _).trans (flt (by first | exact q | exact Decidable.not_not.mp q)).1) (G (by first | exact q | exact Decidable.not_not.mp q))
theorem Wk.icY_lt (W : Wk p l e R s m args below meth c Z EL kn own T h ss cells slots) (me : Me p meth c nm bytes maxL ret) {x y : Int32} {o : Int} {pc' : Nat} (hd : decode bytes pc = .ok (.if_icmp .lt o, 3)) (q : x < y) (ho : 0 ≤ (pc : Int) + o) (hp : ((pc : Int) + o).toNat = pc') (F : Fi p e below s Z EL kc ks P T (mkF m pc' Ls st)) : Fi p e below s Z EL kc ks P T (mkF m pc Ls (.int y :: .int x :: st)) := W.icY me hd (tlt q).1 ho hp F
theorem Wk.icN_lt (W : Wk p l e R s m args below meth c Z EL kn own T h ss cells slots) (me : Me p meth c nm bytes maxL ret) {x y : Int32} {o : Int} (hd : decode bytes pc = .ok (.if_icmp .lt o, 3)) (q : ¬ x < y) (F : Fi p e below s Z EL kc ks P T (mkF m (pc + 3) Ls st)) : Fi p e below s Z EL kc ks P T (mkF m pc Ls (.int y :: .int x :: st)) := W.icN me hd (flt q).1 F
theorem Wk.ifY_lt (W : Wk p l e R s m args below meth c Z EL kn own T h ss cells slots) (me : Me p meth c nm bytes maxL ret) {x : Int32} {o : Int} {pc' : Nat} (hd : decode bytes pc = .ok (.ifCond .lt o, 3)) (q : x < 0) (ho : 0 ≤ (pc : Int) + o) (hp : ((pc : Int) + o).toNat = pc') (F : Fi p e below s Z EL kc ks P T (mkF m pc' Ls st)) : Fi p e below s Z EL kc ks P T (mkF m pc Ls (.int x :: st)) := W.ifY me hd ((if0 _ _).trans (tlt q).1) ho hp F
theorem Wk.ifN_lt (W : Wk p l e R s m args below meth c Z EL kn own T h ss cells slots) (me : Me p meth c nm bytes maxL ret) {x : Int32} {o : Int} (hd : decode bytes pc = .ok (.ifCond .lt o, 3)) (q : ¬ x < 0) (F : Fi p e below s Z EL kc ks P T (mkF m (pc + 3) Ls st)) : Fi p e below s Z EL kc ks P T (mkF m pc Ls (.int x :: st)) := W.ifN me hd ((if0 _ _).trans (flt q).1) F
theorem Wk.ic_ge (W : Wk p l e R s m args below meth c Z EL kn own T h ss cells slots) (me : Me p meth c nm bytes maxL ret) {x y : Int32} {o : Int} {pc' : Nat} (hd : decode bytes pc = .ok (.if_icmp .ge o, 3)) (ho : 0 ≤ (pc : Int) + o) (hp : ((pc : Int) + o).toNat = pc') (F : ¬ x < y → Fi p e below s Z EL kc ks P T (mkF m pc' Ls st)) (G : x < y → Fi p e below s Z EL kc ks P T (mkF m (pc + 3) Ls st)) : Fi p e below s Z EL kc ks P T (mkF m pc Ls (.int y :: .int x :: st)) := by
  by_cases q : ¬ x < y
  · exact W.icY me hd (flt q).2.1 ho hp (F q)
  · exact W.icN me hd (tlt (by first | exact q | exact Decidable.not_not.mp q)).2.1 (G (by first | exact q | exact Decidable.not_not.mp q))
theorem Wk.if_ge (W : Wk p l e R s m args below meth c Z EL kn own T h ss cells slots) (me : Me p meth c nm bytes maxL ret) {x : Int32} {o : Int} {pc' : Nat} (hd : decode bytes pc = .ok (.ifCond .ge o, 3)) (ho : 0 ≤ (pc : Int) + o) (hp : ((pc : Int) + o).toNat = pc') (F : ¬ x < 0 → Fi p e below s Z EL kc ks P T (mkF m pc' Ls st)) (G : x < 0 → Fi p e below s Z EL kc ks P T (mkF m (pc + 3) Ls st)) : Fi p e below s Z EL kc ks P T (mkF m pc Ls (.int x :: st)) := by
  by_cases q : ¬ x < 0
  · exact W.ifY me hd ((if0 _ _).trans (flt q).2.1) ho hp (F q)
  · exact W.ifN me hd ((if0 _ _).trans (tlt (by first | exact q | exact Decidable.not_not.mp q)).2.1) (G (by first | exact q | exact Decidable.not_not.mp q))
theorem Wk.icY_ge (W : Wk p l e R s m args below meth c Z EL kn own T h ss cells slots) (me : Me p meth c nm bytes maxL ret) {x y : Int32} {o : Int} {pc' : Nat} (hd : decode bytes pc = .ok (.if_icmp .ge o, 3)) (q : ¬ x < y) (ho : 0 ≤ (pc : Int) + o) (hp : ((pc : Int) + o).toNat = pc') (F : Fi p e below s Z EL kc ks P T (mkF m pc' Ls st)) : Fi p e below s Z EL kc ks P T (mkF m pc Ls (.int y :: .int x :: st)) := W.icY me hd (flt q).2.1 ho hp F
theorem Wk.icN_ge (W : Wk p l e R s m args below meth c Z EL kn own T h ss cells slots) (me : Me p meth c nm bytes maxL ret) {x y : Int32} {o : Int} (hd : decode bytes pc = .ok (.if_icmp .ge o, 3)) (q : x < y) (F : Fi p e below s Z EL kc ks P T (mkF m (pc + 3) Ls st)) : Fi p e below s Z EL kc ks P T (mkF m pc Ls (.int y :: .int x :: st)) := W.icN me hd (tlt q).2.1 F
theorem Wk.ifY_ge (W : Wk p l e R s m args below meth c Z EL kn own T h ss cells slots) (me : Me p meth c nm bytes maxL ret) {x : Int32} {o : Int} {pc' : Nat} (hd : decode bytes pc = .ok (.ifCond .ge o, 3)) (q : ¬ x < 0) (ho : 0 ≤ (pc : Int) + o) (hp : ((pc : Int) + o).toNat = pc') (F : Fi p e below s Z EL kc ks P T (mkF m pc' Ls st)) : Fi p e below s Z EL kc ks P T (mkF m pc Ls (.int x :: st)) := W.ifY me hd ((if0 _ _).trans (flt q).2.1) ho hp F
theorem Wk.ifN_ge (W : Wk p l e R s m args below meth c Z EL kn own T h ss cells slots) (me : Me p meth c nm bytes maxL ret) {x : Int32} {o : Int} (hd : decode bytes pc = .ok (.ifCond .ge o, 3)) (q : x < 0) (F : Fi p e below s Z EL kc ks P T (mkF m (pc + 3) Ls st)) : Fi p e below s Z EL kc ks P T (mkF m pc Ls (.int x :: st)) := W.ifN me hd ((if0 _ _).trans (tlt q).2.1) F
theorem Wk.ic_gt (W : Wk p l e R s m args below meth c Z EL kn own T h ss cells slots) (me : Me p meth c nm bytes maxL ret) {x y : Int32} {o : Int} {pc' : Nat} (hd : decode bytes pc = .ok (.if_icmp .gt o, 3)) (ho : 0 ≤ (pc : Int) + o) (hp : ((pc : Int) + o).toNat = pc') (F : y < x → Fi p e below s Z EL kc ks P T (mkF m pc' Ls st)) (G : ¬ y < x → Fi p e below s Z EL kc ks P T (mkF m (pc + 3) Ls st)) : Fi p e below s Z EL kc ks P T (mkF m pc Ls (.int y :: .int x :: st)) := by
  by_cases q : y < x
  · exact W.icY me hd (tlt q).2.2.1 ho hp (F q)
  · exact W.icN me hd (flt (by first | exact q | exact Decidable.not_not.mp q)).2.2.1 (G (by first | exact q | exact Decidable.not_not.mp q))
theorem Wk.if_gt (W : Wk p l e R s m args below meth c Z EL kn own T h ss cells slots) (me : Me p meth c nm bytes maxL ret) {x : Int32} {o : Int} {pc' : Nat} (hd : decode bytes pc = .ok (.ifCond .gt o, 3)) (ho : 0 ≤ (pc : Int) + o) (hp : ((pc : Int) + o).toNat = pc') (F : 0 < x → Fi p e below s Z EL kc ks P T (mkF m pc' Ls st)) (G : ¬ 0 < x → Fi p e below s Z EL kc ks P T (mkF m (pc + 3) Ls st)) : Fi p e below s Z EL kc ks P T (mkF m pc Ls (.int x :: st)) := by
  by_cases q : 0 < x
  · exact W.ifY me hd ((if0 _ _).trans (tlt q).2.2.1) ho hp (F q)
  · exact W.ifN me hd ((if0 _ _).trans (flt (by first | exact q | exact Decidable.not_not.mp q)).2.2.1) (G (by first | exact q | exact Decidable.not_not.mp q))
theorem Wk.icY_gt (W : Wk p l e R s m args below meth c Z EL kn own T h ss cells slots) (me : Me p meth c nm bytes maxL ret) {x y : Int32} {o : Int} {pc' : Nat} (hd : decode bytes pc = .ok (.if_icmp .gt o, 3)) (q : y < x) (ho : 0 ≤ (pc : Int) + o) (hp : ((pc : Int) + o).toNat = pc') (F : Fi p e below s Z EL kc ks P T (mkF m pc' Ls st)) : Fi p e below s Z EL kc ks P T (mkF m pc Ls (.int y :: .int x :: st)) := W.icY me hd (tlt q).2.2.1 ho hp F
theorem Wk.icN_gt (W : Wk p l e R s m args below meth c Z EL kn own T h ss cells slots) (me : Me p meth c nm bytes maxL ret) {x y : Int32} {o : Int} (hd : decode bytes pc = .ok (.if_icmp .gt o, 3)) (q : ¬ y < x) (F : Fi p e below s Z EL kc ks P T (mkF m (pc + 3) Ls st)) : Fi p e below s Z EL kc ks P T (mkF m pc Ls (.int y :: .int x :: st)) := W.icN me hd (flt q).2.2.1 F
theorem Wk.ifY_gt (W : Wk p l e R s m args below meth c Z EL kn own T h ss cells slots) (me : Me p meth c nm bytes maxL ret) {x : Int32} {o : Int} {pc' : Nat} (hd : decode bytes pc = .ok (.ifCond .gt o, 3)) (q : 0 < x) (ho : 0 ≤ (pc : Int) + o) (hp : ((pc : Int) + o).toNat = pc') (F : Fi p e below s Z EL kc ks P T (mkF m pc' Ls st)) : Fi p e below s Z EL kc ks P T (mkF m pc Ls (.int x :: st)) := W.ifY me hd ((if0 _ _).trans (tlt q).2.2.1) ho hp F
theorem Wk.ifN_gt (W : Wk p l e R s m args below meth c Z EL kn own T h ss cells slots) (me : Me p meth c nm bytes maxL ret) {x : Int32} {o : Int} (hd : decode bytes pc = .ok (.ifCond .gt o, 3)) (q : ¬ 0 < x) (F : Fi p e below s Z EL kc ks P T (mkF m (pc + 3) Ls st)) : Fi p e below s Z EL kc ks P T (mkF m pc Ls (.int x :: st)) := W.ifN me hd ((if0 _ _).trans (flt q).2.2.1) F
theorem Wk.ic_le (W : Wk p l e R s m args below meth c Z EL kn own T h ss cells slots) (me : Me p meth c nm bytes maxL ret) {x y : Int32} {o : Int} {pc' : Nat} (hd : decode bytes pc = .ok (.if_icmp .le o, 3)) (ho : 0 ≤ (pc : Int) + o) (hp : ((pc : Int) + o).toNat = pc') (F : ¬ y < x → Fi p e below s Z EL kc ks P T (mkF m pc' Ls st)) (G : y < x → Fi p e below s Z EL kc ks P T (mkF m (pc + 3) Ls st)) : Fi p e below s Z EL kc ks P T (mkF m pc Ls (.int y :: .int x :: st)) := by
  by_cases q : ¬ y < x
  · exact W.icY me hd (flt q).2.2.2 ho hp (F q)
  · exact W.icN me hd (tlt (by first | exact q | exact Decidable.not_not.mp q)).2.2.2 (G (by first | exact q | exact Decidable.not_not.mp q))
theorem Wk.if_le (W : Wk p l e R s m args below meth c Z EL kn own T h ss cells slots) (me : Me p meth c nm bytes maxL ret) {x : Int32} {o : Int} {pc' : Nat} (hd : decode bytes pc = .ok (.ifCond .le o, 3)) (ho : 0 ≤ (pc : Int) + o) (hp : ((pc : Int) + o).toNat = pc') (F : ¬ 0 < x → Fi p e below s Z EL kc ks P T (mkF m pc' Ls st)) (G : 0 < x → Fi p e below s Z EL kc ks P T (mkF m (pc + 3) Ls st)) : Fi p e below s Z EL kc ks P T (mkF m pc Ls (.int x :: st)) := by
  by_cases q : ¬ 0 < x
  · exact W.ifY me hd ((if0 _ _).trans (flt q).2.2.2) ho hp (F q)
  · exact W.ifN me hd ((if0 _ _).trans (tlt (by first | exact q | exact Decidable.not_not.mp q)).2.2.2) (G (by first | exact q | exact Decidable.not_not.mp q))
theorem Wk.icY_le (W : Wk p l e R s m args below meth c Z EL kn own T h ss cells slots) (me : Me p meth c nm bytes maxL ret) {x y : Int32} {o : Int} {pc' : Nat} (hd : decode bytes pc = .ok (.if_icmp .le o, 3)) (q : ¬ y < x) (ho : 0 ≤ (pc : Int) + o) (hp : ((pc : Int) + o).toNat = pc') (F : Fi p e below s Z EL kc ks P T (mkF m pc' Ls st)) : Fi p e below s Z EL kc ks P T (mkF m pc Ls (.int y :: .int x :: st)) := W.icY me hd (flt q).2.2.2 ho hp F
theorem Wk.icN_le (W : Wk p l e R s m args below meth c Z EL kn own T h ss cells slots) (me : Me p meth c nm bytes maxL ret) {x y : Int32} {o : Int} (hd : decode bytes pc = .ok (.if_icmp .le o, 3)) (q : y < x) (F : Fi p e below s Z EL kc ks P T (mkF m (pc + 3) Ls st)) : Fi p e below s Z EL kc ks P T (mkF m pc Ls (.int y :: .int x :: st)) := W.icN me hd (tlt q).2.2.2 F
theorem Wk.ifY_le (W : Wk p l e R s m args below meth c Z EL kn own T h ss cells slots) (me : Me p meth c nm bytes maxL ret) {x : Int32} {o : Int} {pc' : Nat} (hd : decode bytes pc = .ok (.ifCond .le o, 3)) (q : ¬ 0 < x) (ho : 0 ≤ (pc : Int) + o) (hp : ((pc : Int) + o).toNat = pc') (F : Fi p e below s Z EL kc ks P T (mkF m pc' Ls st)) : Fi p e below s Z EL kc ks P T (mkF m pc Ls (.int x :: st)) := W.ifY me hd ((if0 _ _).trans (flt q).2.2.2) ho hp F
theorem Wk.ifN_le (W : Wk p l e R s m args below meth c Z EL kn own T h ss cells slots) (me : Me p meth c nm bytes maxL ret) {x : Int32} {o : Int} (hd : decode bytes pc = .ok (.ifCond .le o, 3)) (q : 0 < x) (F : Fi p e below s Z EL kc ks P T (mkF m (pc + 3) Ls st)) : Fi p e below s Z EL kc ks P T (mkF m pc Ls (.int x :: st)) := W.ifN me hd ((if0 _ _).trans (tlt q).2.2.2) F
theorem Wk.nullY (W : Wk p l e R s m args below meth c Z EL kn own T h ss cells slots) (me : Me p meth c nm bytes maxL ret) {o : Int} {pc' : Nat} (hd : decode bytes pc = .ok (.ifnull o, 3)) (ho : 0 ≤ (pc : Int) + o) (hp : ((pc : Int) + o).toNat = pc') (F : Fi p e below s Z EL kc ks P T (mkF m pc' Ls st)) : Fi p e below s Z EL kc ks P T (mkF m pc Ls (.null :: st)) :=
  F.step fun _ => XS.ifnullYes W.here me.x rfl rfl (hb me.b hd) rfl ho hp
theorem Wk.nullN (W : Wk p l e R s m args below meth c Z EL kn own T h ss cells slots) (me : Me p meth c nm bytes maxL ret) {o : Int} {b : Addr} (hd : decode bytes pc = .ok (.ifnull o, 3)) (F : Fi p e below s Z EL kc ks P T (mkF m (pc + 3) Ls st)) : Fi p e below s Z EL kc ks P T (mkF m pc Ls (.ref b :: st)) :=
  F.step fun _ => XS.ifnullNo W.here me.x rfl (hb me.b hd) rfl
theorem Wk.nonnullY (W : Wk p l e R s m args below meth c Z EL kn own T h ss cells slots) (me : Me p meth c nm bytes maxL ret) {o : Int} {b : Addr} {pc' : Nat} (hd : decode bytes pc = .ok (.ifnonnull o, 3)) (ho : 0 ≤ (pc : Int) + o) (hp : ((pc : Int) + o).toNat = pc') (F : Fi p e below s Z EL kc ks P T (mkF m pc' Ls st)) : Fi p e below s Z EL kc ks P T (mkF m pc Ls (.ref b :: st)) :=
  F.step fun _ => XT.ifnonnullYes W.here me.x rfl rfl (hb me.b hd) rfl ho hp
theorem Wk.nonnullN (W : Wk p l e R s m args below meth c Z EL kn own T h ss cells slots) (me : Me p meth c nm bytes maxL ret) {o : Int} (hd : decode bytes pc = .ok (.ifnonnull o, 3)) (F : Fi p e below s Z EL kc ks P T (mkF m (pc + 3) Ls st)) : Fi p e below s Z EL kc ks P T (mkF m pc Ls (.null :: st)) :=
  F.step fun _ => XT.ifnonnullNo W.here me.x rfl (hb me.b hd) rfl
theorem Wk.acY (W : Wk p l e R s m args below meth c Z EL kn own T h ss cells slots) (me : Me p meth c nm bytes maxL ret) {cd : ClassFile.ACond} {x y : Value} {o : Int} {pc' : Nat} (hd : decode bytes pc = .ok (.if_acmp cd o, 3)) (hx : x.isRef = true) (hy : y.isRef = true) (hc : XT.acmp cd x y = true) (ho : 0 ≤ (pc : Int) + o) (hp : ((pc : Int) + o).toNat = pc') (F : Fi p e below s Z EL kc ks P T (mkF m pc' Ls st)) : Fi p e below s Z EL kc ks P T (mkF m pc Ls (y :: x :: st)) :=
  F.step fun _ => XT.acmpYes W.here me.x rfl rfl (hb me.b hd) rfl hx hy hc ho hp
theorem Wk.acN (W : Wk p l e R s m args below meth c Z EL kn own T h ss cells slots) (me : Me p meth c nm bytes maxL ret) {cd : ClassFile.ACond} {x y : Value} {o : Int} (hd : decode bytes pc = .ok (.if_acmp cd o, 3)) (hx : x.isRef = true) (hy : y.isRef = true) (hc : XT.acmp cd x y = false) (F : Fi p e below s Z EL kc ks P T (mkF m (pc + 3) Ls st)) : Fi p e below s Z EL kc ks P T (mkF m pc Ls (y :: x :: st)) :=
  F.step fun _ => XT.acmpNo W.here me.x rfl (hb me.b hd) rfl hx hy hc
end Steps2
end Jvm.OwnKit
namespace Jvm.OwnKit
open Jvm Jvm.ClassFile Sem Op Lib Jvm.Free Jvm.Stand Jvm.LawKit Jvm.RoadKit Bundle
section Steps3
variable {p : Program} {l : Launch} {e : Env} {R : Room} {s : State} {m : MethodId} {args : Array Value} {below : List Frame} {meth : Method} {c : Code} {Z : State} {a0 : Array Value} {EL : List (String × Nat)} {kn : Bool} {own : String}
  {T : State} {h h' h2 : Heap} {ss : List Addr} {cells slots : Nat} {nm : String} {bytes : ByteArray} {maxL : Nat} {ret : Option FieldType} {kc ks : Nat} {P : Option Value → Heap → Prop} {pc : Nat} {Ls : Array Slot} {st : List Value}
theorem own_xr (h : Heap) : Ext h h := ⟨Nat.le_refl _, fun _ _ q => q⟩
theorem own_xt (E : Ext h h') (F : Ext h' h2) : Ext h h2 := ⟨Nat.le_trans E.1 F.1, fun a c q => F.2 a c (E.2 a c q)⟩
theorem own_xw {a : Addr} {sl : Nat} {v : Value} (E : Ext h h') (q : h.size ≤ a) (W : Wr h' h2 a sl v) : Ext h h2 := by
  refine ⟨by rw [W.size]; exact E.1, fun b cb hb => ?_⟩
  obtain ⟨c0, -, -, -, rfl⟩ := W
  have hne : a ≠ b := by
    intro z
    subst z
    have := (Array.getElem?_eq_some_iff.mp hb).1
    omega
  rw [Array.getElem?_setIfInBounds_ne hne]; exact E.2 _ _ hb
theorem own_xk {ws : List Addr} (E : Ext h h') (K : Keep h' h2 ws) (q : ∀ x ∈ ws, h.size ≤ x) : Ext h h2 :=
  ⟨Nat.le_trans E.1 K.1, fun b cb hb => K.2.1 b cb (E.2 b cb hb) fun z => by have := (Array.getElem?_eq_some_iff.mp hb).1; have := q b z; omega⟩
theorem own_le {a b : Nat} (q : Nat.ble a b = true) : a ≤ b := Nat.le_of_ble_eq_true q
theorem own_lt {a b : Nat} (q : a < b) : a < b := q
theorem own_ge {a b : Nat} (q : a ≤ b) : a ≤ b := q
theorem own_ne {a b : Nat} (q : a < b) : a ≠ b := Nat.ne_of_lt q
theorem own_en {a b : Nat} (q : a < b) : b ≠ a := (Nat.ne_of_lt q).symm
theorem own_xK (E : Ext h h') (ws : List Addr) : Keep h h' ws := ⟨E.1, fun x c q _ => E.2 x c q, fun x c q => ⟨c, E.2 x c q, rfl, rfl, rfl⟩⟩
theorem Sf.safe {a : Addr} {vm0 : Vm} (hal : Z.vm.Alike vm0) (S : Sf Z h ss a) (hss : ∀ x ∈ ss, x < h.size ∧ Safe Z EL vm0 h x) : Safe Z EL vm0 h a := by
  rcases S with q | ⟨C, E, h1, h2⟩ | ⟨cl, ty, A, ht⟩
  · exact (hss a q).2
  · exact Safe.exa hal E h1 h2
  · exact Safe.arr hal A ht
/-- a step that moves no heap -/
theorem Wk.quiet {g g' : JFrame} (W : Wk p l e R s m args below meth c Z EL kn own T h ss cells slots)
    (law : ∀ {vm0 : Vm} {locs : List Loc}, Stand p l e R (s.setVm vm0) m args below meth c T locs cells slots → Z.Warmed39 vm0 → vm0.findClass own = some m.cls → ∃ T', Stand p l e R (s.setVm vm0) m args below meth c T' locs cells slots ∧ T'.heap = h ∧ ∀ target, Steps p.tables e below (T'.setTop g') target → Steps p.tables e below (T.setTop g) target)
    (F : ∀ T', Wk p l e R s m args below meth c Z EL kn own T' h ss cells slots → Fi p e below s Z EL kc ks P T' g') : Fi p e below s Z EL kc ks P T g := by
  obtain ⟨vm0, locs, k0, X, eT, hZ, hS, hk, hown, N, O, C, hss, hK⟩ := W
  obtain ⟨T', X', e', st⟩ := law X hZ hown
  exact (F T' ⟨vm0, locs, k0, X', e', hZ, hS, hk, hown, N, O, C, hss, hK⟩).step st
/-- a step that only makes cells -/
theorem Wk.grows {g g' : JFrame} {k n : Nat} {Q : State → Heap → Prop} (W : Wk p l e R s m args below meth c Z EL kn own T h ss cells slots)
    (law : ∀ {vm0 : Vm} {locs : List Loc}, Stand p l e R (s.setVm vm0) m args below meth c T locs cells slots → Z.Warmed39 vm0 → vm0.findClass own = some m.cls → ∃ T' h', Stand p l e R (s.setVm vm0) m args below meth c T' locs (cells + k) (slots + n) ∧ T'.heap = h' ∧ Ext h h' ∧ (h.size < h'.size) ∧ Q T' h' ∧ ∀ target, Steps p.tables e below (T'.setTop g') target → Steps p.tables e below (T.setTop g) target)
    (F : ∀ T' h', Wk p l e R s m args below meth c Z EL kn own T' h' (h.size :: ss) (cells + k) (slots + n) → Ext h h' → Q T' h' → Fi p e below s Z EL kc ks P T' g') : Fi p e below s Z EL kc ks P T g := by
  obtain ⟨vm0, locs, k0, X, eT, hZ, hS, hk, hown, N, O, C, hss, hK⟩ := W
  obtain ⟨T', h', X', e', E, hlt, q, st⟩ := law X hZ hown
  have C2 := CHr.ext E C.1
  refine (F T' h' ⟨vm0, locs, k0, X', e', hZ, hS, Nat.le_trans hk E.1, hown, N, O.ext E, C.trans C2, fun x hx => ?_, hK⟩ E q).step st
  rcases List.mem_cons.mp hx with rfl | hx
  · exact ⟨hlt, Safe.ext E C.1 (Safe.new (Nat.le_refl _))⟩
  · exact ⟨Nat.lt_of_lt_of_le (hss x hx).1 E.1, Safe.ext E C.1 (hss x hx).2⟩
/-- a step that writes one place -/
theorem Wk.writes {g g' : JFrame} {a : Addr} {sl : Nat} {v : Value} (W : Wk p l e R s m args below meth c Z EL kn own T h ss cells slots) (hS : Sf Z h ss a) (hn : Z.heap.size ≤ a)
    (law : ∀ {vm0 : Vm} {locs : List Loc}, Stand p l e R (s.setVm vm0) m args below meth c T locs cells slots → Z.Warmed39 vm0 → vm0.findClass own = some m.cls → ∃ T' h', Stand p l e R (s.setVm vm0) m args below meth c T' (locs ++ [⟨a, sl⟩]) cells slots ∧ T'.heap = h' ∧ Wr h h' a sl v ∧ ∀ target, Steps p.tables e below (T'.setTop g') target → Steps p.tables e below (T.setTop g) target)
    (F : ∀ T' h', Wk p l e R s m args below meth c Z EL kn own T' h' ss cells slots → Wr h h' a sl v → Fi p e below s Z EL kc ks P T' g') : Fi p e below s Z EL kc ks P T g := by
  obtain ⟨vm0, locs, k0, X, eT, hZ, hSi, hk, hown, N, O, C, hss, hK⟩ := W
  obtain ⟨T', h', X', e', q, st⟩ := law X hZ hown
  have S0 := hS.safe hZ.alike hss
  have C2 := CHr.wr q S0 C.1
  exact (F T' h' ⟨vm0, _, k0, X', e', hZ, hSi, by rw [q.size]; exact hk, hown, Fr.snoc X' N hn, O.wr q hn, C.trans C2, fun x hx => ⟨by rw [q.size]; exact (hss x hx).1, Safe.wr q S0 C.1 (hss x hx).2⟩, hK⟩ q).step st
section Fields
variable {R0 O n d C : String} {index kk : Nat} {a : Addr} {v old : Value} {ty : FieldType}
theorem Wk.getF (W : Wk p l e R s m args below meth c Z EL kn own T h ss cells slots) (me : Me p meth c nm bytes maxL ret) (w : (Cond.fieldLink own index R0 n d).before a0 Z = true) (F : Fld Z h a O n d v) (via : Via Z R0 O n d) (hd : decode bytes pc = .ok (.getfield index, 3))
    (k : ∀ T', Wk p l e R s m args below meth c Z EL kn own T' h ss cells slots → Fi p e below s Z EL kc ks P T' (mkF m (pc + 3) Ls (v :: st))) : Fi p e below s Z EL kc ks P T (mkF m pc Ls (.ref a :: st)) :=
  W.quiet (fun X hZ hown => Jvm.RoadKit.getF X me.x hZ hown (host := "") (Or.inl w) via W.heap F rfl rfl (hb me.b hd)) k
theorem Wk.getS (W : Wk p l e R s m args below meth c Z EL kn own T h ss cells slots) (me : Me p meth c nm bytes maxL ret) (w : (Cond.fieldLink own index R0 n d).before a0 Z = true) (F : Sta Z Z.heap O n d v) (via : Via Z R0 O n d) (hd : decode bytes pc = .ok (.getstatic index, 3))
    (k : ∀ T', Wk p l e R s m args below meth c Z EL kn own T' h ss cells slots → Fi p e below s Z EL kc ks P T' (mkF m (pc + 3) Ls (v :: st))) : Fi p e below s Z EL kc ks P T (mkF m pc Ls st) :=
  W.quiet (fun X hZ hown => Jvm.RoadKit.getS X me.x hZ hown (host := "") w via W.heap (F.ext W.old.2) rfl (hb me.b hd)) k
theorem Wk.putF (W : Wk p l e R s m args below meth c Z EL kn own T h ss cells slots) (me : Me p meth c nm bytes maxL ret) (w : (Cond.fieldLink own index R0 n d).before a0 Z = true) (F : Fld Z h a O n d old) (via : Via Z R0 O n d) (E : Exa Z h a C)
    (L : (Cond.lays C O n d).before a0 Z = true ∨ ((Cond.laysFinal C O n d).before a0 Z = true ∧ own = O ∧ nm = "<init>")) (wi : (Cond.instantiable C kk).before a0 Z = true) (hty : parseFieldDescriptor d = some ty) (hn : narrow ty v = v) (hf : fits ty v = true) (hS : Sf Z h ss a) (hz : Z.heap.size ≤ a)
    (hd : decode bytes pc = .ok (.putfield index, 3))
    (k : ∀ T' h', Wk p l e R s m args below meth c Z EL kn own T' h' ss cells slots → Wr h h' a (Jvm.RoadKit.slotOf Z O n d) v → Fi p e below s Z EL kc ks P T' (mkF m (pc + 3) Ls st)) : Fi p e below s Z EL kc ks P T (mkF m pc Ls (v :: .ref a :: st)) :=
  W.writes hS hz (fun X hZ hown => Jvm.RoadKit.putF X me.x hZ hown (host := "") (Or.inl w) via W.heap F E (L.imp id fun q => ⟨q.1, q.2.1, me.n.trans q.2.2⟩) wi hty hn hf rfl rfl (hb me.b hd)) k
theorem Wk.newO (W : Wk p l e R s m args below meth c Z EL kn own T h ss cells slots) (me : Me p meth c nm bytes maxL ret) (w : (Cond.classLink own index C).before a0 Z = true) (wi : (Cond.instantiable C kk).before a0 Z = true) (wz : (Cond.initialized C).before a0 Z = true) (hd : decode bytes pc = .ok (.new index, 3)) (hc : cells + 1 ≤ R.cells) (hl : slots + kk ≤ R.slots)
    (k : ∀ T' h' a, @Eq Nat h.size a → Wk p l e R s m args below meth c Z EL kn own T' h' (a :: ss) (cells + 1) (slots + kk) → Ext h h' → Exa Z h' a C → (∀ {O nm d : String} {ty : FieldType}, Laid Z a0 C O nm d → parseFieldDescriptor d = some ty → Fld Z h' a O nm d (defaultValue ty)) → (∃ cell : Cell, h'[a]? = some cell ∧ cell.vm = .none ∧ cell.monitor = {}) →
      Fi p e below s Z EL kc ks P T' (mkF m (pc + 3) Ls (.ref a :: st))) : Fi p e below s Z EL kc ks P T (mkF m pc Ls st) :=
  W.grows (k := 1) (n := kk) (Q := fun _ h' => Exa Z h' h.size C ∧ (∀ {O nm d : String} {ty : FieldType}, Laid Z a0 C O nm d → parseFieldDescriptor d = some ty → Fld Z h' h.size O nm d (defaultValue ty)) ∧ (∃ cell : Cell, h'[h.size]? = some cell ∧ cell.vm = .none ∧ cell.monitor = {}))
    (fun X hZ hown => by
      obtain ⟨T', h', X', e', E, A, D, U, st⟩ := Jvm.RoadKit.newO X me.x hZ hown w wi wz W.heap (g := mkF m pc Ls st) rfl (hb me.b hd) hc hl
      exact ⟨T', h', X', e', E, A.lt, ⟨A, D, U⟩, st⟩)
    (fun T' h' W' E q => k T' h' h.size rfl W' E q.1 q.2.1 q.2.2)
end Fields
section Arrays
variable {a : Addr} {n j x : Int32} {ka : ClassId} {vs : List Value} {dv : Value}
theorem Wk.newA {aty : ArrayType} {cap : Nat} (W : Wk p l e R s m args below meth c Z EL kn own T h ss cells slots) (me : Me p meth c nm bytes maxL ret) (w : (Cond.arrayClass (newarray.typeOf aty)).before a0 Z = true) (hd : decode bytes pc = .ok (.newarray aty, 2)) (hn : ¬ n < 0) (hcap : n.toNatClampNeg ≤ cap) (hbig : cap * 8 ≤ 536870912) (hc : cells + 1 ≤ R.cells) (hl : slots + cap ≤ R.slots)
    (k : ∀ T' h' a ka, @Eq Nat h.size a → Wk p l e R s m args below meth c Z EL kn own T' h' (a :: ss) (cells + 1) (slots + cap) → Ext h h' → Arv Z h' a ka (newarray.typeOf aty) n [] (defaultValue (newarray.typeOf aty)) → Fi p e below s Z EL kc ks P T' (mkF m (pc + 2) Ls (.ref a :: st))) : Fi p e below s Z EL kc ks P T (mkF m pc Ls (.int n :: st)) :=
  W.grows (k := 1) (n := cap) (Q := fun _ h' => ∃ ka, Arv Z h' h.size ka (newarray.typeOf aty) n [] (defaultValue (newarray.typeOf aty)))
    (fun X hZ hown => by
      obtain ⟨T', h', cA, X', e', E, A, st⟩ := Jvm.RoadKit.newP X me.x hZ w W.heap (g := mkF m pc Ls (.int n :: st)) rfl (hb me.b hd) rfl hn hcap hbig hc hl
      exact ⟨T', h', X', e', E, A.lt, ⟨cA, Arv.new A hn⟩, st⟩)
    (fun T' h' W' E q => by obtain ⟨ka, A⟩ := q; exact k T' h' h.size ka rfl W' E A)
/-- castore at place i of an array whose places are told -/
theorem Wk.castore {i : Nat} (W : Wk p l e R s m args below meth c Z EL kn own T h ss cells slots) (me : Me p meth c nm bytes maxL ret) (A : Arv Z h a ka .char n vs dv) (hd : decode bytes pc = .ok (.castore, 1)) (hj : ¬ j < 0 ∧ j < n) (hi : j.toNatClampNeg = i) (hv : i < vs.length) (hz : Z.heap.size ≤ a)
    (k : ∀ T' h', Wk p l e R s m args below meth c Z EL kn own T' h' ss cells slots → Wr h h' a i (.int (nar .char x)) → Arv Z h' a ka .char n (vs.set i (.int (nar .char x))) dv → Fi p e below s Z EL kc ks P T' (mkF m (pc + 1) Ls st)) : Fi p e below s Z EL kc ks P T (mkF m pc Ls (.int x :: .int j :: .ref a :: st)) := by
  obtain ⟨cl, A1, q, S, M, H, U⟩ := A
  subst hi
  exact W.writes (Or.inr (Or.inr ⟨cl, .char, A1, by decide⟩)) hz (fun X hZ _ => Jvm.RoadKit.stC X me.x hZ W.heap A1 (inb_of S hj) rfl rfl (hb me.b hd))
    (fun T' h' W' q' => k T' h' W' q' (Arv.set A1 q S M H U (fits_nar_char _) q' _ rfl hv))
theorem Wk.bastore {i : Nat} (W : Wk p l e R s m args below meth c Z EL kn own T h ss cells slots) (me : Me p meth c nm bytes maxL ret) (A : Arv Z h a ka .byte n vs dv) (hd : decode bytes pc = .ok (.bastore, 1)) (hj : ¬ j < 0 ∧ j < n) (hi : j.toNatClampNeg = i) (hv : i < vs.length) (hS : a ∈ ss) (hz : Z.heap.size ≤ a)
    (k : ∀ T' h', Wk p l e R s m args below meth c Z EL kn own T' h' ss cells slots → Wr h h' a i (.int (nar .byte x)) → Arv Z h' a ka .byte n (vs.set i (.int (nar .byte x))) dv → Fi p e below s Z EL kc ks P T' (mkF m (pc + 1) Ls st)) : Fi p e below s Z EL kc ks P T (mkF m pc Ls (.int x :: .int j :: .ref a :: st)) := by
  obtain ⟨cl, A1, q, S, M, H, U⟩ := A
  subst hi
  exact W.writes (Or.inl hS) hz (fun X hZ _ => Jvm.RoadKit.stB X me.x hZ W.heap A1 (inb_of S hj) rfl rfl (hb me.b hd))
    (fun T' h' W' q' => k T' h' W' q' (Arv.set A1 q S M H U (fits_nar_byte _) q' _ rfl hv))
theorem Wk.caload {v : Value} (W : Wk p l e R s m args below meth c Z EL kn own T h ss cells slots) (me : Me p meth c nm bytes maxL ret) (A : Arv Z h a ka .char n vs dv) (hd : decode bytes pc = .ok (.caload, 1)) (hj : ¬ j < 0 ∧ j < n) (hv : vs.getD j.toNatClampNeg dv = v)
    (F : Fi p e below s Z EL kc ks P T (mkF m (pc + 1) Ls (v :: st))) : Fi p e below s Z EL kc ks P T (mkF m pc Ls (.int j :: .ref a :: st)) := by
  obtain ⟨cl, A1, q, S, M, H, U⟩ := A
  obtain ⟨vm0, locs, k0, X, eT, hZ, -⟩ := W
  exact F.step fun t F' => X.caload me.x (by rw [eT]; exact A1.1) (State.isArrayOf_alike (s := Z) (T := s.setVm vm0) hZ.alike A1.2.1) A1.2.2 (inb_of S hj) (H.at (inb_of S hj) hv) (g := mkF m pc Ls (.int j :: .ref a :: st)) rfl rfl (hb me.b hd) t F'
theorem Wk.baload {v : Value} (W : Wk p l e R s m args below meth c Z EL kn own T h ss cells slots) (me : Me p meth c nm bytes maxL ret) (A : Arv Z h a ka .byte n vs dv) (hd : decode bytes pc = .ok (.baload, 1)) (hj : ¬ j < 0 ∧ j < n) (hv : vs.getD j.toNatClampNeg dv = v)
    (F : Fi p e below s Z EL kc ks P T (mkF m (pc + 1) Ls (v :: st))) : Fi p e below s Z EL kc ks P T (mkF m pc Ls (.int j :: .ref a :: st)) := by
  obtain ⟨cl, A1, q, S, M, H, U⟩ := A
  obtain ⟨vm0, locs, k0, X, eT, hZ, -⟩ := W
  exact F.step fun t F' => X.baloadBytes me.x (by rw [eT]; exact A1.1) (State.isArrayOf_alike (s := Z) (T := s.setVm vm0) hZ.alike A1.2.1) A1.2.2 (inb_of S hj) (H.at (inb_of S hj) hv) (g := mkF m pc Ls (.int j :: .ref a :: st)) rfl rfl (hb me.b hd) t F'
theorem Wk.alen {ty : FieldType} (W : Wk p l e R s m args below meth c Z EL kn own T h ss cells slots) (me : Me p meth c nm bytes maxL ret) (A : Arv Z h a ka ty n vs dv) (hd : decode bytes pc = .ok (.arraylength, 1))
    (F : Fi p e below s Z EL kc ks P T (mkF m (pc + 1) Ls (.int n :: st))) : Fi p e below s Z EL kc ks P T (mkF m pc Ls (.ref a :: st)) := by
  obtain ⟨cl, A1, q, S, M, H, U⟩ := A
  obtain ⟨vm0, locs, k0, X, eT, hZ, -⟩ := W
  exact F.step fun t F' => X.arraylength me.x (by rw [eT]; exact A1.1) (State.isArrayOf_alike (s := Z) (T := s.setVm vm0) hZ.alike A1.2.1) (g := mkF m pc Ls (.ref a :: st)) rfl rfl (hb me.b hd) t (by rw [len_of S M]; exact F')
end Arrays
section Consts
variable {index : Nat}
theorem Wk.ldc2J {v : Int64} (W : Wk p l e R s m args below meth c Z EL kn own T h ss cells slots) (me : Me p meth c nm bytes maxL ret) (w : (Cond.constantLong own index v).before a0 Z = true) (hd : decode bytes pc = .ok (.ldc2_w index, 3))
    (F : Fi p e below s Z EL kc ks P T (mkF m (pc + 3) Ls (.long v :: st))) : Fi p e below s Z EL kc ks P T (mkF m pc Ls st) := by
  obtain ⟨vm0, locs, k0, X, eT, hZ, -, -, hown, -⟩ := W
  exact F.step fun t F' => X.ldc2Long me.x hown (mvT (s := s.setVm vm0) hZ w) (g := mkF m pc Ls st) rfl (hb me.b hd) t F'
theorem Wk.ldcI {v : Int32} (W : Wk p l e R s m args below meth c Z EL kn own T h ss cells slots) (me : Me p meth c nm bytes maxL ret) (w : (Cond.constant own index v).before a0 Z = true) (hd : decode bytes pc = .ok (.ldc index, 2))
    (F : Fi p e below s Z EL kc ks P T (mkF m (pc + 2) Ls (.int v :: st))) : Fi p e below s Z EL kc ks P T (mkF m pc Ls st) := by
  obtain ⟨vm0, locs, k0, X, eT, hZ, -, -, hown, -⟩ := W
  exact F.step fun t F' => X.ldcInt me.x hown (mvT (s := s.setVm vm0) hZ w) (g := mkF m pc Ls st) rfl (hb me.b hd) t F'
theorem Wk.cast {K : String} {a : Addr} (W : Wk p l e R s m args below meth c Z EL kn own T h ss cells slots) (me : Me p meth c nm bytes maxL ret) (w : (Cond.classLink own index K).before a0 Z = true) (I : Ins Z h a K true) (hd : decode bytes pc = .ok (.checkcast index, 3))
    (k : ∀ T', Wk p l e R s m args below meth c Z EL kn own T' h ss cells slots → Fi p e below s Z EL kc ks P T' (mkF m (pc + 3) Ls (.ref a :: st))) : Fi p e below s Z EL kc ks P T (mkF m pc Ls (.ref a :: st)) :=
  W.quiet (fun X hZ hown => Jvm.RoadKit.castY X me.x hZ hown w W.heap I rfl rfl (hb me.b hd)) k
theorem Wk.instY {K : String} {a : Addr} (W : Wk p l e R s m args below meth c Z EL kn own T h ss cells slots) (me : Me p meth c nm bytes maxL ret) (w : (Cond.classLink own index K).before a0 Z = true) (I : Ins Z h a K true) (hd : decode bytes pc = .ok (.instanceof index, 3))
    (k : ∀ T', Wk p l e R s m args below meth c Z EL kn own T' h ss cells slots → Fi p e below s Z EL kc ks P T' (mkF m (pc + 3) Ls (.int 1 :: st))) : Fi p e below s Z EL kc ks P T (mkF m pc Ls (.ref a :: st)) :=
  W.quiet (fun X hZ hown => Jvm.RoadKit.instY X me.x hZ hown w W.heap I rfl rfl (hb me.b hd)) k
theorem Wk.initO {a : Addr} (W : Wk p l e R s m args below meth c Z EL kn own T h ss cells slots) (me : Me p meth c nm bytes maxL ret) (w1 : (Cond.methodLink own index Lib.objectInit).before a0 Z = true) (w2 : (Cond.instanceMethod Lib.objectInit).before a0 Z = true) (w3 : (Cond.code Lib.objectInit ⟨#[0xb1]⟩ 1 none).before a0 Z = true)
    (hd : decode bytes pc = .ok (.invokespecial index, 3)) (hsz : Ls.size = maxL) (hf : 1 ≤ R.frames) (hl : (st.map fun v => v.category).sum + 12 ≤ R.locals)
    (k : ∀ T', Wk p l e R s m args below meth c Z EL kn own T' h ss cells slots → Fi p e below s Z EL kc ks P T' (mkF m (pc + 3) Ls st)) : Fi p e below s Z EL kc ks P T (mkF m pc Ls (.ref a :: st)) :=
  W.quiet (fun X hZ hown => Jvm.RoadKit.initO X me.x hZ hown w1 w2 w3 W.heap (g := mkF m pc Ls (.ref a :: st)) rfl (hsz.trans me.ml.symm) rfl (hb me.b hd) hf (W := (st.map fun v => v.category).sum) (by show 2 * 0 + _ ≤ _; omega) hl) k
/-- ldc of a String constant that is told, read -/
theorem Wk.ldcS {text : String} {vs : List Value} {z : Int32} {n : Nat} (W : Wk p l e R s m args below meth c Z EL kn own T h ss cells slots) (me : Me p meth c nm bytes maxL ret) (hEL : EW Z a0 EL) (hmem : (own, index) ∈ EL) (w : (Cond.stringLink own index text).before a0 Z = true) (wS : ∀ a ∈ Bundle.stringAtoms, a.before a0 Z = true)
    (ht : (∀ c ∈ text.toList, c.toNat < 256) ∧ text.toList.map (fun c => Value.int (Jvm.Lit.byteI c.toNat.toUInt16)) = vs) (hz : ¬ z < 0) (hl : z.toNatClampNeg = vs.length) (hd : decode bytes pc = .ok (.ldc index, 2)) (hn : 4 * text.toList.length ≤ n) (hbig : n ≤ 536870912) (hc : cells + 2 ≤ R.cells) (hl' : slots + (n + 4) ≤ R.slots)
    (k : ∀ T' h' a b ka, Wk p l e R s m args below meth c Z EL kn own T' h' ss (cells + 2) (slots + (n + 4)) → Ext h h' → Exa Z h' a "java/lang/String" → Fld Z h' a "java/lang/String" "coder" "B" (.int 0) → Fld Z h' a "java/lang/String" "value" "[B" (.ref b) → Arv Z h' b ka .byte z vs (.int 0) → (∀ x ∈ ss, x ≠ a ∧ x ≠ b) →
      Fi p e below s Z EL kc ks P T' (mkF m (pc + 2) Ls (.ref a :: st))) : Fi p e below s Z EL kc ks P T (mkF m pc Ls st) := by
  obtain ⟨vm0, locs, k0, X, eT, hZ, hS, hk, hown, N, O, C, hss, hK⟩ := W
  obtain ⟨a, T', h', k1, b, ka, X', e', E, hS2, hk2, hW, hf, EA, FC, FV, A, -, -, C2, -, hne, stp⟩ := ldcCH X me.x hZ hown w wS eT hS hk hEL hmem C.1 ht hz hl (g := mkF m pc Ls st) rfl (hb me.b hd) hn hbig hc hl'
  have hal : vm0.Alike T'.vm := by
    have q := State.Warmed39.alike hW
    exact (State.Warmed39.alike hZ).symm.trans q
  have ss2 : ∀ x ∈ ss, x < h'.size ∧ Safe Z EL T'.vm h' x := fun x hx => ⟨Nat.lt_of_lt_of_le (hss x hx).1 E.1, C2.safe (hss x hx).1 (hss x hx).2⟩
  refine (k T' h' a b ka ⟨T'.vm, locs, k1, X', e', hW, hS2, hk2, hf, N, O.ext E, C.trans C2, ss2, fun q => ⟨Vm.MethodsKnown.alikeC hal (hK q).1, Vm.FramesKnown.alikeC hal (hK q).2⟩⟩ E EA FC FV A (fun x hx => hne x (ss2 x hx).2)).step stp
end Consts
section Calls
variable {index : Nat} {y y' z : MethodName} {ybytes : ByteArray} {ymaxL : Nat} {yret : Option FieldType} {rm : Room} {ss' : List Addr} {rest : List Value}
theorem Wk.callS {argsL : List Value} {Q : Option Value → Heap → Prop} (W : Wk p l e R s m args below meth c Z EL kn own T h ss cells slots) (me : Me p meth c nm bytes maxL ret) (hEL : EW Z a0 EL) (w1 : (Cond.methodLink own index y).before a0 Z = true) (w2 : (Cond.static y).before a0 Z = true) (w3 : (Cond.initialized y.cls).before a0 Z = true) (w4 : (Cond.code y ybytes ymaxL yret).before a0 Z = true)
    (hM : Con l Z EL kn [] y ybytes ymaxL yret rm argsL.toArray h ss' Q) (hd : decode bytes pc = .ok (.invokestatic index, 3)) (hy : y.cls ≠ "java/lang/invoke/MethodHandle" ∧ y.cls ≠ "java/lang/invoke/VarHandle") (hss : ∀ x ∈ ss', x ∈ ss) (hsz : Ls.size = maxL) (hlen : ∀ sig, parseMethodDescriptor y.desc = some sig → argsL.length = sig.parameters.length)
    (hf : rm.frames + 1 ≤ R.frames) (hl : (rest.map fun v => v.category).sum + (ymaxL + 11) + rm.locals ≤ R.locals) (hc : cells + rm.cells ≤ R.cells) (hs : slots + rm.slots ≤ R.slots) {stk : List Value} (hstk : stk = argsL.reverse ++ rest)
    (k : ∀ T' h' v, Wk p l e R s m args below meth c Z EL kn own T' h' ss (cells + rm.cells) (slots + rm.slots) → h.size ≤ h'.size → Q v h' → Fi p e below s Z EL kc ks P T' (mkF m (pc + 3) Ls (v.toList ++ rest))) : Fi p e below s Z EL kc ks P T (mkF m pc Ls stk) := by
  obtain ⟨vm0, locs, k0, X, eT, hZ, hS, hk, hown, N, O, C, hsf, hK⟩ := W
  subst hstk
  obtain ⟨v, vm1, B, hW1, X', hS2, hg, ⟨L, ⟨hq, NL, OB⟩, e1, e2, e3, C2⟩, stp⟩ := callSS X me.x hown (mvT (s := s.setVm vm0) hZ w1) (mvT (s := s.setVm vm0) hZ w2) (mvT (s := s.setVm vm0) hZ w3) (mvT (s := s.setVm vm0) hZ w4) hy
    (Con.back (Wt := (rest.map fun v => v.category).sum) hM hZ w4 w3 hf hl hEL C.1 (fun x hx => hsf x (hss x hx)) hK) (g := mkF m pc Ls (argsL.reverse ++ rest)) rfl (hsz.trans me.ml.symm) hlen rfl (by show 2 * 0 + _ ≤ _; omega) (hb me.b hd) (fun _ _ => ⟨rfl, eT, hc, hs⟩)
  have hg' : h.size ≤ B.U.heap.size := by rw [← eT]; exact hg
  exact (k B.U B.U.heap v (Wk.behind X' hZ hS hk hown N C hsf hK hS2 hg' NL OB e1 e2 e3 C2) hg' hq).step fun t F => stp.trans F
theorem Wk.callI {argsL : List Value} {a : Addr} {Q : Option Value → Heap → Prop} (W : Wk p l e R s m args below meth c Z EL kn own T h ss cells slots) (me : Me p meth c nm bytes maxL ret) (hEL : EW Z a0 EL) (w1 : (Cond.methodLink own index y).before a0 Z = true) (w2 : (Cond.instanceMethod y).before a0 Z = true) (w3 : (Cond.initialized y.cls).before a0 Z = true) (w4 : (Cond.code y ybytes ymaxL none).before a0 Z = true) (hy1 : y.name = "<init>")
    (hM : Con l Z EL kn [] y ybytes ymaxL none rm (.ref a :: argsL).toArray h ss' Q) (hd : decode bytes pc = .ok (.invokespecial index, 3)) (hy : y.cls ≠ "java/lang/invoke/MethodHandle" ∧ y.cls ≠ "java/lang/invoke/VarHandle") (hss : ∀ x ∈ ss', x ∈ ss) (hsz : Ls.size = maxL) (hlen : ∀ sig, parseMethodDescriptor y.desc = some sig → argsL.length = sig.parameters.length)
    (hf : rm.frames + 1 ≤ R.frames) (hl : (rest.map fun v => v.category).sum + (ymaxL + 11) + rm.locals ≤ R.locals) (hc : cells + rm.cells ≤ R.cells) (hs : slots + rm.slots ≤ R.slots) {stk : List Value} (hstk : stk = argsL.reverse ++ .ref a :: rest)
    (k : ∀ T' h' v, Wk p l e R s m args below meth c Z EL kn own T' h' ss (cells + rm.cells) (slots + rm.slots) → h.size ≤ h'.size → Q v h' → Fi p e below s Z EL kc ks P T' (mkF m (pc + 3) Ls (v.toList ++ rest))) : Fi p e below s Z EL kc ks P T (mkF m pc Ls stk) := by
  obtain ⟨vm0, locs, k0, X, eT, hZ, hS, hk, hown, N, O, C, hsf, hK⟩ := W
  subst hstk
  obtain ⟨v, vm1, B, hW1, X', hS2, hg, ⟨L, ⟨hq, NL, OB⟩, e1, e2, e3, C2⟩, stp⟩ := X.specialBackS me.x hy1 hown (mvT (s := s.setVm vm0) hZ w1) (mvT (s := s.setVm vm0) hZ w2) (mvT (s := s.setVm vm0) hZ w4) hy
    (Con.back (Wt := (rest.map fun v => v.category).sum) hM hZ w4 w3 hf hl hEL C.1 (fun x hx => hsf x (hss x hx)) hK) (g := mkF m pc Ls (argsL.reverse ++ .ref a :: rest)) rfl (hsz.trans me.ml.symm) (Steps.refl _) hlen rfl (by show 2 * 0 + _ ≤ _; omega) (hb me.b hd) (fun _ _ => ⟨rfl, eT, hc, hs⟩)
  have hg' : h.size ≤ B.U.heap.size := by rw [← eT]; exact hg
  exact (k B.U B.U.heap v (Wk.behind X' hZ hS hk hown N C hsf hK hS2 hg' NL OB e1 e2 e3 C2) hg' hq).step fun t F => stp.trans F
theorem Wk.callV {argsL : List Value} {a : Addr} {CC : String} {Q : Option Value → Heap → Prop} (W : Wk p l e R s m args below meth c Z EL kn own T h ss cells slots) (me : Me p meth c nm bytes maxL ret) (hEL : EW Z a0 EL) (w1 : (Cond.methodLink own index y).before a0 Z = true) (w2 : (Cond.declares y).before a0 Z = true) (hnf : ∀ {vm0 : Vm}, Z.Warmed39 vm0 → NotFace (s.setVm vm0) y) (w3 : (Cond.selects CC y z).before a0 Z = true) (w4 : (Cond.instanceMethod z).before a0 Z = true) (w5 : (Cond.initialized z.cls).before a0 Z = true) (w6 : (Cond.code z ybytes ymaxL yret).before a0 Z = true)
    (E : Exa Z h a CC) (hM : Con l Z EL kn [] z ybytes ymaxL yret rm (.ref a :: argsL).toArray h ss' Q) (hd : decode bytes pc = .ok (.invokevirtual index, 3)) (hy : y.cls ≠ "java/lang/invoke/MethodHandle" ∧ y.cls ≠ "java/lang/invoke/VarHandle") (hss : ∀ x ∈ ss', x ∈ ss) (hsz : Ls.size = maxL) (hlen : ∀ sig, parseMethodDescriptor y.desc = some sig → argsL.length = sig.parameters.length)
    (hf : rm.frames + 1 ≤ R.frames) (hl : (rest.map fun v => v.category).sum + (ymaxL + 11) + rm.locals ≤ R.locals) (hc : cells + rm.cells ≤ R.cells) (hs : slots + rm.slots ≤ R.slots) {stk : List Value} (hstk : stk = argsL.reverse ++ .ref a :: rest)
    (k : ∀ T' h' v, Wk p l e R s m args below meth c Z EL kn own T' h' ss (cells + rm.cells) (slots + rm.slots) → h.size ≤ h'.size → Q v h' → Fi p e below s Z EL kc ks P T' (mkF m (pc + 3) Ls (v.toList ++ rest))) : Fi p e below s Z EL kc ks P T (mkF m pc Ls stk) := by
  obtain ⟨vm0, locs, k0, X, eT, hZ, hS, hk, hown, N, O, C, hsf, hK⟩ := W
  subst hstk
  obtain ⟨cB, kB, qa, qb, qc⟩ := isOf (s := s.setVm vm0) (T := T) hZ eT E
  obtain ⟨v, vm1, B, hW1, X', hS2, hg, ⟨L, ⟨hq, NL, OB⟩, e1, e2, e3, C2⟩, stp⟩ := X.virtualBackS me.x hown (mvT (s := s.setVm vm0) hZ w1) (mvT (s := s.setVm vm0) hZ w2) (hnf hZ) (mvT (s := s.setVm vm0) hZ w3) (mvT (s := s.setVm vm0) hZ w4) hy
    (Con.back (Wt := (rest.map fun v => v.category).sum) hM hZ w6 w5 hf hl hEL C.1 (fun x hx => hsf x (hss x hx)) hK) qa qc (g := mkF m pc Ls (argsL.reverse ++ .ref a :: rest)) rfl (hsz.trans me.ml.symm) (Steps.refl _) hlen rfl (by show 2 * 0 + _ ≤ _; omega) (hb me.b hd) (fun _ _ => ⟨rfl, eT, hc, hs⟩)
  have hg' : h.size ≤ B.U.heap.size := by rw [← eT]; exact hg
  exact (k B.U B.U.heap v (Wk.behind X' hZ hS hk hown N C hsf hK hS2 hg' NL OB e1 e2 e3 C2) hg' hq).step fun t F => stp.trans F
theorem Wk.callF {argsL : List Value} {a : Addr} {CC : String} {count : Nat} {Q : Option Value → Heap → Prop} (W : Wk p l e R s m args below meth c Z EL kn own T h ss cells slots) (me : Me p meth c nm bytes maxL ret) (hEL : EW Z a0 EL) (w1 : (Cond.methodLink own index y).before a0 Z = true) (w2 : (Cond.declares y).before a0 Z = true) (w2' : (Cond.interfaceMethod y.cls y.cls y.name y.desc).before a0 Z = true) (hi' : ((Cond.interfaceMethod y.cls y.cls y.name y.desc).onTables && (Cond.interfaceMethod y.cls y.cls y.name y.desc).keepsFace) = true) (w3 : (Cond.selects CC y z).before a0 Z = true) (w4 : (Cond.instanceMethod z).before a0 Z = true) (w4' : (Cond.publicMethod z).before a0 Z = true) (w4u : (Cond.unhidden CC y.name y.desc).before a0 Z = true) (w4c : (Cond.castable CC y.cls).before a0 Z = true) (w5 : (Cond.initialized z.cls).before a0 Z = true) (w6 : (Cond.code z ybytes ymaxL yret).before a0 Z = true)
    (E : Exa Z h a CC) (hM : Con l Z EL kn [] z ybytes ymaxL yret rm (.ref a :: argsL).toArray h ss' Q) (hd : decode bytes pc = .ok (.invokeinterface index count, 5)) (hy : y.cls ≠ "java/lang/invoke/MethodHandle" ∧ y.cls ≠ "java/lang/invoke/VarHandle") (hss : ∀ x ∈ ss', x ∈ ss) (hsz : Ls.size = maxL) (hlen : ∀ sig, parseMethodDescriptor y.desc = some sig → argsL.length = sig.parameters.length)
    (hf : rm.frames + 1 ≤ R.frames) (hl : (rest.map fun v => v.category).sum + (ymaxL + 11) + rm.locals ≤ R.locals) (hc : cells + rm.cells ≤ R.cells) (hs : slots + rm.slots ≤ R.slots) {stk : List Value} (hstk : stk = argsL.reverse ++ .ref a :: rest)
    (k : ∀ T' h' v, Wk p l e R s m args below meth c Z EL kn own T' h' ss (cells + rm.cells) (slots + rm.slots) → h.size ≤ h'.size → Q v h' → Fi p e below s Z EL kc ks P T' (mkF m (pc + 5) Ls (v.toList ++ rest))) : Fi p e below s Z EL kc ks P T (mkF m pc Ls stk) := by
  obtain ⟨vm0, locs, k0, X, eT, hZ, hS, hk, hown, N, O, C, hsf, hK⟩ := W
  subst hstk
  obtain ⟨cB, kB, qa, qb, qc⟩ := isOf (s := s.setVm vm0) (T := T) hZ eT E
  obtain ⟨v, vm1, B, hW1, X', hS2, hg, ⟨L, ⟨hq, NL, OB⟩, e1, e2, e3, C2⟩, stp⟩ := X.interfaceBackS me.x hown (mvT (s := s.setVm vm0) hZ w1) (mvT (s := s.setVm vm0) hZ w2) (mvT (s := s.setVm vm0) hZ w2' hi') (mvT (s := s.setVm vm0) hZ w3) (mvT (s := s.setVm vm0) hZ w4) (mvT (s := s.setVm vm0) hZ w4') (mvT (s := s.setVm vm0) hZ w4u) (mvT (s := s.setVm vm0) hZ w4c) hy
    (Con.back (Wt := (rest.map fun v => v.category).sum) hM hZ w6 w5 hf hl hEL C.1 (fun x hx => hsf x (hss x hx)) hK) qa qb qc (g := mkF m pc Ls (argsL.reverse ++ .ref a :: rest)) rfl (hsz.trans me.ml.symm) (Steps.refl _) hlen rfl (by show 2 * 0 + _ ≤ _; omega) (hb me.b hd) (fun _ _ => ⟨rfl, eT, hc, hs⟩)
  have hg' : h.size ≤ B.U.heap.size := by rw [← eT]; exact hg
  exact (k B.U B.U.heap v (Wk.behind X' hZ hS hk hown N C hsf hK hS2 hg' NL OB e1 e2 e3 C2) hg' hq).step fun t F => stp.trans F
end Calls
end Steps3
end Jvm.OwnKit
namespace Jvm.OwnKit
open Jvm Jvm.ClassFile Sem Op Lib Jvm.Free Jvm.Stand Jvm.LawKit Jvm.RoadKit Bundle
section Nums
theorem on_int {i : Nat} (h : i < 2 ^ 31) : (Int32.ofNat i).toInt = (i : Int) := Int32.toInt_ofNat_small h
theorem on_clamp {i : Nat} (h : i < 2 ^ 31) : (Int32.ofNat i).toNatClampNeg = i := Int32.toNatClampNeg_ofNat_of_lt h
theorem on_lt {i n : Nat} (h : i < n) (hn : n < 2 ^ 31) : Int32.ofNat i < Int32.ofNat n := by
  rw [Int32.lt_iff_toInt_lt, on_int (by omega), on_int hn]; omega
theorem on_nlt {i n : Nat} (h : n ≤ i) (hi : i < 2 ^ 31) : ¬ Int32.ofNat i < Int32.ofNat n := by
  rw [Int32.lt_iff_toInt_lt, on_int hi, on_int (by omega)]; omega
theorem on_nneg {i : Nat} (hi : i < 2 ^ 31) : ¬ Int32.ofNat i < 0 := by
  rw [Int32.lt_iff_toInt_lt, on_int hi, Int32.toInt_zero]; omega
theorem on_in {i n : Nat} (h : i < n) (hn : n < 2 ^ 31) : ¬ Int32.ofNat i < 0 ∧ Int32.ofNat i < Int32.ofNat n := ⟨on_nneg (by omega), on_lt h hn⟩
theorem on_inj {i n : Nat} (hi : i < 2 ^ 31) (hn : n < 2 ^ 31) : Int32.ofNat i = Int32.ofNat n ↔ i = n := by
  rw [← Int32.toInt_inj, on_int hi, on_int hn]; omega
theorem on_add (i j : Nat) : Int32.ofNat i + Int32.ofNat j = Int32.ofNat (i + j) := (Int32.ofNat_add i j).symm
theorem on_succ (i : Nat) : Int32.ofNat i + 1 = Int32.ofNat (i + 1) := (inc_ofNat i).symm
theorem on_sub {i j : Nat} (h : j ≤ i) : Int32.ofNat i - Int32.ofNat j = Int32.ofNat (i - j) := by
  have e := on_add (i - j) j
  rw [Nat.sub_add_cancel h] at e
  rw [← e, Int32.add_sub_cancel]
theorem nar_char_of {x : Int32} (h : ¬ x < 0 ∧ ¬ (65535 : Int32) < x) : nar .char x = x := by
  have q := c_i2c x
  have h1 := h.1; have h2 := h.2
  rw [Int32.lt_iff_toInt_lt] at h1 h2
  have e : (65535 : Int32).toInt = 65535 := rfl
  rw [Int32.toInt_zero] at h1
  rw [e] at h2
  show x.toUInt32.toUInt16.toUInt32.toInt32 = x
  rw [← Int32.toInt_inj]
  have := q.1; have := q.2.1; have := q.2.2
  omega
theorem nar_byte_idem (x : Int32) : nar .byte x.toInt8.toInt32 = x.toInt8.toInt32 := by
  show x.toInt8.toInt32.toInt8.toInt32 = _
  simp
/-- a char below 256: its byte read back -/
theorem byte_back {x : Int32} (h : ¬ x < 0 ∧ ¬ (255 : Int32) < x) : x.toInt8.toInt32 &&& 255 = x := by
  have h1 := h.1; have h2 := h.2
  rw [Int32.lt_iff_toInt_lt] at h1 h2
  have e : (255 : Int32).toInt = 255 := rfl
  rw [Int32.toInt_zero] at h1
  rw [e] at h2
  rw [← Int32.toInt_inj, c_mask _ _ 8 (by omega) (by decide)]
  have := c_i2b x
  omega
theorem up16 {x : Int32} (h : ¬ x < 0 ∧ ¬ (255 : Int32) < x) : ¬ x < 0 ∧ ¬ (65535 : Int32) < x := ⟨h.1, fun q => h.2 (by
  rw [Int32.lt_iff_toInt_lt] at q ⊢
  have e1 : (65535 : Int32).toInt = 65535 := rfl
  have e2 : (255 : Int32).toInt = 255 := rfl
  omega)⟩
/-- (char) (x & 255) -/
theorem c255 (x : Int32) : ¬ (x &&& (255 : Int32)).toUInt32.toUInt16.toUInt32.toInt32 < 0 ∧ ¬ (255 : Int32) < (x &&& (255 : Int32)).toUInt32.toUInt16.toUInt32.toInt32 := by
  rw [i2c_mask]
  have q := c_mask x 255 8 (by omega) (by decide)
  have e : (255 : Int32).toInt = 255 := rfl
  rw [Int32.lt_iff_toInt_lt, Int32.lt_iff_toInt_lt, Int32.toInt_zero, e, q]
  omega
end Nums
section Kit4
variable {p : Program} {l : Launch} {e : Env} {R : Room} {s : State} {m : MethodId} {args : Array Value} {below : List Frame} {meth : Method} {c : Code} {Z : State} {a0 : Array Value} {EL : List (String × Nat)} {kn : Bool} {own : String}
  {T : State} {h h' h2 : Heap} {ss : List Addr} {cells slots : Nat} {nm : String} {bytes : ByteArray} {maxL : Nat} {ret : Option FieldType} {kc ks : Nat} {P : Option Value → Heap → Prop} {pc : Nat} {Ls : Array Slot} {st : List Value}
  {a : Addr} {n j x : Int32} {ka : ClassId} {vs : List Value} {dv : Value}
theorem Fi.entry {L : Array Slot} {as' : Array Value} (q : entryFrame m as' maxL = mkF m 0 L []) (F : Fi p e below s Z EL kc ks P T (mkF m 0 L [])) : Fi p e below s Z EL kc ks P T (entryFrame m as' maxL) := q ▸ F
theorem set_push (vs : List Value) (dv v : Value) {i : Nat} (hi : vs.length = i) : (vs ++ List.replicate 1 dv).set i v = vs ++ [v] := by subst hi; simp
/-- castore behind the last place told -/
theorem Wk.castoreP {i : Nat} (W : Wk p l e R s m args below meth c Z EL kn own T h ss cells slots) (me : Me p meth c nm bytes maxL ret) (A : Arv Z h a ka .char n vs dv) (hx : ¬ x < 0 ∧ ¬ (65535 : Int32) < x) (hd : decode bytes pc = .ok (.castore, 1)) (hv : vs.length = i) (hi : j.toNatClampNeg = i) (hj : ¬ j < 0 ∧ j < n) (hz : Z.heap.size ≤ a)
    (k : ∀ T' h', Wk p l e R s m args below meth c Z EL kn own T' h' ss cells slots → Wr h h' a i (.int x) → Arv Z h' a ka .char n (vs ++ [.int x]) dv → Fi p e below s Z EL kc ks P T' (mkF m (pc + 1) Ls st)) : Fi p e below s Z EL kc ks P T (mkF m pc Ls (.int x :: .int j :: .ref a :: st)) :=
  W.castore me (A.pad (pad_rep vs dv 1)) hd hj hi (by simp [← hv]) hz (fun T' h' W' q A' => by
    rw [nar_char_of hx] at q A'
    rw [set_push _ _ _ hv] at A'
    exact k T' h' W' q A')
theorem Wk.bastoreP {i : Nat} (W : Wk p l e R s m args below meth c Z EL kn own T h ss cells slots) (me : Me p meth c nm bytes maxL ret) (A : Arv Z h a ka .byte n vs dv) (hx : nar .byte x = x) (hd : decode bytes pc = .ok (.bastore, 1)) (hv : vs.length = i) (hi : j.toNatClampNeg = i) (hj : ¬ j < 0 ∧ j < n) (hS : a ∈ ss) (hz : Z.heap.size ≤ a)
    (k : ∀ T' h', Wk p l e R s m args below meth c Z EL kn own T' h' ss cells slots → Wr h h' a i (.int x) → Arv Z h' a ka .byte n (vs ++ [.int x]) dv → Fi p e below s Z EL kc ks P T' (mkF m (pc + 1) Ls st)) : Fi p e below s Z EL kc ks P T (mkF m pc Ls (.int x :: .int j :: .ref a :: st)) :=
  W.bastore me (A.pad (pad_rep vs dv 1)) hd hj hi (by simp [← hv]) hS hz (fun T' h' W' q A' => by
    rw [hx] at q A'
    rw [set_push _ _ _ hv] at A'
    exact k T' h' W' q A')
/-- what a Latin-1 String's byte[] holds -/
def lb (cs : List Int32) : List Value := cs.map fun c => Value.int c.toInt8.toInt32
/-- every sign below 256 -/
def C8 (cs : List Int32) : Prop := ∀ c ∈ cs, ¬ c < 0 ∧ ¬ (255 : Int32) < c
/-- a String of signs below 256 -/
def Lat (Z : State) (h : Heap) (a : Addr) (cs : List Int32) : Prop :=
  ∃ (b : Addr) (k : ClassId), Exa Z h a "java/lang/String" ∧ Fld Z h a "java/lang/String" "coder" "B" (.int 0) ∧ Fld Z h a "java/lang/String" "value" "[B" (.ref b) ∧ Arv Z h b k .byte (Int32.ofNat cs.length) (lb cs) (.int 0) ∧ cs.length < 2 ^ 20 ∧ C8 cs
theorem Lat.ext {cs : List Int32} (E : Ext h h') (S : Lat Z h a cs) : Lat Z h' a cs := by
  obtain ⟨b, k, h1, h2, h3, h4, h5⟩ := S; exact ⟨b, k, h1.ext E, h2.ext E, h3.ext E, h4.ext E, h5⟩
theorem lb_len (cs : List Int32) : (lb cs).length = cs.length := by simp [lb]
theorem lb_get {cs : List Int32} {i : Nat} (hi : i < cs.length) : (lb cs).getD i (.int 0) = .int (cs.getD i 0).toInt8.toInt32 := by
  simp [lb, List.getD_eq_getElem?_getD, hi]
theorem ci_get {cs : List Int32} {i : Nat} {dv : Value} (hi : i < cs.length) : (cs.map Value.int).getD i dv = .int (cs.getD i 0) := by
  simp [List.getD_eq_getElem?_getD, hi]
theorem C8.at {cs : List Int32} (q : C8 cs) {i : Nat} (hi : i < cs.length) : ¬ cs.getD i 0 < 0 ∧ ¬ (255 : Int32) < cs.getD i 0 := by
  have : cs.getD i 0 = cs[i] := by simp [List.getD_eq_getElem?_getD, hi]
  rw [this]; exact q _ (List.getElem_mem hi)
theorem lb_take_succ {cs : List Int32} {i : Nat} (hi : i < cs.length) : lb (cs.take i) ++ [.int (cs.getD i 0).toInt8.toInt32] = lb (cs.take (i + 1)) := by
  have e : cs.take (i + 1) = cs.take i ++ [cs.getD i 0] := by rw [List.take_add_one]; simp [List.getD_eq_getElem?_getD, hi]
  rw [e]
  show _ = List.map _ (_ ++ [_])
  rw [List.map_append]
  rfl
theorem C8.nil : C8 [] := fun _ q => nomatch q
theorem C8.cons {c : Int32} {cs : List Int32} (q : ¬ c < 0 ∧ ¬ (255 : Int32) < c) (r : C8 cs) : C8 (c :: cs) := fun x hx => by
  rcases List.mem_cons.mp hx with rfl | hx
  · exact q
  · exact r x hx
end Kit4
end Jvm.OwnKit
namespace Jvm.OwnKit
open Jvm Jvm.ClassFile Sem Op Lib Jvm.Free Jvm.Stand Jvm.LawKit Jvm.RoadKit Bundle
section Kit5
variable {p : Program} {l : Launch} {e : Env} {R : Room} {s : State} {m : MethodId} {args : Array Value} {below : List Frame} {meth : Method} {c : Code} {Z : State} {a0 : Array Value} {EL : List (String × Nat)} {kn : Bool} {own : String}
  {T : State} {h h' h2 : Heap} {ss : List Addr} {cells slots : Nat} {nm : String} {bytes : ByteArray} {maxL : Nat} {ret : Option FieldType} {kc ks : Nat} {P : Option Value → Heap → Prop} {pc : Nat} {Ls : Array Slot} {st : List Value}
theorem own_nfw : nativeFrameWords "java/lang/System" "arraycopy" 5 = 7 := by decide
theorem Wk.keeps {g g' : JFrame} {ws : List Addr} {Q : Heap → Prop} (W : Wk p l e R s m args below meth c Z EL kn own T h ss cells slots) (hS : ∀ x ∈ ws, Sf Z h ss x) (hn : ∀ x ∈ ws, Z.heap.size ≤ x)
    (law : ∀ {vm0 : Vm} {locs : List Loc}, Stand p l e R (s.setVm vm0) m args below meth c T locs cells slots → Z.Warmed39 vm0 → vm0.findClass own = some m.cls → Fr Z.heap.size locs → ∃ T' h' L, Stand p l e R (s.setVm vm0) m args below meth c T' L cells slots ∧ T'.heap = h' ∧ Fr Z.heap.size L ∧ Keep h h' ws ∧ Q h' ∧ ∀ target, Steps p.tables e below (T'.setTop g') target → Steps p.tables e below (T.setTop g) target)
    (F : ∀ T' h', Wk p l e R s m args below meth c Z EL kn own T' h' ss cells slots → Keep h h' ws → Q h' → Fi p e below s Z EL kc ks P T' g') : Fi p e below s Z EL kc ks P T g := by
  obtain ⟨vm0, locs, k0, X, eT, hZ, hSi, hk, hown, N, O, C, hss, hK⟩ := W
  obtain ⟨T', h', L, X', e', N', K, q, st⟩ := law X hZ hown N
  have S0 : ∀ x ∈ ws, Safe Z EL vm0 h x := fun x hx => (hS x hx).safe hZ.alike hss
  have C2 := CHr.keep K S0 C.1
  exact (F T' h' ⟨vm0, L, k0, X', e', hZ, hSi, Nat.le_trans hk K.1, hown, N', O.keep K hn, C.trans C2, fun x hx => ⟨Nat.lt_of_lt_of_le (hss x hx).1 K.1, Safe.keep K S0 C.1 (hss x hx).2⟩, hK⟩ K q).step st
/-- System.arraycopy between two byte[]s, the places told -/
theorem Wk.acopy {index : Nat} {a b : Addr} {k k' : ClassId} {z z' sp dp nn : Int32} {vs vd us : List Value} {dv dd : Value} {ty : FieldType} (W : Wk p l e R s m args below meth c Z EL kn own T h ss cells slots) (me : Me p meth c nm bytes maxL ret)
    (w1 : (Cond.methodLink own index Jvm.Stand.acN).before a0 Z = true) (w2 : (Cond.native Jvm.Stand.acN).before a0 Z = true) (w3 : (Cond.static Jvm.Stand.acN).before a0 Z = true) (w4 : (Cond.initialized "java/lang/System").before a0 Z = true)
    (A : Arv Z h a k ty z vs dv) (B : Arv Z h b k' ty z' vd dd) (hty : refKind ty = false) (hS : Sf Z h ss b) (hz : Z.heap.size ≤ b)
    (h1 : ¬ sp < 0) (h2 : ¬ dp < 0) (h3 : ¬ nn < 0) (h4 : sp.toNatClampNeg + nn.toNatClampNeg ≤ z.toNatClampNeg) (h5 : dp.toNatClampNeg + nn.toNatClampNeg ≤ z'.toNatClampNeg)
    (hus : us = (List.range nn.toNatClampNeg).map fun i => vs.getD (sp.toNatClampNeg + i) dv) (hl : dp.toNatClampNeg + nn.toNatClampNeg ≤ vd.length) (hd : decode bytes pc = .ok (.invokestatic index, 3)) (hsz : Ls.size = maxL) (hf : 1 ≤ R.frames) (hlo : (st.map fun v => v.category).sum + 18 ≤ R.locals)
    (F : ∀ T' h', Wk p l e R s m args below meth c Z EL kn own T' h' ss cells slots → Keep h h' [b] → Arv Z h' b k' ty z' (vd.take dp.toNatClampNeg ++ us ++ vd.drop (dp.toNatClampNeg + nn.toNatClampNeg)) dd → Fi p e below s Z EL kc ks P T' (mkF m (pc + 3) Ls st)) :
    Fi p e below s Z EL kc ks P T (mkF m pc Ls (.int nn :: .int dp :: .ref b :: .int sp :: .ref a :: st)) :=
  W.keeps (ws := [b]) (Q := fun h' => Arv Z h' b k' ty z' (vd.take dp.toNatClampNeg ++ us ++ vd.drop (dp.toNatClampNeg + nn.toNatClampNeg)) dd) (allS hS all0) (allS hz all0)
    (fun X hZ hown N => by
      obtain ⟨T', h', L, X', e', N', K, q, st'⟩ := cpA X me.x hZ hown w1 w2 w3 w4 W.heap A B (Or.inl ⟨rfl, hty⟩) h1 h2 h3 h4 h5 hus hl N hz (g := mkF m pc Ls (.int nn :: .int dp :: .ref b :: .int sp :: .ref a :: st)) rfl (hsz.trans me.ml.symm) rfl (hb me.b hd) hf (W := (st.map fun v => v.category).sum) (by show 2 * 0 + _ ≤ _; omega) (by rw [own_nfw]; exact hlo)
      exact ⟨T', h', L, X', e', N', K, q, st'⟩)
    F
theorem own_fill {a : Addr} {k : ClassId} {ty : FieldType} {z : Int32} {dv : Value} (A : Arv Z h a k ty z [] dv) (n : Nat) : Arv Z h a k ty z (List.replicate n dv) dv := A.pad (pad_rep [] dv n)
/-- the signs from f on, n of them -/
def sub (cs : List Int32) (f n : Nat) : List Int32 := (cs.drop f).take n
theorem sub_len {cs : List Int32} {f n : Nat} (q : f + n ≤ cs.length) : (sub cs f n).length = n := by simp [sub]; omega
theorem sub_all (cs : List Int32) : sub cs 0 cs.length = cs := by simp [sub]
theorem sub_nil (cs : List Int32) (f : Nat) : sub cs f 0 = [] := by simp [sub]
theorem sub_get {cs : List Int32} {f n i : Nat} (hi : i < n) : (sub cs f n).getD i 0 = cs.getD (f + i) 0 := by
  simp [sub, List.getD_eq_getElem?_getD, List.getElem?_take, hi]
theorem C8.sub {cs : List Int32} (q : C8 cs) (f n : Nat) : C8 (Jvm.OwnKit.sub cs f n) := fun c hc => q c (List.mem_of_mem_drop (List.mem_of_mem_take hc))
theorem own_us {cs : List Int32} {f n : Nat} (q : f + n ≤ cs.length) : (List.range n).map (fun i => (lb cs).getD (f + i) (.int 0)) = lb (sub cs f n) := by
  apply List.ext_getElem
  · simp [lb_len, sub_len q]
  · intro i h1 h2
    have hi : i < n := by simpa using h1
    have e : (lb (sub cs f n))[i] = (lb (sub cs f n)).getD i (.int 0) := by simp [List.getD_eq_getElem?_getD, h2]
    rw [e, lb_get (by rw [sub_len q]; exact hi), sub_get hi]
    simp only [List.getElem_map, List.getElem_range]
    rw [lb_get (by omega)]
theorem byte_inj {x y : Int32} (hx : ¬ x < 0 ∧ ¬ (255 : Int32) < x) (hy : ¬ y < 0 ∧ ¬ (255 : Int32) < y) (q : x.toInt8.toInt32 = y.toInt8.toInt32) : x = y := by rw [← byte_back hx, q, byte_back hy]
/-- the first place of x, or -1 -/
def ixF (x : Int32) (cs : List Int32) : Int32 := if cs.findIdx (· == x) < cs.length then Int32.ofNat (cs.findIdx (· == x)) else -1
theorem gd {cs : List Int32} {i : Nat} (h : i < cs.length) : cs.getD i 0 = cs[i] := by simp [List.getD_eq_getElem?_getD, h]
theorem ixF_found {cs : List Int32} {x : Int32} {i : Nat} (h : i < cs.length) (e : cs.getD i 0 = x) (q : ∀ j, j < i → cs.getD j 0 ≠ x) : ixF x cs = Int32.ofNat i ∧ cs.findIdx (· == x) = i := by
  have e1 : cs.findIdx (· == x) = i := by
    rw [List.findIdx_eq h]
    refine ⟨by rw [← gd h, e]; simp, fun j hj => ?_⟩
    have := q j hj
    rw [gd (by omega)] at this
    simp [this]
  exact ⟨by rw [ixF, e1, if_pos h], e1⟩
theorem ixF_none {cs : List Int32} {x : Int32} (q : ∀ j, j < cs.length → cs.getD j 0 ≠ x) : ixF x cs = -1 := by
  rw [ixF, if_neg]
  intro h
  have e := List.findIdx_getElem (p := (· == x)) (w := h)
  have := q _ h
  rw [gd h] at this
  simp at e
  exact this e
theorem Lat.exa {a : Addr} {cs : List Int32} (L : Lat Z h a cs) : Exa Z h a "java/lang/String" := by obtain ⟨_, _, q, _⟩ := L; exact q
theorem al0 {P : Nat → Prop} : ∀ j, j < 0 → P j := fun j q => absurd q (Nat.not_lt_zero _)
theorem alS {P : Nat → Prop} {n : Nat} (q : ∀ j, j < n → P j) (r : P n) : ∀ j, j < n + 1 → P j := fun j z => (Nat.lt_succ_iff_lt_or_eq.mp z).elim (q j) (fun u => u ▸ r)
end Kit5
end Jvm.OwnKit
namespace Jvm.Pilot.@@N@@
open Jvm Jvm.ClassFile Sem Op Lib Jvm.Free Jvm.Stand Jvm.LawKit Jvm.RoadKit Bundle Jvm.OwnKit Jvm.Pilot.@@N@@.Jvm.D
theorem d_jdk_52_method_15_0 : decode jdk_52_method_15_code 0 = .ok (.iload_n 1, 1) := by decide +kernel
theorem d_jdk_52_method_15_1 : decode jdk_52_method_15_code 1 = .ok (.aload_n 0, 1) := by decide +kernel
theorem d_jdk_52_method_15_2 : decode jdk_52_method_15_code 2 = .ok (.arraylength, 1) := by decide +kernel
theorem d_jdk_52_method_15_3 : decode jdk_52_method_15_code 3 = .ok (.isub, 1) := by decide +kernel
theorem d_jdk_52_method_15_4 : decode jdk_52_method_15_code 4 = .ok (.bipush 31, 2) := by decide +kernel
theorem d_jdk_52_method_15_6 : decode jdk_52_method_15_code 6 = .ok (.iushr, 1) := by decide +kernel
theorem d_jdk_52_method_15_7 : decode jdk_52_method_15_code 7 = .ok (.i2b, 1) := by decide +kernel
theorem d_jdk_52_method_15_8 : decode jdk_52_method_15_code 8 = .ok (.ireturn, 1) := by decide +kernel
theorem d_jdk_52_method_21_3 : decode jdk_52_method_21_code 3 = .ok (.iload 5, 2) := by decide +kernel
theorem d_jdk_52_method_21_5 : decode jdk_52_method_21_code 5 = .ok (.iload 4, 2) := by decide +kernel
theorem d_jdk_52_method_21_7 : decode jdk_52_method_21_code 7 = .ok (.if_icmp .ge 37, 3) := by decide +kernel
theorem d_jdk_52_method_21_44 : decode jdk_52_method_21_code 44 = .ok (.iload 4, 2) := by decide +kernel
theorem d_jdk_52_method_21_46 : decode jdk_52_method_21_code 46 = .ok (.ireturn, 1) := by decide +kernel
theorem d_jdk_52_method_21_10 : decode jdk_52_method_21_code 10 = .ok (.aload_n 0, 1) := by decide +kernel
theorem d_jdk_52_method_21_11 : decode jdk_52_method_21_code 11 = .ok (.iload_n 1, 1) := by decide +kernel
theorem d_jdk_52_method_21_12 : decode jdk_52_method_21_code 12 = .ok (.caload, 1) := by decide +kernel
theorem d_jdk_52_method_21_13 : decode jdk_52_method_21_code 13 = .ok (.istore 6, 2) := by decide +kernel
theorem d_jdk_52_method_21_15 : decode jdk_52_method_21_code 15 = .ok (.iload 6, 2) := by decide +kernel
theorem d_jdk_52_method_21_17 : decode jdk_52_method_21_code 17 = .ok (.sipush 255, 3) := by decide +kernel
theorem d_jdk_52_method_21_20 : decode jdk_52_method_21_code 20 = .ok (.if_icmp .le 6, 3) := by decide +kernel
theorem d_jdk_52_method_21_26 : decode jdk_52_method_21_code 26 = .ok (.aload_n 2, 1) := by decide +kernel
theorem d_jdk_52_method_21_27 : decode jdk_52_method_21_code 27 = .ok (.iload_n 3, 1) := by decide +kernel
theorem d_jdk_52_method_21_28 : decode jdk_52_method_21_code 28 = .ok (.iload 6, 2) := by decide +kernel
theorem d_jdk_52_method_21_30 : decode jdk_52_method_21_code 30 = .ok (.i2b, 1) := by decide +kernel
theorem d_jdk_52_method_21_31 : decode jdk_52_method_21_code 31 = .ok (.bastore, 1) := by decide +kernel
theorem d_jdk_52_method_21_32 : decode jdk_52_method_21_code 32 = .ok (.iinc 1 1, 3) := by decide +kernel
theorem d_jdk_52_method_21_35 : decode jdk_52_method_21_code 35 = .ok (.iinc 3 1, 3) := by decide +kernel
theorem d_jdk_52_method_21_38 : decode jdk_52_method_21_code 38 = .ok (.iinc 5 1, 3) := by decide +kernel
theorem d_jdk_52_method_21_41 : decode jdk_52_method_21_code 41 = .ok (.goto (-38), 3) := by decide +kernel
theorem d_jdk_52_method_21_0 : decode jdk_52_method_21_code 0 = .ok (.iconst 0, 1) := by decide +kernel
theorem d_jdk_52_method_21_1 : decode jdk_52_method_21_code 1 = .ok (.istore 5, 2) := by decide +kernel
theorem d_jdk_52_method_16_0 : decode jdk_52_method_16_code 0 = .ok (.iload_n 2, 1) := by decide +kernel
theorem d_jdk_52_method_16_1 : decode jdk_52_method_16_code 1 = .ok (.newarray .byte, 2) := by decide +kernel
theorem d_jdk_52_method_16_3 : decode jdk_52_method_16_code 3 = .ok (.astore_n 3, 1) := by decide +kernel
theorem d_jdk_52_method_16_4 : decode jdk_52_method_16_code 4 = .ok (.aload_n 0, 1) := by decide +kernel
theorem d_jdk_52_method_16_5 : decode jdk_52_method_16_code 5 = .ok (.iload_n 1, 1) := by decide +kernel
theorem d_jdk_52_method_16_6 : decode jdk_52_method_16_code 6 = .ok (.aload_n 3, 1) := by decide +kernel
theorem d_jdk_52_method_16_7 : decode jdk_52_method_16_code 7 = .ok (.iconst 0, 1) := by decide +kernel
theorem d_jdk_52_method_16_8 : decode jdk_52_method_16_code 8 = .ok (.iload_n 2, 1) := by decide +kernel
theorem d_jdk_52_method_16_9 : decode jdk_52_method_16_code 9 = .ok (.invokestatic 115, 3) := by decide +kernel
theorem d_jdk_52_method_16_12 : decode jdk_52_method_16_code 12 = .ok (.istore 4, 2) := by decide +kernel
theorem d_jdk_52_method_16_14 : decode jdk_52_method_16_code 14 = .ok (.iload 4, 2) := by decide +kernel
theorem d_jdk_52_method_16_16 : decode jdk_52_method_16_code 16 = .ok (.iload_n 2, 1) := by decide +kernel
theorem d_jdk_52_method_16_17 : decode jdk_52_method_16_code 17 = .ok (.if_icmp .eq 40, 3) := by decide +kernel
theorem d_jdk_52_method_16_57 : decode jdk_52_method_16_code 57 = .ok (.aload_n 3, 1) := by decide +kernel
theorem d_jdk_52_method_16_58 : decode jdk_52_method_16_code 58 = .ok (.areturn, 1) := by decide +kernel
theorem d_jdk_42_method_149_0 : decode jdk_42_method_149_code 0 = .ok (.aload_n 0, 1) := by decide +kernel
theorem d_jdk_42_method_149_1 : decode jdk_42_method_149_code 1 = .ok (.invokespecial 1, 3) := by decide +kernel
theorem d_jdk_42_method_149_4 : decode jdk_42_method_149_code 4 = .ok (.iload_n 3, 1) := by decide +kernel
theorem d_jdk_42_method_149_5 : decode jdk_42_method_149_code 5 = .ok (.ifCond .ne 22, 3) := by decide +kernel
theorem d_jdk_42_method_149_8 : decode jdk_42_method_149_code 8 = .ok (.aload_n 0, 1) := by decide +kernel
theorem d_jdk_42_method_149_9 : decode jdk_42_method_149_code 9 = .ok (.ldc 7, 2) := by decide +kernel
theorem d_jdk_42_method_149_11 : decode jdk_42_method_149_code 11 = .ok (.getfield 9, 3) := by decide +kernel
theorem d_jdk_42_method_149_14 : decode jdk_42_method_149_code 14 = .ok (.putfield 9, 3) := by decide +kernel
theorem d_jdk_42_method_149_17 : decode jdk_42_method_149_code 17 = .ok (.aload_n 0, 1) := by decide +kernel
theorem d_jdk_42_method_149_18 : decode jdk_42_method_149_code 18 = .ok (.ldc 7, 2) := by decide +kernel
theorem d_jdk_42_method_149_20 : decode jdk_42_method_149_code 20 = .ok (.getfield 15, 3) := by decide +kernel
theorem d_jdk_42_method_149_23 : decode jdk_42_method_149_code 23 = .ok (.putfield 15, 3) := by decide +kernel
theorem d_jdk_42_method_149_26 : decode jdk_42_method_149_code 26 = .ok (.return_, 1) := by decide +kernel
theorem d_jdk_42_method_149_27 : decode jdk_42_method_149_code 27 = .ok (.getstatic 38, 3) := by decide +kernel
theorem d_jdk_42_method_149_30 : decode jdk_42_method_149_code 30 = .ok (.ifCond .eq 28, 3) := by decide +kernel
theorem d_jdk_42_method_149_33 : decode jdk_42_method_149_code 33 = .ok (.aload_n 1, 1) := by decide +kernel
theorem d_jdk_42_method_149_34 : decode jdk_42_method_149_code 34 = .ok (.iload_n 2, 1) := by decide +kernel
theorem d_jdk_42_method_149_35 : decode jdk_42_method_149_code 35 = .ok (.iload_n 3, 1) := by decide +kernel
theorem d_jdk_42_method_149_36 : decode jdk_42_method_149_code 36 = .ok (.invokestatic 177, 3) := by decide +kernel
theorem d_jdk_42_method_149_39 : decode jdk_42_method_149_code 39 = .ok (.astore 5, 2) := by decide +kernel
theorem d_jdk_42_method_149_41 : decode jdk_42_method_149_code 41 = .ok (.aload_n 0, 1) := by decide +kernel
theorem d_jdk_42_method_149_42 : decode jdk_42_method_149_code 42 = .ok (.aload 5, 2) := by decide +kernel
theorem d_jdk_42_method_149_44 : decode jdk_42_method_149_code 44 = .ok (.iload_n 3, 1) := by decide +kernel
theorem d_jdk_42_method_149_45 : decode jdk_42_method_149_code 45 = .ok (.invokestatic 47, 3) := by decide +kernel
theorem d_jdk_42_method_149_48 : decode jdk_42_method_149_code 48 = .ok (.putfield 15, 3) := by decide +kernel
theorem d_jdk_42_method_149_51 : decode jdk_42_method_149_code 51 = .ok (.aload_n 0, 1) := by decide +kernel
theorem d_jdk_42_method_149_52 : decode jdk_42_method_149_code 52 = .ok (.aload 5, 2) := by decide +kernel
theorem d_jdk_42_method_149_54 : decode jdk_42_method_149_code 54 = .ok (.putfield 9, 3) := by decide +kernel
theorem d_jdk_42_method_149_57 : decode jdk_42_method_149_code 57 = .ok (.return_, 1) := by decide +kernel
theorem d_jdk_42_method_3_0 : decode jdk_42_method_3_code 0 = .ok (.aload_n 0, 1) := by decide +kernel
theorem d_jdk_42_method_3_1 : decode jdk_42_method_3_code 1 = .ok (.aload_n 1, 1) := by decide +kernel
theorem d_jdk_42_method_3_2 : decode jdk_42_method_3_code 2 = .ok (.iconst 0, 1) := by decide +kernel
theorem d_jdk_42_method_3_3 : decode jdk_42_method_3_code 3 = .ok (.aload_n 1, 1) := by decide +kernel
theorem d_jdk_42_method_3_4 : decode jdk_42_method_3_code 4 = .ok (.arraylength, 1) := by decide +kernel
theorem d_jdk_42_method_3_5 : decode jdk_42_method_3_code 5 = .ok (.aconst_null, 1) := by decide +kernel
theorem d_jdk_42_method_3_6 : decode jdk_42_method_3_code 6 = .ok (.invokespecial 27, 3) := by decide +kernel
theorem d_jdk_42_method_3_9 : decode jdk_42_method_3_code 9 = .ok (.return_, 1) := by decide +kernel
theorem d_jdk_42_method_152_0 : decode jdk_42_method_152_code 0 = .ok (.getstatic 38, 3) := by decide +kernel
theorem d_jdk_42_method_152_3 : decode jdk_42_method_152_code 3 = .ok (.ifCond .eq 10, 3) := by decide +kernel
theorem d_jdk_42_method_152_6 : decode jdk_42_method_152_code 6 = .ok (.aload_n 0, 1) := by decide +kernel
theorem d_jdk_42_method_152_7 : decode jdk_42_method_152_code 7 = .ok (.getfield 15, 3) := by decide +kernel
theorem d_jdk_42_method_152_10 : decode jdk_42_method_152_code 10 = .ok (.goto 4, 3) := by decide +kernel
theorem d_jdk_42_method_152_14 : decode jdk_42_method_152_code 14 = .ok (.ireturn, 1) := by decide +kernel
theorem d_jdk_42_method_54_0 : decode jdk_42_method_54_code 0 = .ok (.aload_n 0, 1) := by decide +kernel
theorem d_jdk_42_method_54_1 : decode jdk_42_method_54_code 1 = .ok (.getfield 9, 3) := by decide +kernel
theorem d_jdk_42_method_54_4 : decode jdk_42_method_54_code 4 = .ok (.arraylength, 1) := by decide +kernel
theorem d_jdk_42_method_54_5 : decode jdk_42_method_54_code 5 = .ok (.aload_n 0, 1) := by decide +kernel
theorem d_jdk_42_method_54_6 : decode jdk_42_method_54_code 6 = .ok (.invokevirtual 335, 3) := by decide +kernel
theorem d_jdk_42_method_54_9 : decode jdk_42_method_54_code 9 = .ok (.ishr, 1) := by decide +kernel
theorem d_jdk_42_method_54_10 : decode jdk_42_method_54_code 10 = .ok (.ireturn, 1) := by decide +kernel
theorem d_jdk_42_method_154_0 : decode jdk_42_method_154_code 0 = .ok (.getstatic 38, 3) := by decide +kernel
theorem d_jdk_42_method_154_3 : decode jdk_42_method_154_code 3 = .ok (.ifCond .eq 14, 3) := by decide +kernel
theorem d_jdk_42_method_154_6 : decode jdk_42_method_154_code 6 = .ok (.aload_n 0, 1) := by decide +kernel
theorem d_jdk_42_method_154_7 : decode jdk_42_method_154_code 7 = .ok (.getfield 15, 3) := by decide +kernel
theorem d_jdk_42_method_154_10 : decode jdk_42_method_154_code 10 = .ok (.ifCond .ne 7, 3) := by decide +kernel
theorem d_jdk_42_method_154_13 : decode jdk_42_method_154_code 13 = .ok (.iconst 1, 1) := by decide +kernel
theorem d_jdk_42_method_154_14 : decode jdk_42_method_154_code 14 = .ok (.goto 4, 3) := by decide +kernel
theorem d_jdk_42_method_154_18 : decode jdk_42_method_154_code 18 = .ok (.ireturn, 1) := by decide +kernel
theorem d_jdk_41_method_11_0 : decode jdk_41_method_11_code 0 = .ok (.iload_n 0, 1) := by decide +kernel
theorem d_jdk_41_method_11_1 : decode jdk_41_method_11_code 1 = .ok (.ifCond .lt 8, 3) := by decide +kernel
theorem d_jdk_41_method_11_4 : decode jdk_41_method_11_code 4 = .ok (.iload_n 0, 1) := by decide +kernel
theorem d_jdk_41_method_11_5 : decode jdk_41_method_11_code 5 = .ok (.iload_n 1, 1) := by decide +kernel
theorem d_jdk_41_method_11_6 : decode jdk_41_method_11_code 6 = .ok (.if_icmp .lt 10, 3) := by decide +kernel
theorem d_jdk_41_method_11_16 : decode jdk_41_method_11_code 16 = .ok (.iload_n 0, 1) := by decide +kernel
theorem d_jdk_41_method_11_17 : decode jdk_41_method_11_code 17 = .ok (.ireturn, 1) := by decide +kernel
theorem d_jdk_42_method_155_0 : decode jdk_42_method_155_code 0 = .ok (.iload_n 0, 1) := by decide +kernel
theorem d_jdk_42_method_155_1 : decode jdk_42_method_155_code 1 = .ok (.iload_n 1, 1) := by decide +kernel
theorem d_jdk_42_method_155_2 : decode jdk_42_method_155_code 2 = .ok (.getstatic 1053, 3) := by decide +kernel
theorem d_jdk_42_method_155_5 : decode jdk_42_method_155_code 5 = .ok (.invokestatic 1059, 3) := by decide +kernel
theorem d_jdk_42_method_155_8 : decode jdk_42_method_155_code 8 = .ok (.pop, 1) := by decide +kernel
theorem d_jdk_42_method_155_9 : decode jdk_42_method_155_code 9 = .ok (.return_, 1) := by decide +kernel
theorem d_jdk_43_method_2_0 : decode jdk_43_method_2_code 0 = .ok (.iload_n 1, 1) := by decide +kernel
theorem d_jdk_43_method_2_1 : decode jdk_43_method_2_code 1 = .ok (.aload_n 0, 1) := by decide +kernel
theorem d_jdk_43_method_2_2 : decode jdk_43_method_2_code 2 = .ok (.arraylength, 1) := by decide +kernel
theorem d_jdk_43_method_2_3 : decode jdk_43_method_2_code 3 = .ok (.invokestatic 9, 3) := by decide +kernel
theorem d_jdk_43_method_2_6 : decode jdk_43_method_2_code 6 = .ok (.aload_n 0, 1) := by decide +kernel
theorem d_jdk_43_method_2_7 : decode jdk_43_method_2_code 7 = .ok (.iload_n 1, 1) := by decide +kernel
theorem d_jdk_43_method_2_8 : decode jdk_43_method_2_code 8 = .ok (.baload, 1) := by decide +kernel
theorem d_jdk_43_method_2_9 : decode jdk_43_method_2_code 9 = .ok (.sipush 255, 3) := by decide +kernel
theorem d_jdk_43_method_2_12 : decode jdk_43_method_2_code 12 = .ok (.iand, 1) := by decide +kernel
theorem d_jdk_43_method_2_13 : decode jdk_43_method_2_code 13 = .ok (.i2c, 1) := by decide +kernel
theorem d_jdk_43_method_2_14 : decode jdk_43_method_2_code 14 = .ok (.ireturn, 1) := by decide +kernel
theorem d_jdk_42_method_56_0 : decode jdk_42_method_56_code 0 = .ok (.aload_n 0, 1) := by decide +kernel
theorem d_jdk_42_method_56_1 : decode jdk_42_method_56_code 1 = .ok (.invokevirtual 492, 3) := by decide +kernel
theorem d_jdk_42_method_56_4 : decode jdk_42_method_56_code 4 = .ok (.ifCond .eq 12, 3) := by decide +kernel
theorem d_jdk_42_method_56_7 : decode jdk_42_method_56_code 7 = .ok (.aload_n 0, 1) := by decide +kernel
theorem d_jdk_42_method_56_8 : decode jdk_42_method_56_code 8 = .ok (.getfield 9, 3) := by decide +kernel
theorem d_jdk_42_method_56_11 : decode jdk_42_method_56_code 11 = .ok (.iload_n 1, 1) := by decide +kernel
theorem d_jdk_42_method_56_12 : decode jdk_42_method_56_code 12 = .ok (.invokestatic 495, 3) := by decide +kernel
theorem d_jdk_42_method_56_15 : decode jdk_42_method_56_code 15 = .ok (.ireturn, 1) := by decide +kernel
theorem d_jdk_42_method_151_0 : decode jdk_42_method_151_code 0 = .ok (.aload_n 0, 1) := by decide +kernel
theorem d_jdk_42_method_151_1 : decode jdk_42_method_151_code 1 = .ok (.invokespecial 1, 3) := by decide +kernel
theorem d_jdk_42_method_151_4 : decode jdk_42_method_151_code 4 = .ok (.aload_n 0, 1) := by decide +kernel
theorem d_jdk_42_method_151_5 : decode jdk_42_method_151_code 5 = .ok (.aload_n 1, 1) := by decide +kernel
theorem d_jdk_42_method_151_6 : decode jdk_42_method_151_code 6 = .ok (.putfield 9, 3) := by decide +kernel
theorem d_jdk_42_method_151_9 : decode jdk_42_method_151_code 9 = .ok (.aload_n 0, 1) := by decide +kernel
theorem d_jdk_42_method_151_10 : decode jdk_42_method_151_code 10 = .ok (.iload_n 2, 1) := by decide +kernel
theorem d_jdk_42_method_151_11 : decode jdk_42_method_151_code 11 = .ok (.putfield 15, 3) := by decide +kernel
theorem d_jdk_42_method_151_14 : decode jdk_42_method_151_code 14 = .ok (.return_, 1) := by decide +kernel
theorem d_jdk_29_method_65_0 : decode jdk_29_method_65_code 0 = .ok (.iload_n 0, 1) := by decide +kernel
theorem d_jdk_29_method_65_1 : decode jdk_29_method_65_code 1 = .ok (.iload_n 1, 1) := by decide +kernel
theorem d_jdk_29_method_65_2 : decode jdk_29_method_65_code 2 = .ok (.if_icmp .lt 7, 3) := by decide +kernel
theorem d_jdk_29_method_65_5 : decode jdk_29_method_65_code 5 = .ok (.iload_n 0, 1) := by decide +kernel
theorem d_jdk_29_method_65_6 : decode jdk_29_method_65_code 6 = .ok (.goto 4, 3) := by decide +kernel
theorem d_jdk_29_method_65_10 : decode jdk_29_method_65_code 10 = .ok (.ireturn, 1) := by decide +kernel
theorem d_jdk_29_method_69_0 : decode jdk_29_method_69_code 0 = .ok (.iload_n 0, 1) := by decide +kernel
theorem d_jdk_29_method_69_1 : decode jdk_29_method_69_code 1 = .ok (.iload_n 1, 1) := by decide +kernel
theorem d_jdk_29_method_69_2 : decode jdk_29_method_69_code 2 = .ok (.if_icmp .gt 7, 3) := by decide +kernel
theorem d_jdk_29_method_69_9 : decode jdk_29_method_69_code 9 = .ok (.iload_n 1, 1) := by decide +kernel
theorem d_jdk_29_method_69_10 : decode jdk_29_method_69_code 10 = .ok (.ireturn, 1) := by decide +kernel
theorem d_jdk_29_method_69_5 : decode jdk_29_method_69_code 5 = .ok (.iload_n 0, 1) := by decide +kernel
theorem d_jdk_29_method_69_6 : decode jdk_29_method_69_code 6 = .ok (.goto 4, 3) := by decide +kernel
theorem d_jdk_43_method_4_0 : decode jdk_43_method_4_code 0 = .ok (.iload_n 0, 1) := by decide +kernel
theorem d_jdk_43_method_4_1 : decode jdk_43_method_4_code 1 = .ok (.ifCond .lt 14, 3) := by decide +kernel
theorem d_jdk_43_method_4_4 : decode jdk_43_method_4_code 4 = .ok (.iload_n 0, 1) := by decide +kernel
theorem d_jdk_43_method_4_5 : decode jdk_43_method_4_code 5 = .ok (.sipush 255, 3) := by decide +kernel
theorem d_jdk_43_method_4_8 : decode jdk_43_method_4_code 8 = .ok (.if_icmp .gt 7, 3) := by decide +kernel
theorem d_jdk_43_method_4_11 : decode jdk_43_method_4_code 11 = .ok (.iconst 1, 1) := by decide +kernel
theorem d_jdk_43_method_4_12 : decode jdk_43_method_4_code 12 = .ok (.goto 4, 3) := by decide +kernel
theorem d_jdk_43_method_4_16 : decode jdk_43_method_4_code 16 = .ok (.ireturn, 1) := by decide +kernel
theorem d_jdk_43_method_23_7 : decode jdk_43_method_23_code 7 = .ok (.iload 5, 2) := by decide +kernel
theorem d_jdk_43_method_23_9 : decode jdk_43_method_23_code 9 = .ok (.iload_n 3, 1) := by decide +kernel
theorem d_jdk_43_method_23_10 : decode jdk_43_method_23_code 10 = .ok (.if_icmp .ge 21, 3) := by decide +kernel
theorem d_jdk_43_method_23_31 : decode jdk_43_method_23_code 31 = .ok (.iconst (-1), 1) := by decide +kernel
theorem d_jdk_43_method_23_32 : decode jdk_43_method_23_code 32 = .ok (.ireturn, 1) := by decide +kernel
theorem d_jdk_43_method_23_13 : decode jdk_43_method_23_code 13 = .ok (.aload_n 0, 1) := by decide +kernel
theorem d_jdk_43_method_23_14 : decode jdk_43_method_23_code 14 = .ok (.iload 5, 2) := by decide +kernel
theorem d_jdk_43_method_23_16 : decode jdk_43_method_23_code 16 = .ok (.baload, 1) := by decide +kernel
theorem d_jdk_43_method_23_17 : decode jdk_43_method_23_code 17 = .ok (.iload 4, 2) := by decide +kernel
theorem d_jdk_43_method_23_19 : decode jdk_43_method_23_code 19 = .ok (.if_icmp .ne 6, 3) := by decide +kernel
theorem d_jdk_43_method_23_25 : decode jdk_43_method_23_code 25 = .ok (.iinc 5 1, 3) := by decide +kernel
theorem d_jdk_43_method_23_28 : decode jdk_43_method_23_code 28 = .ok (.goto (-21), 3) := by decide +kernel
theorem d_jdk_43_method_23_22 : decode jdk_43_method_23_code 22 = .ok (.iload 5, 2) := by decide +kernel
theorem d_jdk_43_method_23_24 : decode jdk_43_method_23_code 24 = .ok (.ireturn, 1) := by decide +kernel
theorem d_jdk_43_method_23_0 : decode jdk_43_method_23_code 0 = .ok (.iload_n 1, 1) := by decide +kernel
theorem d_jdk_43_method_23_1 : decode jdk_43_method_23_code 1 = .ok (.i2b, 1) := by decide +kernel
theorem d_jdk_43_method_23_2 : decode jdk_43_method_23_code 2 = .ok (.istore 4, 2) := by decide +kernel
theorem d_jdk_43_method_23_4 : decode jdk_43_method_23_code 4 = .ok (.iload_n 2, 1) := by decide +kernel
theorem d_jdk_43_method_23_5 : decode jdk_43_method_23_code 5 = .ok (.istore 5, 2) := by decide +kernel
theorem d_jdk_43_method_22_0 : decode jdk_43_method_22_code 0 = .ok (.iload_n 1, 1) := by decide +kernel
theorem d_jdk_43_method_22_1 : decode jdk_43_method_22_code 1 = .ok (.invokestatic 88, 3) := by decide +kernel
theorem d_jdk_43_method_22_4 : decode jdk_43_method_22_code 4 = .ok (.ifCond .ne 5, 3) := by decide +kernel
theorem d_jdk_43_method_22_9 : decode jdk_43_method_22_code 9 = .ok (.iload_n 2, 1) := by decide +kernel
theorem d_jdk_43_method_22_10 : decode jdk_43_method_22_code 10 = .ok (.iconst 0, 1) := by decide +kernel
theorem d_jdk_43_method_22_11 : decode jdk_43_method_22_code 11 = .ok (.invokestatic 92, 3) := by decide +kernel
theorem d_jdk_43_method_22_14 : decode jdk_43_method_22_code 14 = .ok (.istore_n 2, 1) := by decide +kernel
theorem d_jdk_43_method_22_15 : decode jdk_43_method_22_code 15 = .ok (.iload_n 3, 1) := by decide +kernel
theorem d_jdk_43_method_22_16 : decode jdk_43_method_22_code 16 = .ok (.aload_n 0, 1) := by decide +kernel
theorem d_jdk_43_method_22_17 : decode jdk_43_method_22_code 17 = .ok (.arraylength, 1) := by decide +kernel
theorem d_jdk_43_method_22_18 : decode jdk_43_method_22_code 18 = .ok (.invokestatic 38, 3) := by decide +kernel
theorem d_jdk_43_method_22_21 : decode jdk_43_method_22_code 21 = .ok (.istore_n 3, 1) := by decide +kernel
theorem d_jdk_43_method_22_22 : decode jdk_43_method_22_code 22 = .ok (.iload_n 2, 1) := by decide +kernel
theorem d_jdk_43_method_22_23 : decode jdk_43_method_22_code 23 = .ok (.iload_n 3, 1) := by decide +kernel
theorem d_jdk_43_method_22_24 : decode jdk_43_method_22_code 24 = .ok (.if_icmp .lt 5, 3) := by decide +kernel
theorem d_jdk_43_method_22_29 : decode jdk_43_method_22_code 29 = .ok (.aload_n 0, 1) := by decide +kernel
theorem d_jdk_43_method_22_30 : decode jdk_43_method_22_code 30 = .ok (.iload_n 1, 1) := by decide +kernel
theorem d_jdk_43_method_22_31 : decode jdk_43_method_22_code 31 = .ok (.iload_n 2, 1) := by decide +kernel
theorem d_jdk_43_method_22_32 : decode jdk_43_method_22_code 32 = .ok (.iload_n 3, 1) := by decide +kernel
theorem d_jdk_43_method_22_33 : decode jdk_43_method_22_code 33 = .ok (.invokestatic 95, 3) := by decide +kernel
theorem d_jdk_43_method_22_36 : decode jdk_43_method_22_code 36 = .ok (.ireturn, 1) := by decide +kernel
theorem d_jdk_43_method_22_27 : decode jdk_43_method_22_code 27 = .ok (.iconst (-1), 1) := by decide +kernel
theorem d_jdk_43_method_22_28 : decode jdk_43_method_22_code 28 = .ok (.ireturn, 1) := by decide +kernel
theorem d_jdk_42_method_80_0 : decode jdk_42_method_80_code 0 = .ok (.aload_n 0, 1) := by decide +kernel
theorem d_jdk_42_method_80_1 : decode jdk_42_method_80_code 1 = .ok (.invokevirtual 492, 3) := by decide +kernel
theorem d_jdk_42_method_80_4 : decode jdk_42_method_80_code 4 = .ok (.ifCond .eq 19, 3) := by decide +kernel
theorem d_jdk_42_method_80_7 : decode jdk_42_method_80_code 7 = .ok (.aload_n 0, 1) := by decide +kernel
theorem d_jdk_42_method_80_8 : decode jdk_42_method_80_code 8 = .ok (.getfield 9, 3) := by decide +kernel
theorem d_jdk_42_method_80_11 : decode jdk_42_method_80_code 11 = .ok (.iload_n 1, 1) := by decide +kernel
theorem d_jdk_42_method_80_12 : decode jdk_42_method_80_code 12 = .ok (.iload_n 2, 1) := by decide +kernel
theorem d_jdk_42_method_80_13 : decode jdk_42_method_80_code 13 = .ok (.aload_n 0, 1) := by decide +kernel
theorem d_jdk_42_method_80_14 : decode jdk_42_method_80_code 14 = .ok (.invokevirtual 505, 3) := by decide +kernel
theorem d_jdk_42_method_80_17 : decode jdk_42_method_80_code 17 = .ok (.invokestatic 637, 3) := by decide +kernel
theorem d_jdk_42_method_80_20 : decode jdk_42_method_80_code 20 = .ok (.goto 16, 3) := by decide +kernel
theorem d_jdk_42_method_80_36 : decode jdk_42_method_80_code 36 = .ok (.ireturn, 1) := by decide +kernel
theorem d_jdk_42_method_79_0 : decode jdk_42_method_79_code 0 = .ok (.aload_n 0, 1) := by decide +kernel
theorem d_jdk_42_method_79_1 : decode jdk_42_method_79_code 1 = .ok (.iload_n 1, 1) := by decide +kernel
theorem d_jdk_42_method_79_2 : decode jdk_42_method_79_code 2 = .ok (.iconst 0, 1) := by decide +kernel
theorem d_jdk_42_method_79_3 : decode jdk_42_method_79_code 3 = .ok (.invokevirtual 633, 3) := by decide +kernel
theorem d_jdk_42_method_79_6 : decode jdk_42_method_79_code 6 = .ok (.ireturn, 1) := by decide +kernel
theorem d_jdk_65_method_131_0 : decode jdk_65_method_131_code 0 = .ok (.iload_n 1, 1) := by decide +kernel
theorem d_jdk_65_method_131_1 : decode jdk_65_method_131_code 1 = .ok (.iload_n 0, 1) := by decide +kernel
theorem d_jdk_65_method_131_2 : decode jdk_65_method_131_code 2 = .ok (.if_icmp .ge 35, 3) := by decide +kernel
theorem d_jdk_65_method_131_37 : decode jdk_65_method_131_code 37 = .ok (.return_, 1) := by decide +kernel
theorem d_jdk_65_method_133_0 : decode jdk_65_method_133_code 0 = .ok (.iload_n 1, 1) := by decide +kernel
theorem d_jdk_65_method_133_1 : decode jdk_65_method_133_code 1 = .ok (.iload_n 2, 1) := by decide +kernel
theorem d_jdk_65_method_133_2 : decode jdk_65_method_133_code 2 = .ok (.invokestatic 343, 3) := by decide +kernel
theorem d_jdk_65_method_133_5 : decode jdk_65_method_133_code 5 = .ok (.iload_n 2, 1) := by decide +kernel
theorem d_jdk_65_method_133_6 : decode jdk_65_method_133_code 6 = .ok (.iload_n 1, 1) := by decide +kernel
theorem d_jdk_65_method_133_7 : decode jdk_65_method_133_code 7 = .ok (.isub, 1) := by decide +kernel
theorem d_jdk_65_method_133_8 : decode jdk_65_method_133_code 8 = .ok (.istore_n 3, 1) := by decide +kernel
theorem d_jdk_65_method_133_9 : decode jdk_65_method_133_code 9 = .ok (.iload_n 3, 1) := by decide +kernel
theorem d_jdk_65_method_133_10 : decode jdk_65_method_133_code 10 = .ok (.newarray .byte, 2) := by decide +kernel
theorem d_jdk_65_method_133_12 : decode jdk_65_method_133_code 12 = .ok (.astore 4, 2) := by decide +kernel
theorem d_jdk_65_method_133_14 : decode jdk_65_method_133_code 14 = .ok (.aload_n 0, 1) := by decide +kernel
theorem d_jdk_65_method_133_15 : decode jdk_65_method_133_code 15 = .ok (.iload_n 1, 1) := by decide +kernel
theorem d_jdk_65_method_133_16 : decode jdk_65_method_133_code 16 = .ok (.aload 4, 2) := by decide +kernel
theorem d_jdk_65_method_133_18 : decode jdk_65_method_133_code 18 = .ok (.iconst 0, 1) := by decide +kernel
theorem d_jdk_65_method_133_19 : decode jdk_65_method_133_code 19 = .ok (.aload_n 0, 1) := by decide +kernel
theorem d_jdk_65_method_133_20 : decode jdk_65_method_133_code 20 = .ok (.arraylength, 1) := by decide +kernel
theorem d_jdk_65_method_133_21 : decode jdk_65_method_133_code 21 = .ok (.iload_n 1, 1) := by decide +kernel
theorem d_jdk_65_method_133_22 : decode jdk_65_method_133_code 22 = .ok (.isub, 1) := by decide +kernel
theorem d_jdk_65_method_133_23 : decode jdk_65_method_133_code 23 = .ok (.iload_n 3, 1) := by decide +kernel
theorem d_jdk_65_method_133_24 : decode jdk_65_method_133_code 24 = .ok (.invokestatic 304, 3) := by decide +kernel
theorem d_jdk_65_method_133_27 : decode jdk_65_method_133_code 27 = .ok (.invokestatic 150, 3) := by decide +kernel
theorem d_jdk_65_method_133_30 : decode jdk_65_method_133_code 30 = .ok (.aload 4, 2) := by decide +kernel
theorem d_jdk_65_method_133_32 : decode jdk_65_method_133_code 32 = .ok (.areturn, 1) := by decide +kernel
theorem d_jdk_65_method_132_0 : decode jdk_65_method_132_code 0 = .ok (.iload_n 1, 1) := by decide +kernel
theorem d_jdk_65_method_132_1 : decode jdk_65_method_132_code 1 = .ok (.ifCond .ne 9, 3) := by decide +kernel
theorem d_jdk_65_method_132_10 : decode jdk_65_method_132_code 10 = .ok (.aload_n 0, 1) := by decide +kernel
theorem d_jdk_65_method_132_11 : decode jdk_65_method_132_code 11 = .ok (.iload_n 1, 1) := by decide +kernel
theorem d_jdk_65_method_132_12 : decode jdk_65_method_132_code 12 = .ok (.iload_n 2, 1) := by decide +kernel
theorem d_jdk_65_method_132_13 : decode jdk_65_method_132_code 13 = .ok (.invokestatic 339, 3) := by decide +kernel
theorem d_jdk_65_method_132_16 : decode jdk_65_method_132_code 16 = .ok (.areturn, 1) := by decide +kernel
theorem d_jdk_65_method_132_4 : decode jdk_65_method_132_code 4 = .ok (.iload_n 2, 1) := by decide +kernel
theorem d_jdk_65_method_132_5 : decode jdk_65_method_132_code 5 = .ok (.aload_n 0, 1) := by decide +kernel
theorem d_jdk_65_method_132_6 : decode jdk_65_method_132_code 6 = .ok (.arraylength, 1) := by decide +kernel
theorem d_jdk_65_method_132_7 : decode jdk_65_method_132_code 7 = .ok (.if_icmp .eq 10, 3) := by decide +kernel
theorem d_jdk_41_method_12_0 : decode jdk_41_method_12_code 0 = .ok (.iload_n 0, 1) := by decide +kernel
theorem d_jdk_41_method_12_1 : decode jdk_41_method_12_code 1 = .ok (.ifCond .lt 13, 3) := by decide +kernel
theorem d_jdk_41_method_12_4 : decode jdk_41_method_12_code 4 = .ok (.iload_n 0, 1) := by decide +kernel
theorem d_jdk_41_method_12_5 : decode jdk_41_method_12_code 5 = .ok (.iload_n 1, 1) := by decide +kernel
theorem d_jdk_41_method_12_6 : decode jdk_41_method_12_code 6 = .ok (.if_icmp .gt 8, 3) := by decide +kernel
theorem d_jdk_41_method_12_9 : decode jdk_41_method_12_code 9 = .ok (.iload_n 1, 1) := by decide +kernel
theorem d_jdk_41_method_12_10 : decode jdk_41_method_12_code 10 = .ok (.iload_n 2, 1) := by decide +kernel
theorem d_jdk_41_method_12_11 : decode jdk_41_method_12_code 11 = .ok (.if_icmp .le 11, 3) := by decide +kernel
theorem d_jdk_41_method_12_22 : decode jdk_41_method_12_code 22 = .ok (.iload_n 0, 1) := by decide +kernel
theorem d_jdk_41_method_12_23 : decode jdk_41_method_12_code 23 = .ok (.ireturn, 1) := by decide +kernel
theorem d_jdk_42_method_158_0 : decode jdk_42_method_158_code 0 = .ok (.iload_n 0, 1) := by decide +kernel
theorem d_jdk_42_method_158_1 : decode jdk_42_method_158_code 1 = .ok (.iload_n 1, 1) := by decide +kernel
theorem d_jdk_42_method_158_2 : decode jdk_42_method_158_code 2 = .ok (.iload_n 2, 1) := by decide +kernel
theorem d_jdk_42_method_158_3 : decode jdk_42_method_158_code 3 = .ok (.getstatic 1053, 3) := by decide +kernel
theorem d_jdk_42_method_158_6 : decode jdk_42_method_158_code 6 = .ok (.invokestatic 1062, 3) := by decide +kernel
theorem d_jdk_42_method_158_9 : decode jdk_42_method_158_code 9 = .ok (.pop, 1) := by decide +kernel
theorem d_jdk_42_method_158_10 : decode jdk_42_method_158_code 10 = .ok (.return_, 1) := by decide +kernel
theorem d_jdk_43_method_47_0 : decode jdk_43_method_47_code 0 = .ok (.iload_n 2, 1) := by decide +kernel
theorem d_jdk_43_method_47_1 : decode jdk_43_method_47_code 1 = .ok (.ifCond .ne 6, 3) := by decide +kernel
theorem d_jdk_43_method_47_4 : decode jdk_43_method_47_code 4 = .ok (.ldc 151, 2) := by decide +kernel
theorem d_jdk_43_method_47_6 : decode jdk_43_method_47_code 6 = .ok (.areturn, 1) := by decide +kernel
theorem d_jdk_43_method_47_7 : decode jdk_43_method_47_code 7 = .ok (.new 1, 3) := by decide +kernel
theorem d_jdk_43_method_47_10 : decode jdk_43_method_47_code 10 = .ok (.dup, 1) := by decide +kernel
theorem d_jdk_43_method_47_11 : decode jdk_43_method_47_code 11 = .ok (.aload_n 0, 1) := by decide +kernel
theorem d_jdk_43_method_47_12 : decode jdk_43_method_47_code 12 = .ok (.iload_n 1, 1) := by decide +kernel
theorem d_jdk_43_method_47_13 : decode jdk_43_method_47_code 13 = .ok (.iload_n 1, 1) := by decide +kernel
theorem d_jdk_43_method_47_14 : decode jdk_43_method_47_code 14 = .ok (.iload_n 2, 1) := by decide +kernel
theorem d_jdk_43_method_47_15 : decode jdk_43_method_47_code 15 = .ok (.iadd, 1) := by decide +kernel
theorem d_jdk_43_method_47_16 : decode jdk_43_method_47_code 16 = .ok (.invokestatic 232, 3) := by decide +kernel
theorem d_jdk_43_method_47_19 : decode jdk_43_method_47_code 19 = .ok (.iconst 0, 1) := by decide +kernel
theorem d_jdk_43_method_47_20 : decode jdk_43_method_47_code 20 = .ok (.invokespecial 112, 3) := by decide +kernel
theorem d_jdk_43_method_47_23 : decode jdk_43_method_47_code 23 = .ok (.areturn, 1) := by decide +kernel
theorem d_jdk_42_method_92_0 : decode jdk_42_method_92_code 0 = .ok (.aload_n 0, 1) := by decide +kernel
theorem d_jdk_42_method_92_1 : decode jdk_42_method_92_code 1 = .ok (.invokevirtual 505, 3) := by decide +kernel
theorem d_jdk_42_method_92_4 : decode jdk_42_method_92_code 4 = .ok (.istore_n 3, 1) := by decide +kernel
theorem d_jdk_42_method_92_5 : decode jdk_42_method_92_code 5 = .ok (.iload_n 1, 1) := by decide +kernel
theorem d_jdk_42_method_92_6 : decode jdk_42_method_92_code 6 = .ok (.iload_n 2, 1) := by decide +kernel
theorem d_jdk_42_method_92_7 : decode jdk_42_method_92_code 7 = .ok (.iload_n 3, 1) := by decide +kernel
theorem d_jdk_42_method_92_8 : decode jdk_42_method_92_code 8 = .ok (.invokestatic 521, 3) := by decide +kernel
theorem d_jdk_42_method_92_11 : decode jdk_42_method_92_code 11 = .ok (.iload_n 1, 1) := by decide +kernel
theorem d_jdk_42_method_92_12 : decode jdk_42_method_92_code 12 = .ok (.ifCond .ne 10, 3) := by decide +kernel
theorem d_jdk_42_method_92_22 : decode jdk_42_method_92_code 22 = .ok (.iload_n 2, 1) := by decide +kernel
theorem d_jdk_42_method_92_23 : decode jdk_42_method_92_code 23 = .ok (.iload_n 1, 1) := by decide +kernel
theorem d_jdk_42_method_92_24 : decode jdk_42_method_92_code 24 = .ok (.isub, 1) := by decide +kernel
theorem d_jdk_42_method_92_25 : decode jdk_42_method_92_code 25 = .ok (.istore 4, 2) := by decide +kernel
theorem d_jdk_42_method_92_27 : decode jdk_42_method_92_code 27 = .ok (.aload_n 0, 1) := by decide +kernel
theorem d_jdk_42_method_92_28 : decode jdk_42_method_92_code 28 = .ok (.invokevirtual 492, 3) := by decide +kernel
theorem d_jdk_42_method_92_31 : decode jdk_42_method_92_code 31 = .ok (.ifCond .eq 16, 3) := by decide +kernel
theorem d_jdk_42_method_92_34 : decode jdk_42_method_92_code 34 = .ok (.aload_n 0, 1) := by decide +kernel
theorem d_jdk_42_method_92_35 : decode jdk_42_method_92_code 35 = .ok (.getfield 9, 3) := by decide +kernel
theorem d_jdk_42_method_92_38 : decode jdk_42_method_92_code 38 = .ok (.iload_n 1, 1) := by decide +kernel
theorem d_jdk_42_method_92_39 : decode jdk_42_method_92_code 39 = .ok (.iload 4, 2) := by decide +kernel
theorem d_jdk_42_method_92_41 : decode jdk_42_method_92_code 41 = .ok (.invokestatic 685, 3) := by decide +kernel
theorem d_jdk_42_method_92_44 : decode jdk_42_method_92_code 44 = .ok (.goto 13, 3) := by decide +kernel
theorem d_jdk_42_method_92_57 : decode jdk_42_method_92_code 57 = .ok (.areturn, 1) := by decide +kernel
theorem d_jdk_42_method_92_15 : decode jdk_42_method_92_code 15 = .ok (.iload_n 2, 1) := by decide +kernel
theorem d_jdk_42_method_92_16 : decode jdk_42_method_92_code 16 = .ok (.iload_n 3, 1) := by decide +kernel
theorem d_jdk_42_method_92_17 : decode jdk_42_method_92_code 17 = .ok (.if_icmp .ne 5, 3) := by decide +kernel
theorem d_jdk_42_method_92_20 : decode jdk_42_method_92_code 20 = .ok (.aload_n 0, 1) := by decide +kernel
theorem d_jdk_42_method_92_21 : decode jdk_42_method_92_code 21 = .ok (.areturn, 1) := by decide +kernel
theorem d_jdk_42_method_91_0 : decode jdk_42_method_91_code 0 = .ok (.aload_n 0, 1) := by decide +kernel
theorem d_jdk_42_method_91_1 : decode jdk_42_method_91_code 1 = .ok (.iload_n 1, 1) := by decide +kernel
theorem d_jdk_42_method_91_2 : decode jdk_42_method_91_code 2 = .ok (.aload_n 0, 1) := by decide +kernel
theorem d_jdk_42_method_91_3 : decode jdk_42_method_91_code 3 = .ok (.invokevirtual 505, 3) := by decide +kernel
theorem d_jdk_42_method_91_6 : decode jdk_42_method_91_code 6 = .ok (.invokevirtual 681, 3) := by decide +kernel
theorem d_jdk_42_method_91_9 : decode jdk_42_method_91_code 9 = .ok (.areturn, 1) := by decide +kernel
theorem d_jdk_42_method_55_0 : decode jdk_42_method_55_code 0 = .ok (.aload_n 0, 1) := by decide +kernel
theorem d_jdk_42_method_55_1 : decode jdk_42_method_55_code 1 = .ok (.getfield 9, 3) := by decide +kernel
theorem d_jdk_42_method_55_4 : decode jdk_42_method_55_code 4 = .ok (.arraylength, 1) := by decide +kernel
theorem d_jdk_42_method_55_5 : decode jdk_42_method_55_code 5 = .ok (.ifCond .ne 7, 3) := by decide +kernel
theorem d_jdk_42_method_55_8 : decode jdk_42_method_55_code 8 = .ok (.iconst 1, 1) := by decide +kernel
theorem d_jdk_42_method_55_9 : decode jdk_42_method_55_code 9 = .ok (.goto 4, 3) := by decide +kernel
theorem d_jdk_42_method_55_13 : decode jdk_42_method_55_code 13 = .ok (.ireturn, 1) := by decide +kernel
theorem d_method_2_0 : decode method_2_code 0 = .ok (.iload_n 0, 1) := by decide +kernel
theorem d_method_2_1 : decode method_2_code 1 = .ok (.sipush 256, 3) := by decide +kernel
theorem d_method_2_4 : decode method_2_code 4 = .ok (.iand, 1) := by decide +kernel
theorem d_method_2_5 : decode method_2_code 5 = .ok (.ifCond .eq 8, 3) := by decide +kernel
theorem d_method_2_13 : decode method_2_code 13 = .ok (.iload_n 0, 1) := by decide +kernel
theorem d_method_2_14 : decode method_2_code 14 = .ok (.sipush 255, 3) := by decide +kernel
theorem d_method_2_17 : decode method_2_code 17 = .ok (.iand, 1) := by decide +kernel
theorem d_method_2_18 : decode method_2_code 18 = .ok (.i2c, 1) := by decide +kernel
theorem d_method_2_19 : decode method_2_code 19 = .ok (.ireturn, 1) := by decide +kernel
theorem d_method_2_8 : decode method_2_code 8 = .ok (.bipush 35, 2) := by decide +kernel
theorem d_method_2_10 : decode method_2_code 10 = .ok (.goto 9, 3) := by decide +kernel
theorem d_method_3_0 : decode method_3_code 0 = .ok (.iload_n 0, 1) := by decide +kernel
theorem d_method_3_1 : decode method_3_code 1 = .ok (.ifCond .ne 14, 3) := by decide +kernel
theorem d_method_3_4 : decode method_3_code 4 = .ok (.new 7, 3) := by decide +kernel
theorem d_method_3_7 : decode method_3_code 7 = .ok (.dup, 1) := by decide +kernel
theorem d_method_3_8 : decode method_3_code 8 = .ok (.iconst 0, 1) := by decide +kernel
theorem d_method_3_9 : decode method_3_code 9 = .ok (.newarray .char, 2) := by decide +kernel
theorem d_method_3_11 : decode method_3_code 11 = .ok (.invokespecial 9, 3) := by decide +kernel
theorem d_method_3_14 : decode method_3_code 14 = .ok (.areturn, 1) := by decide +kernel
theorem d_method_3_15 : decode method_3_code 15 = .ok (.iload_n 0, 1) := by decide +kernel
theorem d_method_3_16 : decode method_3_code 16 = .ok (.iconst 1, 1) := by decide +kernel
theorem d_method_3_17 : decode method_3_code 17 = .ok (.if_icmp .ne 18, 3) := by decide +kernel
theorem d_method_3_20 : decode method_3_code 20 = .ok (.new 7, 3) := by decide +kernel
theorem d_method_3_23 : decode method_3_code 23 = .ok (.dup, 1) := by decide +kernel
theorem d_method_3_24 : decode method_3_code 24 = .ok (.iconst 1, 1) := by decide +kernel
theorem d_method_3_25 : decode method_3_code 25 = .ok (.newarray .char, 2) := by decide +kernel
theorem d_method_3_27 : decode method_3_code 27 = .ok (.dup, 1) := by decide +kernel
theorem d_method_3_28 : decode method_3_code 28 = .ok (.iconst 0, 1) := by decide +kernel
theorem d_method_3_29 : decode method_3_code 29 = .ok (.iload_n 1, 1) := by decide +kernel
theorem d_method_3_30 : decode method_3_code 30 = .ok (.castore, 1) := by decide +kernel
theorem d_method_3_31 : decode method_3_code 31 = .ok (.invokespecial 9, 3) := by decide +kernel
theorem d_method_3_34 : decode method_3_code 34 = .ok (.areturn, 1) := by decide +kernel
theorem d_method_3_35 : decode method_3_code 35 = .ok (.iload_n 0, 1) := by decide +kernel
theorem d_method_3_36 : decode method_3_code 36 = .ok (.iconst 2, 1) := by decide +kernel
theorem d_method_3_37 : decode method_3_code 37 = .ok (.if_icmp .ne 22, 3) := by decide +kernel
theorem d_method_3_40 : decode method_3_code 40 = .ok (.new 7, 3) := by decide +kernel
theorem d_method_3_43 : decode method_3_code 43 = .ok (.dup, 1) := by decide +kernel
theorem d_method_3_44 : decode method_3_code 44 = .ok (.iconst 2, 1) := by decide +kernel
theorem d_method_3_45 : decode method_3_code 45 = .ok (.newarray .char, 2) := by decide +kernel
theorem d_method_3_47 : decode method_3_code 47 = .ok (.dup, 1) := by decide +kernel
theorem d_method_3_48 : decode method_3_code 48 = .ok (.iconst 0, 1) := by decide +kernel
theorem d_method_3_49 : decode method_3_code 49 = .ok (.iload_n 1, 1) := by decide +kernel
theorem d_method_3_50 : decode method_3_code 50 = .ok (.castore, 1) := by decide +kernel
theorem d_method_3_51 : decode method_3_code 51 = .ok (.dup, 1) := by decide +kernel
theorem d_method_3_52 : decode method_3_code 52 = .ok (.iconst 1, 1) := by decide +kernel
theorem d_method_3_53 : decode method_3_code 53 = .ok (.iload_n 2, 1) := by decide +kernel
theorem d_method_3_54 : decode method_3_code 54 = .ok (.castore, 1) := by decide +kernel
theorem d_method_3_55 : decode method_3_code 55 = .ok (.invokespecial 9, 3) := by decide +kernel
theorem d_method_3_58 : decode method_3_code 58 = .ok (.areturn, 1) := by decide +kernel
theorem d_method_3_59 : decode method_3_code 59 = .ok (.iload_n 0, 1) := by decide +kernel
theorem d_method_3_60 : decode method_3_code 60 = .ok (.iconst 3, 1) := by decide +kernel
theorem d_method_3_61 : decode method_3_code 61 = .ok (.if_icmp .ne 26, 3) := by decide +kernel
theorem d_method_3_64 : decode method_3_code 64 = .ok (.new 7, 3) := by decide +kernel
theorem d_method_3_67 : decode method_3_code 67 = .ok (.dup, 1) := by decide +kernel
theorem d_method_3_68 : decode method_3_code 68 = .ok (.iconst 3, 1) := by decide +kernel
theorem d_method_3_69 : decode method_3_code 69 = .ok (.newarray .char, 2) := by decide +kernel
theorem d_method_3_71 : decode method_3_code 71 = .ok (.dup, 1) := by decide +kernel
theorem d_method_3_72 : decode method_3_code 72 = .ok (.iconst 0, 1) := by decide +kernel
theorem d_method_3_73 : decode method_3_code 73 = .ok (.iload_n 1, 1) := by decide +kernel
theorem d_method_3_74 : decode method_3_code 74 = .ok (.castore, 1) := by decide +kernel
theorem d_method_3_75 : decode method_3_code 75 = .ok (.dup, 1) := by decide +kernel
theorem d_method_3_76 : decode method_3_code 76 = .ok (.iconst 1, 1) := by decide +kernel
theorem d_method_3_77 : decode method_3_code 77 = .ok (.iload_n 2, 1) := by decide +kernel
theorem d_method_3_78 : decode method_3_code 78 = .ok (.castore, 1) := by decide +kernel
theorem d_method_3_79 : decode method_3_code 79 = .ok (.dup, 1) := by decide +kernel
theorem d_method_3_80 : decode method_3_code 80 = .ok (.iconst 2, 1) := by decide +kernel
theorem d_method_3_81 : decode method_3_code 81 = .ok (.iload_n 3, 1) := by decide +kernel
theorem d_method_3_82 : decode method_3_code 82 = .ok (.castore, 1) := by decide +kernel
theorem d_method_3_83 : decode method_3_code 83 = .ok (.invokespecial 9, 3) := by decide +kernel
theorem d_method_3_86 : decode method_3_code 86 = .ok (.areturn, 1) := by decide +kernel
theorem d_method_3_87 : decode method_3_code 87 = .ok (.new 7, 3) := by decide +kernel
theorem d_method_3_90 : decode method_3_code 90 = .ok (.dup, 1) := by decide +kernel
theorem d_method_3_91 : decode method_3_code 91 = .ok (.iconst 4, 1) := by decide +kernel
theorem d_method_3_92 : decode method_3_code 92 = .ok (.newarray .char, 2) := by decide +kernel
theorem d_method_3_94 : decode method_3_code 94 = .ok (.dup, 1) := by decide +kernel
theorem d_method_3_95 : decode method_3_code 95 = .ok (.iconst 0, 1) := by decide +kernel
theorem d_method_3_96 : decode method_3_code 96 = .ok (.iload_n 1, 1) := by decide +kernel
theorem d_method_3_97 : decode method_3_code 97 = .ok (.castore, 1) := by decide +kernel
theorem d_method_3_98 : decode method_3_code 98 = .ok (.dup, 1) := by decide +kernel
theorem d_method_3_99 : decode method_3_code 99 = .ok (.iconst 1, 1) := by decide +kernel
theorem d_method_3_100 : decode method_3_code 100 = .ok (.iload_n 2, 1) := by decide +kernel
theorem d_method_3_101 : decode method_3_code 101 = .ok (.castore, 1) := by decide +kernel
theorem d_method_3_102 : decode method_3_code 102 = .ok (.dup, 1) := by decide +kernel
theorem d_method_3_103 : decode method_3_code 103 = .ok (.iconst 2, 1) := by decide +kernel
theorem d_method_3_104 : decode method_3_code 104 = .ok (.iload_n 3, 1) := by decide +kernel
theorem d_method_3_105 : decode method_3_code 105 = .ok (.castore, 1) := by decide +kernel
theorem d_method_3_106 : decode method_3_code 106 = .ok (.dup, 1) := by decide +kernel
theorem d_method_3_107 : decode method_3_code 107 = .ok (.iconst 3, 1) := by decide +kernel
theorem d_method_3_108 : decode method_3_code 108 = .ok (.iload 4, 2) := by decide +kernel
theorem d_method_3_110 : decode method_3_code 110 = .ok (.castore, 1) := by decide +kernel
theorem d_method_3_111 : decode method_3_code 111 = .ok (.invokespecial 9, 3) := by decide +kernel
theorem d_method_3_114 : decode method_3_code 114 = .ok (.areturn, 1) := by decide +kernel
theorem d_prog_5_method_4_0 : decode prog_5_method_4_code 0 = .ok (.aload_n 0, 1) := by decide +kernel
theorem d_prog_5_method_4_1 : decode prog_5_method_4_code 1 = .ok (.bipush 35, 2) := by decide +kernel
theorem d_prog_5_method_4_3 : decode prog_5_method_4_code 3 = .ok (.invokevirtual 52, 3) := by decide +kernel
theorem d_prog_5_method_4_6 : decode prog_5_method_4_code 6 = .ok (.istore_n 1, 1) := by decide +kernel
theorem d_prog_5_method_4_7 : decode prog_5_method_4_code 7 = .ok (.iload_n 1, 1) := by decide +kernel
theorem d_prog_5_method_4_8 : decode prog_5_method_4_code 8 = .ok (.ifCond .ge 8, 3) := by decide +kernel
theorem d_prog_5_method_4_11 : decode prog_5_method_4_code 11 = .ok (.ldc 60, 2) := by decide +kernel
theorem d_prog_5_method_4_13 : decode prog_5_method_4_code 13 = .ok (.goto 10, 3) := by decide +kernel
theorem d_prog_5_method_4_23 : decode prog_5_method_4_code 23 = .ok (.areturn, 1) := by decide +kernel
theorem d_prog_5_method_4_16 : decode prog_5_method_4_code 16 = .ok (.aload_n 0, 1) := by decide +kernel
theorem d_prog_5_method_4_17 : decode prog_5_method_4_code 17 = .ok (.iload_n 1, 1) := by decide +kernel
theorem d_prog_5_method_4_18 : decode prog_5_method_4_code 18 = .ok (.iconst 1, 1) := by decide +kernel
theorem d_prog_5_method_4_19 : decode prog_5_method_4_code 19 = .ok (.iadd, 1) := by decide +kernel
theorem d_prog_5_method_4_20 : decode prog_5_method_4_code 20 = .ok (.invokevirtual 62, 3) := by decide +kernel
theorem pf_0 : plainFor (⟨"java/lang/Math", "max", "(II)I"⟩ : MethodName) = true := by decide +kernel
theorem pf_1 : plainFor (⟨"java/lang/Math", "min", "(II)I"⟩ : MethodName) = true := by decide +kernel
theorem pn_0 : plainName "java/lang/StringUTF16" = true := by first | (simp [plainName, overriddenIn]; done) | decide +kernel
theorem pn_1 : plainName "java/lang/String" = true := by first | (simp [plainName, overriddenIn]; done) | decide +kernel
theorem pn_2 : plainName "jdk/internal/util/Preconditions" = true := by first | (simp [plainName, overriddenIn]; done) | decide +kernel
theorem pn_3 : plainName "java/lang/StringLatin1" = true := by first | (simp [plainName, overriddenIn]; done) | decide +kernel
theorem pn_5 : plainName "java/util/Arrays" = true := by first | (simp [plainName, overriddenIn]; done) | decide +kernel
theorem pn_6 : plainName "com/example/onum/onum/UrisFragmentPinLaw" = true := by first | (simp [plainName, overriddenIn]; done) | decide +kernel
theorem pn_7 : plainName "com/example/onum/onum/Uris" = true := by first | (simp [plainName, overriddenIn]; done) | decide +kernel
theorem pd_0 : parseMethodDescriptor "([CI[BII)I" = some ⟨[(.array .char), .int, (.array .byte), .int, .int], some .int⟩ := by decide +kernel
theorem pd_1 : parseMethodDescriptor "([CII)[B" = some ⟨[(.array .char), .int, .int], some (.array .byte)⟩ := by decide +kernel
theorem pd_2 : parseMethodDescriptor "([BI)B" = some ⟨[(.array .byte), .int], some .byte⟩ := by decide +kernel
theorem pd_3 : parseMethodDescriptor "([CIILjava/lang/Void;)V" = some ⟨[(.array .char), .int, .int, (.object "java/lang/Void")], none⟩ := by decide +kernel
theorem pd_4 : parseMethodDescriptor "()B" = some ⟨[], some .byte⟩ := by decide +kernel
theorem pd_5 : parseMethodDescriptor "(IILjava/util/function/BiFunction;)I" = some ⟨[.int, .int, (.object "java/util/function/BiFunction")], some .int⟩ := by decide +kernel
theorem pd_6 : parseMethodDescriptor "(II)V" = some ⟨[.int, .int], none⟩ := by decide +kernel
theorem pd_7 : parseMethodDescriptor "()Z" = some ⟨[], some .boolean⟩ := by decide +kernel
theorem pd_8 : parseMethodDescriptor "([BI)C" = some ⟨[(.array .byte), .int], some .char⟩ := by decide +kernel
theorem pd_9 : parseMethodDescriptor "(I)Z" = some ⟨[.int], some .boolean⟩ := by decide +kernel
theorem pd_10 : parseMethodDescriptor "(II)I" = some ⟨[.int, .int], some .int⟩ := by decide +kernel
theorem pd_11 : parseMethodDescriptor "([BIII)I" = some ⟨[(.array .byte), .int, .int, .int], some .int⟩ := by decide +kernel
theorem pd_12 : parseMethodDescriptor "()I" = some ⟨[], some .int⟩ := by decide +kernel
theorem pd_13 : parseMethodDescriptor "([BII)[B" = some ⟨[(.array .byte), .int, .int], some (.array .byte)⟩ := by decide +kernel
theorem pd_14 : parseMethodDescriptor "(IIILjava/util/function/BiFunction;)I" = some ⟨[.int, .int, .int, (.object "java/util/function/BiFunction")], some .int⟩ := by decide +kernel
theorem pd_15 : parseMethodDescriptor "([BB)V" = some ⟨[(.array .byte), .byte], none⟩ := by decide +kernel
theorem pd_16 : parseMethodDescriptor "(III)V" = some ⟨[.int, .int, .int], none⟩ := by decide +kernel
theorem pd_17 : parseMethodDescriptor "([BII)Ljava/lang/String;" = some ⟨[(.array .byte), .int, .int], some (.object "java/lang/String")⟩ := by decide +kernel
theorem pd_18 : parseMethodDescriptor "(II)Ljava/lang/String;" = some ⟨[.int, .int], some (.object "java/lang/String")⟩ := by decide +kernel
theorem pd_19 : parseMethodDescriptor "([C)V" = some ⟨[(.array .char)], none⟩ := by decide +kernel
theorem pd_20 : parseMethodDescriptor "(I)I" = some ⟨[.int], some .int⟩ := by decide +kernel
theorem pd_21 : parseMethodDescriptor "(I)Ljava/lang/String;" = some ⟨[.int], some (.object "java/lang/String")⟩ := by decide +kernel
theorem pd_22 : parseMethodDescriptor "(I)C" = some ⟨[.int], some .char⟩ := by decide +kernel
theorem pd_23 : parseMethodDescriptor "(ICCCC)Ljava/lang/String;" = some ⟨[.int, .char, .char, .char, .char], some (.object "java/lang/String")⟩ := by decide +kernel
theorem pd_24 : parseMethodDescriptor "(Ljava/lang/String;)Ljava/lang/String;" = some ⟨[(.object "java/lang/String")], some (.object "java/lang/String")⟩ := by decide +kernel
def Gl (Z : State) (a0 : Array Value) : Prop := (∀ d ∈ tables_1, d.before a0 Z = true) ∧ EW Z a0 consts_1 ∧ (∃ G : Int32, Sta Z Z.heap "java/lang/String" "COMPACT_STRINGS" "Z" (.int G) ∧ ¬ G = 0) ∧ (∃ G : Value, Sta Z Z.heap "jdk/internal/util/Preconditions" "SIOOBE_FORMATTER" "Ljava/util/function/BiFunction;" G ∧ G.isRef = true) ∧ True
theorem stratoms {Z : State} {a0 : Array Value} (g : Gl Z a0) : ∀ d ∈ Bundle.stringAtoms, d.before a0 Z = true := fun d hd => g.1 d ((by decide +kernel : ∀ d ∈ Bundle.stringAtoms, d ∈ tables_1) d hd)
theorem own_n5 (x : Int32) : (x &&& (2147483647 : Int32)) % (5 : Int32) = 0 ∨ (x &&& (2147483647 : Int32)) % (5 : Int32) = 1 ∨ (x &&& (2147483647 : Int32)) % (5 : Int32) = 2 ∨ (x &&& (2147483647 : Int32)) % (5 : Int32) = 3 ∨ (x &&& (2147483647 : Int32)) % (5 : Int32) = 4 := by
  have q := c_mask x 2147483647 31 (by omega) (by decide)
  have r := c_irem (x &&& 2147483647) 5 5 rfl
  simp only [← Int32.toInt_inj]
  have e0 : (0 : Int32).toInt = 0 := rfl
  have e1 : (1 : Int32).toInt = 1 := rfl
  have e2 : (2 : Int32).toInt = 2 := rfl
  have e3 : (3 : Int32).toInt = 3 := rfl
  have e4 : (4 : Int32).toInt = 4 := rfl
  rw [e0, e1, e2, e3, e4]
  have := r.1 (by omega)
  omega
set_option maxRecDepth 65536 in
set_option maxHeartbeats 4000000 in
theorem c_coderlen {l : Launch} {Z : State} {a0 : Array Value} {kn : Bool} (g : Gl Z a0) {ws : List Cond} {h0 : Heap} {ss : List Addr} (hO : Old Z Z.heap.size h0) {b : Addr} {n : Int32} {kb : ClassId} {vs : List Value} {dv : Value} (A : Arv Z h0 b kb .byte n vs dv) :
    Con l Z consts_1 kn ws (⟨"java/lang/StringUTF16", "coderFromArrayLen", "([BI)B"⟩ : MethodName) jdk_52_method_15_code 2 (some .byte) ({ frames := 0, cells := 0, slots := 0, locals := 0 } : Room) #[(.ref b), (.int n)] h0 ss (rV fun v h => h0 = h ∧ v = .int 0) := by
  have hw := g.1
  have hEL := g.2.1
  refine Con.of (plainFor_of_name pn_0) hO ?_
  intro p e s m below meth c T0 me W0
  refine Fi.entry (L := #[.val (.ref b), .val (.int n)]) (by first | (simp [entryFrame, mkF, argsToLocals, Value.category, maxLocals]; done) | (simp [entryFrame, mkF, argsToLocals, Value.category]; done) | rfl) ?_
  refine W0.iloadN me d_jdk_52_method_15_0 rfl ?_
  refine W0.aloadN me d_jdk_52_method_15_1 rfl rfl ?_
  show Fi p e below s Z _ _ _ _ T0 (mkF m 2 #[.val (.ref b), .val (.int n)] [(.ref b), (.int n)])
  refine W0.alen me A d_jdk_52_method_15_2 ?_
  refine W0.isub me d_jdk_52_method_15_3 ?_
  refine W0.bipush me d_jdk_52_method_15_4 (v := 31) rfl ?_
  refine W0.iushr me d_jdk_52_method_15_6 ?_
  refine W0.i2b me d_jdk_52_method_15_7 ?_
  show Fi p e below s Z _ _ _ _ T0 (mkF m 8 #[.val (.ref b), .val (.int n)] [(.int ((XT.ushr (n - n) (31 : Int32)).toInt8.toInt32))])
  have e1 : (XT.ushr (n - n) (31 : Int32)).toInt8.toInt32 = 0 := by rw [Int32.sub_self]; decide
  rw [e1]
  exact W0.retN hEL me (Or.inr (Or.inl rfl)) d_jdk_52_method_15_8 ⟨rfl, rfl⟩ (by decide) (by decide)

set_option maxRecDepth 65536 in
set_option maxHeartbeats 4000000 in
theorem c_compress {l : Launch} {Z : State} {a0 : Array Value} {kn : Bool} (g : Gl Z a0) {ws : List Cond} {h0 : Heap} {ss : List Addr} (hO : Old Z Z.heap.size h0) {ca b : Addr} {kca kb : ClassId} {cs : List Int32} {dv : Value} (Aca : Arv Z h0 ca kca .char (Int32.ofNat cs.length) (cs.map Value.int) dv) (A0 : Arv Z h0 b kb .byte (Int32.ofNat cs.length) [] (.int 0)) (hne : ca ≠ b) (hS : b ∈ ss) (hz : Z.heap.size ≤ b) (h8 : C8 cs) (hl : cs.length < 2 ^ 20) :
    Con l Z consts_1 kn ws (⟨"java/lang/StringUTF16", "compress", "([CI[BII)I"⟩ : MethodName) jdk_52_method_21_code 7 (some .int) ({ frames := 0, cells := 0, slots := 0, locals := 0 } : Room) #[(.ref ca), (.int 0), (.ref b), (.int 0), (.int (Int32.ofNat cs.length))] h0 ss (rV fun v h => Keep h0 h [b] ∧ v = .int (Int32.ofNat cs.length) ∧ Arv Z h b kb .byte (Int32.ofNat cs.length) (lb cs) (.int 0)) := by
  have hw := g.1
  have hEL := g.2.1
  refine Con.of (plainFor_of_name pn_0) hO ?_
  intro p e s m below meth c T0 me W0
  refine Fi.entry (L := #[.val (.ref ca), .val (.int 0), .val (.ref b), .val (.int 0), .val (.int (Int32.ofNat cs.length)), .unset, .unset]) (by first | (simp [entryFrame, mkF, argsToLocals, Value.category, maxLocals]; done) | (simp [entryFrame, mkF, argsToLocals, Value.category]; done) | rfl) ?_
  have loop : ∀ (r i : Nat) (T1 : State) (h1 : Heap) (o : Slot), i + r = cs.length → (o = .unset ∨ ∃ w, o = .val w ∧ w.category = 1) → Wk p l e ({ frames := 0, cells := 0, slots := 0, locals := 0 } : Room) s m #[(.ref ca), (.int 0), (.ref b), (.int 0), (.int (Int32.ofNat cs.length))] below meth c Z consts_1 kn "java/lang/StringUTF16" T1 h1 ss 0 0 → Keep h0 h1 [b] → Arv Z h1 b kb .byte (Int32.ofNat cs.length) (lb (cs.take i)) (.int 0) →
      Fi p e below s Z consts_1 0 0 (rV fun v h => Keep h0 h [b] ∧ v = .int (Int32.ofNat cs.length) ∧ Arv Z h b kb .byte (Int32.ofNat cs.length) (lb cs) (.int 0)) T1 (mkF m 3 #[.val (.ref ca), .val (.int (Int32.ofNat i)), .val (.ref b), .val (.int (Int32.ofNat i)), .val (.int (Int32.ofNat cs.length)), .val (.int (Int32.ofNat i)), o] []) := by
    intro r
    induction r with
    | zero =>
      intro i T1 h1 o hi ho W1 K A
      refine W1.iload me d_jdk_52_method_21_3 rfl ?_
      refine W1.iload me d_jdk_52_method_21_5 rfl ?_
      refine W1.icY_ge me d_jdk_52_method_21_7 (on_nlt (by omega) (by omega)) (pc' := 44) (by decide) (by decide) ?_
      refine W1.iload me d_jdk_52_method_21_44 rfl ?_
      have e1 : cs.take i = cs := List.take_of_length_le (by omega)
      rw [e1] at A
      exact W1.retI hEL me d_jdk_52_method_21_46 ⟨K, rfl, A⟩ (by decide) (by decide)
    | succ r ih =>
      intro i T1 h1 o hi ho W1 K A
      have hlt : i < cs.length := by omega
      have Ac := Aca.keep K (ninS hne nin0)
      have hch := h8.at hlt
      obtain ⟨x, hx⟩ : ∃ x, x = cs.getD i 0 := ⟨_, rfl⟩
      refine W1.iload me d_jdk_52_method_21_3 rfl ?_
      refine W1.iload me d_jdk_52_method_21_5 rfl ?_
      refine W1.icN_ge me d_jdk_52_method_21_7 (on_lt hlt (by omega)) ?_
      refine W1.aloadN me d_jdk_52_method_21_10 rfl rfl ?_
      refine W1.iloadN me d_jdk_52_method_21_11 rfl ?_
      refine W1.caload me Ac d_jdk_52_method_21_12 (on_in hlt (by omega)) (v := .int x) (by rw [on_clamp (by omega), ci_get hlt, hx]) ?_
      refine W1.istore me d_jdk_52_method_21_13 (l' := #[.val (.ref ca), .val (.int (Int32.ofNat i)), .val (.ref b), .val (.int (Int32.ofNat i)), .val (.int (Int32.ofNat cs.length)), .val (.int (Int32.ofNat i)), .val (.int x)]) (XS.store1 (i := 6) rfl ho rfl) ?_
      refine W1.iload me d_jdk_52_method_21_15 rfl ?_
      refine W1.sipush me d_jdk_52_method_21_17 (v := 255) rfl ?_
      refine W1.icY_le me d_jdk_52_method_21_20 (hx ▸ hch.2) (pc' := 26) (by decide) (by decide) ?_
      refine W1.aloadN me d_jdk_52_method_21_26 rfl rfl ?_
      refine W1.iloadN me d_jdk_52_method_21_27 rfl ?_
      refine W1.iload me d_jdk_52_method_21_28 rfl ?_
      refine W1.i2b me d_jdk_52_method_21_30 ?_
      show Fi p e below s Z _ _ _ _ T1 (mkF m 31 #[.val (.ref ca), .val (.int (Int32.ofNat i)), .val (.ref b), .val (.int (Int32.ofNat i)), .val (.int (Int32.ofNat cs.length)), .val (.int (Int32.ofNat i)), .val (.int x)] [(.int (x.toInt8.toInt32)), (.int (Int32.ofNat i)), (.ref b)])
      refine W1.bastoreP me A (nar_byte_idem x) d_jdk_52_method_21_31 (i := i) (by rw [lb_len, List.length_take]; omega) (on_clamp (by omega)) (on_in hlt (by omega)) hS hz ?_
      intro T2 h2 W2 R2 A2
      refine W2.iinc me d_jdk_52_method_21_32 (v := 1) rfl rfl (l' := #[.val (.ref ca), .val (.int ((Int32.ofNat i) + (1 : Int32))), .val (.ref b), .val (.int (Int32.ofNat i)), .val (.int (Int32.ofNat cs.length)), .val (.int (Int32.ofNat i)), .val (.int x)]) rfl ?_
      refine W2.iinc me d_jdk_52_method_21_35 (v := 1) rfl rfl (l' := #[.val (.ref ca), .val (.int ((Int32.ofNat i) + (1 : Int32))), .val (.ref b), .val (.int ((Int32.ofNat i) + (1 : Int32))), .val (.int (Int32.ofNat cs.length)), .val (.int (Int32.ofNat i)), .val (.int x)]) rfl ?_
      refine W2.iinc me d_jdk_52_method_21_38 (v := 1) rfl rfl (l' := #[.val (.ref ca), .val (.int ((Int32.ofNat i) + (1 : Int32))), .val (.ref b), .val (.int ((Int32.ofNat i) + (1 : Int32))), .val (.int (Int32.ofNat cs.length)), .val (.int ((Int32.ofNat i) + (1 : Int32))), .val (.int x)]) rfl ?_
      refine W2.goto me d_jdk_52_method_21_41 (pc' := 3) (by decide) (by decide) ?_
      show Fi p e below s Z _ _ _ _ T2 (mkF m 3 #[.val (.ref ca), .val (.int ((Int32.ofNat i) + (1 : Int32))), .val (.ref b), .val (.int ((Int32.ofNat i) + (1 : Int32))), .val (.int (Int32.ofNat cs.length)), .val (.int ((Int32.ofNat i) + (1 : Int32))), .val (.int x)] [])
      rw [on_succ]
      exact ih (i + 1) T2 h2 (.val (.int x)) (by omega) (Or.inr ⟨_, rfl, rfl⟩) W2 (K.wr R2 (Or.inl (List.mem_singleton.mpr rfl))) (by rw [hx, lb_take_succ hlt] at A2; exact A2)
  refine W0.iconst me d_jdk_52_method_21_0 (v := 0) rfl ?_
  refine W0.istore me d_jdk_52_method_21_1 (l' := #[.val (.ref ca), .val (.int 0), .val (.ref b), .val (.int 0), .val (.int (Int32.ofNat cs.length)), .val (.int (0 : Int32)), .unset]) rfl ?_
  exact loop cs.length 0 T0 h0 .unset (by omega) (Or.inl rfl) W0 (Keep.refl _ _) A0

set_option maxRecDepth 65536 in
set_option maxHeartbeats 4000000 in
theorem c_compress1 {l : Launch} {Z : State} {a0 : Array Value} {kn : Bool} (g : Gl Z a0) {ws : List Cond} {h0 : Heap} {ss : List Addr} (hO : Old Z Z.heap.size h0) {ca : Addr} {kca : ClassId} {cs : List Int32} {dv : Value} (Aca : Arv Z h0 ca kca .char (Int32.ofNat cs.length) (cs.map Value.int) dv) (h8 : C8 cs) (hl : cs.length ≤ 8) :
    Con l Z consts_1 kn ws (⟨"java/lang/StringUTF16", "compress", "([CII)[B"⟩ : MethodName) jdk_52_method_16_code 6 (some (.array .byte)) ({ frames := 1, cells := 1, slots := 8, locals := 18 } : Room) #[(.ref ca), (.int 0), (.int (Int32.ofNat cs.length))] h0 ss (rV fun v h => Ext h0 h ∧ ∃ b kb, v = .ref b ∧ h0.size ≤ b ∧ Arv Z h b kb .byte (Int32.ofNat cs.length) (lb cs) (.int 0)) := by
  have hw := g.1
  have hEL := g.2.1
  refine Con.of (plainFor_of_name pn_0) hO ?_
  intro p e s m below meth c T0 me W0
  refine Fi.entry (L := #[.val (.ref ca), .val (.int 0), .val (.int (Int32.ofNat cs.length)), .unset, .unset, .unset]) (by first | (simp [entryFrame, mkF, argsToLocals, Value.category, maxLocals]; done) | (simp [entryFrame, mkF, argsToLocals, Value.category]; done) | rfl) ?_
  have hlt1 := own_lt Aca.lt
  refine W0.iloadN me d_jdk_52_method_16_0 rfl ?_
  show Fi p e below s Z _ _ _ _ T0 (mkF m 1 #[.val (.ref ca), .val (.int 0), .val (.int (Int32.ofNat cs.length)), .unset, .unset, .unset] [(.int (Int32.ofNat cs.length))])
  refine W0.newA me (hw _ (List.mem_of_getElem? (i := 23) rfl)) d_jdk_52_method_16_1 (on_nneg (by omega)) (cap := 8) (by rw [on_clamp (by omega)]; exact hl) (own_le rfl) (own_le rfl) (own_le rfl) ?_
  intro T1 h1 a1 k1 g1 W1 E1 A1
  refine W1.astoreN me d_jdk_52_method_16_3 (l' := #[.val (.ref ca), .val (.int 0), .val (.int (Int32.ofNat cs.length)), .val (.ref a1), .unset, .unset]) rfl rfl ?_
  refine W1.aloadN me d_jdk_52_method_16_4 rfl rfl ?_
  refine W1.iloadN me d_jdk_52_method_16_5 rfl ?_
  refine W1.aloadN me d_jdk_52_method_16_6 rfl rfl ?_
  refine W1.iconst me d_jdk_52_method_16_7 (v := 0) rfl ?_
  refine W1.iloadN me d_jdk_52_method_16_8 rfl ?_
  show Fi p e below s Z _ _ _ _ T1 (mkF m 9 #[.val (.ref ca), .val (.int 0), .val (.int (Int32.ofNat cs.length)), .val (.ref a1), .unset, .unset] [(.int (Int32.ofNat cs.length)), (.int (0 : Int32)), (.ref a1), (.int 0), (.ref ca)])
  refine W1.callS me hEL (hw _ (List.mem_of_getElem? (i := 84) rfl)) (hw _ (List.mem_of_getElem? (i := 85) rfl)) (hw _ (List.mem_of_getElem? (i := 82) rfl)) (hw _ (List.mem_of_getElem? (i := 86) rfl)) (argsL := [(.ref ca), (.int 0), (.ref a1), (.int (0 : Int32)), (.int (Int32.ofNat cs.length))]) (rest := []) (c_compress g W1.old (Aca.ext E1) A1 (own_ne (by omega)) (List.mem_cons_self ..) (by have := hO.2.1; omega) h8 (by omega)) d_jdk_52_method_16_9 (by decide) (fun _ q => q) rfl (lenOf pd_0 rfl) (own_le rfl) (own_le rfl) (own_le rfl) (own_le rfl) rfl ?_
  intro T2 h2 v2 W2 z2 q2
  obtain ⟨_, rfl, K2, rfl, A2⟩ := q2
  show Fi p e below s Z _ _ _ _ T2 (mkF m 12 #[.val (.ref ca), .val (.int 0), .val (.int (Int32.ofNat cs.length)), .val (.ref a1), .unset, .unset] [(.int (Int32.ofNat cs.length))])
  refine W2.istore me d_jdk_52_method_16_12 (l' := #[.val (.ref ca), .val (.int 0), .val (.int (Int32.ofNat cs.length)), .val (.ref a1), .val (.int (Int32.ofNat cs.length)), .unset]) rfl ?_
  refine W2.iload me d_jdk_52_method_16_14 rfl ?_
  refine W2.iloadN me d_jdk_52_method_16_16 rfl ?_
  show Fi p e below s Z _ _ _ _ T2 (mkF m 17 #[.val (.ref ca), .val (.int 0), .val (.int (Int32.ofNat cs.length)), .val (.ref a1), .val (.int (Int32.ofNat cs.length)), .unset] [(.int (Int32.ofNat cs.length)), (.int (Int32.ofNat cs.length))])
  refine W2.icY_eq me d_jdk_52_method_16_17 rfl (pc' := 57) (by decide) (by decide) ?_
  refine W2.aloadN me d_jdk_52_method_16_57 rfl rfl ?_
  show Fi p e below s Z _ _ _ _ T2 (mkF m 58 #[.val (.ref ca), .val (.int 0), .val (.int (Int32.ofNat cs.length)), .val (.ref a1), .val (.int (Int32.ofNat cs.length)), .unset] [(.ref a1)])
  exact W2.retA hEL me d_jdk_52_method_16_58 ⟨own_xk E1 K2 (allS (by omega) all0), a1, k1, rfl, by omega, A2⟩ (by decide) (by decide) rfl rfl rfl

set_option maxRecDepth 65536 in
set_option maxHeartbeats 4000000 in
theorem c_init149 {l : Launch} {Z : State} {a0 : Array Value} {kn : Bool} (g : Gl Z a0) {ws : List Cond} {h0 : Heap} {ss : List Addr} (hO : Old Z Z.heap.size h0) {x ca : Addr} {kca : ClassId} {cs : List Int32} {dv vv vc : Value} (EX : Exa Z h0 x "java/lang/String") (FV : Fld Z h0 x "java/lang/String" "value" "[B" vv) (FC : Fld Z h0 x "java/lang/String" "coder" "B" vc) (Aca : Arv Z h0 ca kca .char (Int32.ofNat cs.length) (cs.map Value.int) dv) (hS : x ∈ ss) (hz : Z.heap.size ≤ x) (h8 : C8 cs) (hl : cs.length ≤ 8) :
    Con l Z consts_1 kn ws (⟨"java/lang/String", "<init>", "([CIILjava/lang/Void;)V"⟩ : MethodName) jdk_42_method_149_code 6 none ({ frames := 2, cells := 4, slots := 8, locals := 35 } : Room) #[(.ref x), (.ref ca), (.int 0), (.int (Int32.ofNat cs.length)), .null] h0 ss (rU fun h => Keep h0 h [x] ∧ Lat Z h x cs) := by
  have hw := g.1
  have hEL := g.2.1
  refine Con.of (plainFor_of_name pn_1) hO ?_
  intro p e s m below meth c T0 me W0
  refine Fi.entry (L := #[.val (.ref x), .val (.ref ca), .val (.int 0), .val (.int (Int32.ofNat cs.length)), .val .null, .unset]) (by first | (simp [entryFrame, mkF, argsToLocals, Value.category, maxLocals]; done) | (simp [entryFrame, mkF, argsToLocals, Value.category]; done) | rfl) ?_
  refine W0.aloadN me d_jdk_42_method_149_0 rfl rfl ?_
  show Fi p e below s Z _ _ _ _ T0 (mkF m 1 #[.val (.ref x), .val (.ref ca), .val (.int 0), .val (.int (Int32.ofNat cs.length)), .val .null, .unset] [(.ref x)])
  refine W0.initO me (hw _ (List.mem_of_getElem? (i := 19) rfl)) (hw _ (List.mem_of_getElem? (i := 20) rfl)) (hw _ (List.mem_of_getElem? (i := 21) rfl)) d_jdk_42_method_149_1 rfl (own_le rfl) (own_le rfl) ?_
  intro T1 W1
  show Fi p e below s Z _ _ _ _ T1 (mkF m 4 #[.val (.ref x), .val (.ref ca), .val (.int 0), .val (.int (Int32.ofNat cs.length)), .val .null, .unset] [])
  refine W1.iloadN me d_jdk_42_method_149_4 rfl ?_
  show Fi p e below s Z _ _ _ _ T1 (mkF m 5 #[.val (.ref x), .val (.ref ca), .val (.int 0), .val (.int (Int32.ofNat cs.length)), .val .null, .unset] [(.int (Int32.ofNat cs.length))])
  have hLV : Laid Z a0 "java/lang/String" "java/lang/String" "value" "[B" := Or.inr (hw _ (List.mem_of_getElem? (i := 24) rfl))
  have hLC : Laid Z a0 "java/lang/String" "java/lang/String" "coder" "B" := Or.inr (hw _ (List.mem_of_getElem? (i := 25) rfl))
  have hvc : Jvm.RoadKit.slotOf Z "java/lang/String" "value" "[B" ≠ Jvm.RoadKit.slotOf Z "java/lang/String" "coder" "B" := slot_ne hLV hLC (by decide) (t := .array .byte) (t' := .byte) (by decide) (by decide)
  have hxlt := own_lt EX.lt
  refine W1.if_ne me d_jdk_42_method_149_5 (pc' := 27) (by decide) (by decide) (fun hb => ?_) (fun hb => ?_)
  rotate_left
  ·
    have e0 : cs.length = 0 := (on_inj (by omega) (by omega)).mp (hb.trans rfl)
    have ec : cs = [] := List.eq_nil_of_length_eq_zero e0
    refine W1.aloadN me d_jdk_42_method_149_8 rfl rfl ?_
    show Fi p e below s Z _ _ _ _ T1 (mkF m 9 #[.val (.ref x), .val (.ref ca), .val (.int 0), .val (.int (Int32.ofNat cs.length)), .val .null, .unset] [(.ref x)])
    refine W1.ldcS me hEL (List.mem_of_getElem? (i := 1) rfl) (hw _ (List.mem_of_getElem? (i := 22) rfl)) (stratoms g) (vs := []) (z := 0) ⟨by decide, by decide⟩ (by decide) (by decide) d_jdk_42_method_149_9 (n := 0) (by decide) (by decide) (by decide) (by decide) ?_
    intro T2 h2 a2 b2 k2 W2 E2 A2 C2 V2 B2 N2
    show Fi p e below s Z _ _ _ _ T2 (mkF m 11 #[.val (.ref x), .val (.ref ca), .val (.int 0), .val (.int (Int32.ofNat cs.length)), .val .null, .unset] [(.ref a2), (.ref x)])
    refine W2.getF me (hw _ (List.mem_of_getElem? (i := 28) rfl)) V2 Via.refl d_jdk_42_method_149_11 ?_
    intro T3 W3
    show Fi p e below s Z _ _ _ _ T3 (mkF m 14 #[.val (.ref x), .val (.ref ca), .val (.int 0), .val (.int (Int32.ofNat cs.length)), .val .null, .unset] [(.ref b2), (.ref x)])
    have N2a := (N2 x hS).1
    have N2b := (N2 x hS).2
    refine W3.putF me (hw _ (List.mem_of_getElem? (i := 28) rfl)) (FV.ext E2) Via.refl (EX.ext E2) (Or.inr ⟨(hw _ (List.mem_of_getElem? (i := 24) rfl)), rfl, rfl⟩) (hw _ (List.mem_of_getElem? (i := 10) rfl)) (ty := (.array .byte)) (by decide) rfl rfl (Or.inl hS) hz d_jdk_42_method_149_14 ?_
    intro T4 h4 W4 R4
    show Fi p e below s Z _ _ _ _ T4 (mkF m 17 #[.val (.ref x), .val (.ref ca), .val (.int 0), .val (.int (Int32.ofNat cs.length)), .val .null, .unset] [])
    refine W4.aloadN me d_jdk_42_method_149_17 rfl rfl ?_
    show Fi p e below s Z _ _ _ _ T4 (mkF m 18 #[.val (.ref x), .val (.ref ca), .val (.int 0), .val (.int (Int32.ofNat cs.length)), .val .null, .unset] [(.ref x)])
    refine W4.ldcS me hEL (List.mem_of_getElem? (i := 1) rfl) (hw _ (List.mem_of_getElem? (i := 22) rfl)) (stratoms g) (vs := []) (z := 0) ⟨by decide, by decide⟩ (by decide) (by decide) d_jdk_42_method_149_18 (n := 0) (by decide) (by decide) (by decide) (by decide) ?_
    intro T5 h5 a5 b5 k5 W5 E5 A5 C5 V5 B5 N5
    show Fi p e below s Z _ _ _ _ T5 (mkF m 20 #[.val (.ref x), .val (.ref ca), .val (.int 0), .val (.int (Int32.ofNat cs.length)), .val .null, .unset] [(.ref a5), (.ref x)])
    refine W5.getF me (hw _ (List.mem_of_getElem? (i := 29) rfl)) C5 Via.refl d_jdk_42_method_149_20 ?_
    intro T6 W6
    show Fi p e below s Z _ _ _ _ T6 (mkF m 23 #[.val (.ref x), .val (.ref ca), .val (.int 0), .val (.int (Int32.ofNat cs.length)), .val .null, .unset] [(.int (0 : Int32)), (.ref x)])
    have FC3 := ((FC.ext E2).other R4 (Or.inr hvc.symm)).ext E5
    have FV3 := ((FV.ext E2).same R4).ext E5
    have EX3 := ((EX.ext E2).wr R4).ext E5
    have B3 := (B2.other R4 (Ne.symm N2b)).ext E5
    refine W6.putF me (hw _ (List.mem_of_getElem? (i := 29) rfl)) FC3 Via.refl EX3 (Or.inr ⟨(hw _ (List.mem_of_getElem? (i := 25) rfl)), rfl, rfl⟩) (hw _ (List.mem_of_getElem? (i := 10) rfl)) (ty := .byte) (by decide) rfl rfl (Or.inl hS) hz d_jdk_42_method_149_23 ?_
    intro T7 h7 W7 R7
    show Fi p e below s Z _ _ _ _ T7 (mkF m 26 #[.val (.ref x), .val (.ref ca), .val (.int 0), .val (.int (Int32.ofNat cs.length)), .val .null, .unset] [])
    have K4 : Keep h0 h7 [x] := (((own_xK E2 [x]).wr R4 (Or.inl (List.mem_singleton.mpr rfl))).ext E5).wr R7 (Or.inl (List.mem_singleton.mpr rfl))
    exact W7.retU hEL me d_jdk_42_method_149_26 ⟨K4, by rw [ec]; exact ⟨b2, k2, EX3.wr R7, FC3.same R7, FV3.other R7 (Or.inr hvc), B3.other R7 (Ne.symm N2b), by decide, C8.nil⟩⟩ (by decide) (by decide)
  ·
    show Fi p e below s Z _ _ _ _ T1 (mkF m 27 #[.val (.ref x), .val (.ref ca), .val (.int 0), .val (.int (Int32.ofNat cs.length)), .val .null, .unset] [])
    obtain ⟨G, O2, P2⟩ := g.2.2.1
    refine W1.getS me (hw _ (List.mem_of_getElem? (i := 49) rfl)) O2 Via.refl d_jdk_42_method_149_27 ?_
    intro T8 W8
    show Fi p e below s Z _ _ _ _ T8 (mkF m 30 #[.val (.ref x), .val (.ref ca), .val (.int 0), .val (.int (Int32.ofNat cs.length)), .val .null, .unset] [(.int G)])
    refine W8.ifN_eq me d_jdk_42_method_149_30 P2 ?_
    refine W8.aloadN me d_jdk_42_method_149_33 rfl rfl ?_
    refine W8.iloadN me d_jdk_42_method_149_34 rfl ?_
    refine W8.iloadN me d_jdk_42_method_149_35 rfl ?_
    show Fi p e below s Z _ _ _ _ T8 (mkF m 36 #[.val (.ref x), .val (.ref ca), .val (.int 0), .val (.int (Int32.ofNat cs.length)), .val .null, .unset] [(.int (Int32.ofNat cs.length)), (.int 0), (.ref ca)])
    refine W8.callS me hEL (hw _ (List.mem_of_getElem? (i := 80) rfl)) (hw _ (List.mem_of_getElem? (i := 81) rfl)) (hw _ (List.mem_of_getElem? (i := 82) rfl)) (hw _ (List.mem_of_getElem? (i := 83) rfl)) (argsL := [(.ref ca), (.int 0), (.int (Int32.ofNat cs.length))]) (rest := []) (c_compress1 (ss := []) g W8.old Aca h8 hl) d_jdk_42_method_149_36 (by decide) (fun _ q => nomatch q) rfl (lenOf pd_1 rfl) (own_le rfl) (own_le rfl) (own_le rfl) (own_le rfl) rfl ?_
    intro T9 h9 v9 W9 z9 q9
    obtain ⟨_, rfl, E9, b9, k9, rfl, y9, A9⟩ := q9
    show Fi p e below s Z _ _ _ _ T9 (mkF m 39 #[.val (.ref x), .val (.ref ca), .val (.int 0), .val (.int (Int32.ofNat cs.length)), .val .null, .unset] [(.ref b9)])
    refine W9.astore me d_jdk_42_method_149_39 (l' := #[.val (.ref x), .val (.ref ca), .val (.int 0), .val (.int (Int32.ofNat cs.length)), .val .null, .val (.ref b9)]) rfl rfl ?_
    refine W9.aloadN me d_jdk_42_method_149_41 rfl rfl ?_
    refine W9.aload me d_jdk_42_method_149_42 rfl rfl ?_
    refine W9.iloadN me d_jdk_42_method_149_44 rfl ?_
    show Fi p e below s Z _ _ _ _ T9 (mkF m 45 #[.val (.ref x), .val (.ref ca), .val (.int 0), .val (.int (Int32.ofNat cs.length)), .val .null, .val (.ref b9)] [(.int (Int32.ofNat cs.length)), (.ref b9), (.ref x)])
    refine W9.callS me hEL (hw _ (List.mem_of_getElem? (i := 87) rfl)) (hw _ (List.mem_of_getElem? (i := 88) rfl)) (hw _ (List.mem_of_getElem? (i := 82) rfl)) (hw _ (List.mem_of_getElem? (i := 89) rfl)) (argsL := [(.ref b9), (.int (Int32.ofNat cs.length))]) (rest := [(.ref x)]) (c_coderlen (ss := []) g W9.old A9) d_jdk_42_method_149_45 (by decide) (fun _ q => nomatch q) rfl (lenOf pd_2 rfl) (own_le rfl) (own_le rfl) (own_le rfl) (own_le rfl) rfl ?_
    intro T10 h10 v10 W10 z10 q10
    obtain ⟨_, rfl, rfl, rfl⟩ := q10
    show Fi p e below s Z _ _ _ _ T10 (mkF m 48 #[.val (.ref x), .val (.ref ca), .val (.int 0), .val (.int (Int32.ofNat cs.length)), .val .null, .val (.ref b9)] [(.int (0 : Int32)), (.ref x)])
    refine W10.putF me (hw _ (List.mem_of_getElem? (i := 29) rfl)) (FC.ext E9) Via.refl (EX.ext E9) (Or.inr ⟨(hw _ (List.mem_of_getElem? (i := 25) rfl)), rfl, rfl⟩) (hw _ (List.mem_of_getElem? (i := 10) rfl)) (ty := .byte) (by decide) rfl rfl (Or.inl hS) hz d_jdk_42_method_149_48 ?_
    intro T11 h11 W11 R11
    show Fi p e below s Z _ _ _ _ T11 (mkF m 51 #[.val (.ref x), .val (.ref ca), .val (.int 0), .val (.int (Int32.ofNat cs.length)), .val .null, .val (.ref b9)] [])
    refine W11.aloadN me d_jdk_42_method_149_51 rfl rfl ?_
    refine W11.aload me d_jdk_42_method_149_52 rfl rfl ?_
    show Fi p e below s Z _ _ _ _ T11 (mkF m 54 #[.val (.ref x), .val (.ref ca), .val (.int 0), .val (.int (Int32.ofNat cs.length)), .val .null, .val (.ref b9)] [(.ref b9), (.ref x)])
    refine W11.putF me (hw _ (List.mem_of_getElem? (i := 28) rfl)) ((FV.ext E9).other R11 (Or.inr hvc)) Via.refl ((EX.ext E9).wr R11) (Or.inr ⟨(hw _ (List.mem_of_getElem? (i := 24) rfl)), rfl, rfl⟩) (hw _ (List.mem_of_getElem? (i := 10) rfl)) (ty := (.array .byte)) (by decide) rfl rfl (Or.inl hS) hz d_jdk_42_method_149_54 ?_
    intro T12 h12 W12 R12
    show Fi p e below s Z _ _ _ _ T12 (mkF m 57 #[.val (.ref x), .val (.ref ca), .val (.int 0), .val (.int (Int32.ofNat cs.length)), .val .null, .val (.ref b9)] [])
    have hne5 : b9 ≠ x := own_en (by omega)
    have K8 : Keep h0 h12 [x] := ((own_xK E9 [x]).wr R11 (Or.inl (List.mem_singleton.mpr rfl))).wr R12 (Or.inl (List.mem_singleton.mpr rfl))
    exact W12.retU hEL me d_jdk_42_method_149_57 ⟨K8, b9, k9, ((EX.ext E9).wr R11).wr R12, ((FC.ext E9).same R11).other R12 (Or.inr hvc.symm), ((FV.ext E9).other R11 (Or.inr hvc)).same R12, (A9.other R11 hne5).other R12 hne5, by omega, h8⟩ (by decide) (by decide)

set_option maxRecDepth 65536 in
set_option maxHeartbeats 4000000 in
theorem c_init3 {l : Launch} {Z : State} {a0 : Array Value} {kn : Bool} (g : Gl Z a0) {ws : List Cond} {h0 : Heap} {ss : List Addr} (hO : Old Z Z.heap.size h0) {x ca : Addr} {kca : ClassId} {cs : List Int32} {dv vv vc : Value} (EX : Exa Z h0 x "java/lang/String") (FV : Fld Z h0 x "java/lang/String" "value" "[B" vv) (FC : Fld Z h0 x "java/lang/String" "coder" "B" vc) (Aca : Arv Z h0 ca kca .char (Int32.ofNat cs.length) (cs.map Value.int) dv) (hS : x ∈ ss) (hz : Z.heap.size ≤ x) (h8 : C8 cs) (hl : cs.length ≤ 8) :
    Con l Z consts_1 kn ws (⟨"java/lang/String", "<init>", "([C)V"⟩ : MethodName) jdk_42_method_3_code 2 none ({ frames := 3, cells := 4, slots := 8, locals := 52 } : Room) #[(.ref x), (.ref ca)] h0 ss (rU fun h => Keep h0 h [x] ∧ Lat Z h x cs) := by
  have hw := g.1
  have hEL := g.2.1
  refine Con.of (plainFor_of_name pn_1) hO ?_
  intro p e s m below meth c T0 me W0
  refine Fi.entry (L := #[.val (.ref x), .val (.ref ca)]) (by first | (simp [entryFrame, mkF, argsToLocals, Value.category, maxLocals]; done) | (simp [entryFrame, mkF, argsToLocals, Value.category]; done) | rfl) ?_
  refine W0.aloadN me d_jdk_42_method_3_0 rfl rfl ?_
  refine W0.aloadN me d_jdk_42_method_3_1 rfl rfl ?_
  refine W0.iconst me d_jdk_42_method_3_2 (v := 0) rfl ?_
  refine W0.aloadN me d_jdk_42_method_3_3 rfl rfl ?_
  show Fi p e below s Z _ _ _ _ T0 (mkF m 4 #[.val (.ref x), .val (.ref ca)] [(.ref ca), (.int (0 : Int32)), (.ref ca), (.ref x)])
  refine W0.alen me Aca d_jdk_42_method_3_4 ?_
  refine W0.aconstNull me d_jdk_42_method_3_5 ?_
  show Fi p e below s Z _ _ _ _ T0 (mkF m 6 #[.val (.ref x), .val (.ref ca)] [.null, (.int (Int32.ofNat cs.length)), (.int (0 : Int32)), (.ref ca), (.ref x)])
  refine W0.callI me hEL (hw _ (List.mem_of_getElem? (i := 15) rfl)) (hw _ (List.mem_of_getElem? (i := 16) rfl)) (hw _ (List.mem_of_getElem? (i := 11) rfl)) (hw _ (List.mem_of_getElem? (i := 18) rfl)) rfl (a := x) (argsL := [(.ref ca), (.int (0 : Int32)), (.int (Int32.ofNat cs.length)), .null]) (rest := []) (c_init149 g W0.old EX FV FC Aca hS hz h8 hl) d_jdk_42_method_3_6 (by decide) (fun _ q => q) rfl (lenOf pd_3 rfl) (own_le rfl) (own_le rfl) (own_le rfl) (own_le rfl) rfl ?_
  intro T1 h1 v1 W1 z1 q1
  obtain ⟨rfl, K1, L1⟩ := q1
  show Fi p e below s Z _ _ _ _ T1 (mkF m 9 #[.val (.ref x), .val (.ref ca)] [])
  exact W1.retU hEL me d_jdk_42_method_3_9 ⟨K1, L1⟩ (by decide) (by decide)

set_option maxRecDepth 65536 in
set_option maxHeartbeats 4000000 in
theorem c_coder {l : Launch} {Z : State} {a0 : Array Value} {kn : Bool} (g : Gl Z a0) {ws : List Cond} {h0 : Heap} {ss : List Addr} (hO : Old Z Z.heap.size h0) {a : Addr} {cd : Int32} (FC : Fld Z h0 a "java/lang/String" "coder" "B" (.int cd)) (hcd : nar .byte cd = cd) :
    Con l Z consts_1 kn ws (⟨"java/lang/String", "coder", "()B"⟩ : MethodName) jdk_42_method_152_code 1 (some .byte) ({ frames := 0, cells := 0, slots := 0, locals := 0 } : Room) #[(.ref a)] h0 ss (rV fun v h => h0 = h ∧ v = .int cd) := by
  have hw := g.1
  have hEL := g.2.1
  refine Con.of (plainFor_of_name pn_1) hO ?_
  intro p e s m below meth c T0 me W0
  refine Fi.entry (L := #[.val (.ref a)]) (by first | (simp [entryFrame, mkF, argsToLocals, Value.category, maxLocals]; done) | (simp [entryFrame, mkF, argsToLocals, Value.category]; done) | rfl) ?_
  obtain ⟨G, O2, P2⟩ := g.2.2.1
  refine W0.getS me (hw _ (List.mem_of_getElem? (i := 49) rfl)) O2 Via.refl d_jdk_42_method_152_0 ?_
  intro T1 W1
  show Fi p e below s Z _ _ _ _ T1 (mkF m 3 #[.val (.ref a)] [(.int G)])
  refine W1.ifN_eq me d_jdk_42_method_152_3 P2 ?_
  refine W1.aloadN me d_jdk_42_method_152_6 rfl rfl ?_
  show Fi p e below s Z _ _ _ _ T1 (mkF m 7 #[.val (.ref a)] [(.ref a)])
  refine W1.getF me (hw _ (List.mem_of_getElem? (i := 29) rfl)) FC Via.refl d_jdk_42_method_152_7 ?_
  intro T2 W2
  show Fi p e below s Z _ _ _ _ T2 (mkF m 10 #[.val (.ref a)] [(.int cd)])
  refine W2.goto me d_jdk_42_method_152_10 (pc' := 14) (by decide) (by decide) ?_
  show Fi p e below s Z _ _ _ _ T2 (mkF m 14 #[.val (.ref a)] [(.int cd)])
  exact W2.retN hEL me (Or.inr (Or.inl rfl)) d_jdk_42_method_152_14 ⟨rfl, by rw [hcd]⟩ (by decide) (by decide)

set_option maxRecDepth 65536 in
set_option maxHeartbeats 4000000 in
theorem c_length {l : Launch} {Z : State} {a0 : Array Value} {kn : Bool} (g : Gl Z a0) {ws : List Cond} {h0 : Heap} {ss : List Addr} (hO : Old Z Z.heap.size h0) {a : Addr} {cs : List Int32} (L : Lat Z h0 a cs) :
    Con l Z consts_1 kn ws (⟨"java/lang/String", "length", "()I"⟩ : MethodName) jdk_42_method_54_code 1 (some .int) ({ frames := 1, cells := 0, slots := 0, locals := 13 } : Room) #[(.ref a)] h0 ss (rV fun v h => h0 = h ∧ v = .int (Int32.ofNat cs.length)) := by
  have hw := g.1
  have hEL := g.2.1
  refine Con.of (plainFor_of_name pn_1) hO ?_
  intro p e s m below meth c T0 me W0
  refine Fi.entry (L := #[.val (.ref a)]) (by first | (simp [entryFrame, mkF, argsToLocals, Value.category, maxLocals]; done) | (simp [entryFrame, mkF, argsToLocals, Value.category]; done) | rfl) ?_
  obtain ⟨vb, kb, EX, FC, FV, AB, hl, h8⟩ := L
  refine W0.aloadN me d_jdk_42_method_54_0 rfl rfl ?_
  show Fi p e below s Z _ _ _ _ T0 (mkF m 1 #[.val (.ref a)] [(.ref a)])
  refine W0.getF me (hw _ (List.mem_of_getElem? (i := 28) rfl)) FV Via.refl d_jdk_42_method_54_1 ?_
  intro T1 W1
  show Fi p e below s Z _ _ _ _ T1 (mkF m 4 #[.val (.ref a)] [(.ref vb)])
  refine W1.alen me AB d_jdk_42_method_54_4 ?_
  refine W1.aloadN me d_jdk_42_method_54_5 rfl rfl ?_
  show Fi p e below s Z _ _ _ _ T1 (mkF m 6 #[.val (.ref a)] [(.ref a), (.int (Int32.ofNat cs.length))])
  refine W1.callV me hEL (hw _ (List.mem_of_getElem? (i := 55) rfl)) (hw _ (List.mem_of_getElem? (i := 56) rfl)) (fun hZ' => notFace_of_selects (args := #[]) (mvT (s := s.setVm _) hZ' (hw _ (List.mem_of_getElem? (i := 58) rfl)))) (hw _ (List.mem_of_getElem? (i := 58) rfl)) (hw _ (List.mem_of_getElem? (i := 57) rfl)) (hw _ (List.mem_of_getElem? (i := 11) rfl)) (hw _ (List.mem_of_getElem? (i := 59) rfl)) (a := a) (argsL := []) (rest := [(.int (Int32.ofNat cs.length))]) EX (c_coder (ss := []) g W1.old FC rfl) d_jdk_42_method_54_6 (by decide) (fun _ q => nomatch q) rfl (lenOf pd_4 rfl) (own_le rfl) (own_le rfl) (own_le rfl) (own_le rfl) rfl ?_
  intro T2 h2 v2 W2 z2 q2
  obtain ⟨_, rfl, rfl, rfl⟩ := q2
  show Fi p e below s Z _ _ _ _ T2 (mkF m 9 #[.val (.ref a)] [(.int (0 : Int32)), (.int (Int32.ofNat cs.length))])
  refine W2.ishr me d_jdk_42_method_54_9 ?_
  show Fi p e below s Z _ _ _ _ T2 (mkF m 10 #[.val (.ref a)] [(.int ((Int32.ofNat cs.length) >>> ((0 : Int32) &&& 31)))])
  have e1 : Int32.ofNat cs.length >>> ((0 : Int32) &&& 31) = Int32.ofNat cs.length := by simp
  rw [e1]
  exact W2.retI hEL me d_jdk_42_method_54_10 ⟨rfl, rfl⟩ (by decide) (by decide)

set_option maxRecDepth 65536 in
set_option maxHeartbeats 4000000 in
theorem c_islat {l : Launch} {Z : State} {a0 : Array Value} {kn : Bool} (g : Gl Z a0) {ws : List Cond} {h0 : Heap} {ss : List Addr} (hO : Old Z Z.heap.size h0) {a : Addr} (FC : Fld Z h0 a "java/lang/String" "coder" "B" (.int 0)) :
    Con l Z consts_1 kn ws (⟨"java/lang/String", "isLatin1", "()Z"⟩ : MethodName) jdk_42_method_154_code 1 (some .boolean) ({ frames := 0, cells := 0, slots := 0, locals := 0 } : Room) #[(.ref a)] h0 ss (rV fun v h => h0 = h ∧ v = .int 1) := by
  have hw := g.1
  have hEL := g.2.1
  refine Con.of (plainFor_of_name pn_1) hO ?_
  intro p e s m below meth c T0 me W0
  refine Fi.entry (L := #[.val (.ref a)]) (by first | (simp [entryFrame, mkF, argsToLocals, Value.category, maxLocals]; done) | (simp [entryFrame, mkF, argsToLocals, Value.category]; done) | rfl) ?_
  obtain ⟨G, O2, P2⟩ := g.2.2.1
  refine W0.getS me (hw _ (List.mem_of_getElem? (i := 49) rfl)) O2 Via.refl d_jdk_42_method_154_0 ?_
  intro T1 W1
  show Fi p e below s Z _ _ _ _ T1 (mkF m 3 #[.val (.ref a)] [(.int G)])
  refine W1.ifN_eq me d_jdk_42_method_154_3 P2 ?_
  refine W1.aloadN me d_jdk_42_method_154_6 rfl rfl ?_
  show Fi p e below s Z _ _ _ _ T1 (mkF m 7 #[.val (.ref a)] [(.ref a)])
  refine W1.getF me (hw _ (List.mem_of_getElem? (i := 29) rfl)) FC Via.refl d_jdk_42_method_154_7 ?_
  intro T2 W2
  show Fi p e below s Z _ _ _ _ T2 (mkF m 10 #[.val (.ref a)] [(.int (0 : Int32))])
  refine W2.ifN_ne me d_jdk_42_method_154_10 rfl ?_
  refine W2.iconst me d_jdk_42_method_154_13 (v := 1) rfl ?_
  refine W2.goto me d_jdk_42_method_154_14 (pc' := 18) (by decide) (by decide) ?_
  show Fi p e below s Z _ _ _ _ T2 (mkF m 18 #[.val (.ref a)] [(.int (1 : Int32))])
  exact W2.retN hEL me (Or.inl rfl) d_jdk_42_method_154_18 ⟨rfl, rfl⟩ (by decide) (by decide)

set_option maxRecDepth 65536 in
set_option maxHeartbeats 4000000 in
theorem c_pchk {l : Launch} {Z : State} {a0 : Array Value} {kn : Bool} (g : Gl Z a0) {ws : List Cond} {h0 : Heap} {ss : List Addr} (hO : Old Z Z.heap.size h0) {i n : Int32} {G : Value} (rG : G.isRef = true) (hi : ¬ i < 0 ∧ i < n) :
    Con l Z consts_1 kn ws (⟨"jdk/internal/util/Preconditions", "checkIndex", "(IILjava/util/function/BiFunction;)I"⟩ : MethodName) jdk_41_method_11_code 3 (some .int) ({ frames := 0, cells := 0, slots := 0, locals := 0 } : Room) #[(.int i), (.int n), G] h0 ss (rV fun v h => h0 = h ∧ v = .int i) := by
  have hw := g.1
  have hEL := g.2.1
  refine Con.of (plainFor_of_name pn_2) hO ?_
  intro p e s m below meth c T0 me W0
  have hcG : G.category = 1 := XT.cat1 rG
  refine Fi.entry (L := #[.val (.int i), .val (.int n), .val G]) (by rcases ref_cases rG with rfl | ⟨ga, rfl⟩ <;> simp [entryFrame, mkF, argsToLocals, Value.category]) ?_
  refine W0.iloadN me d_jdk_41_method_11_0 rfl ?_
  show Fi p e below s Z _ _ _ _ T0 (mkF m 1 #[.val (.int i), .val (.int n), .val G] [(.int i)])
  refine W0.ifN_lt me d_jdk_41_method_11_1 hi.1 ?_
  refine W0.iloadN me d_jdk_41_method_11_4 rfl ?_
  refine W0.iloadN me d_jdk_41_method_11_5 rfl ?_
  show Fi p e below s Z _ _ _ _ T0 (mkF m 6 #[.val (.int i), .val (.int n), .val G] [(.int n), (.int i)])
  refine W0.icY_lt me d_jdk_41_method_11_6 hi.2 (pc' := 16) (by decide) (by decide) ?_
  refine W0.iloadN me d_jdk_41_method_11_16 rfl ?_
  show Fi p e below s Z _ _ _ _ T0 (mkF m 17 #[.val (.int i), .val (.int n), .val G] [(.int i)])
  exact W0.retI hEL me d_jdk_41_method_11_17 ⟨rfl, rfl⟩ (by decide) (by decide)

set_option maxRecDepth 65536 in
set_option maxHeartbeats 4000000 in
theorem c_schk {l : Launch} {Z : State} {a0 : Array Value} {kn : Bool} (g : Gl Z a0) {ws : List Cond} {h0 : Heap} {ss : List Addr} (hO : Old Z Z.heap.size h0) {i n : Int32} (hi : ¬ i < 0 ∧ i < n) :
    Con l Z consts_1 kn ws (⟨"java/lang/String", "checkIndex", "(II)V"⟩ : MethodName) jdk_42_method_155_code 2 none ({ frames := 1, cells := 0, slots := 0, locals := 14 } : Room) #[(.int i), (.int n)] h0 ss (rU fun h => h0 = h) := by
  have hw := g.1
  have hEL := g.2.1
  refine Con.of (plainFor_of_name pn_1) hO ?_
  intro p e s m below meth c T0 me W0
  refine Fi.entry (L := #[.val (.int i), .val (.int n)]) (by first | (simp [entryFrame, mkF, argsToLocals, Value.category, maxLocals]; done) | (simp [entryFrame, mkF, argsToLocals, Value.category]; done) | rfl) ?_
  obtain ⟨G, O3, rG⟩ := g.2.2.2.1
  refine W0.iloadN me d_jdk_42_method_155_0 rfl ?_
  refine W0.iloadN me d_jdk_42_method_155_1 rfl ?_
  show Fi p e below s Z _ _ _ _ T0 (mkF m 2 #[.val (.int i), .val (.int n)] [(.int n), (.int i)])
  refine W0.getS me (hw _ (List.mem_of_getElem? (i := 106) rfl)) O3 Via.refl d_jdk_42_method_155_2 ?_
  intro T1 W1
  show Fi p e below s Z _ _ _ _ T1 (mkF m 5 #[.val (.int i), .val (.int n)] [G, (.int n), (.int i)])
  refine W1.callS me hEL (hw _ (List.mem_of_getElem? (i := 145) rfl)) (hw _ (List.mem_of_getElem? (i := 146) rfl)) (hw _ (List.mem_of_getElem? (i := 107) rfl)) (hw _ (List.mem_of_getElem? (i := 147) rfl)) (argsL := [(.int i), (.int n), G]) (rest := []) (c_pchk (ss := []) g W1.old rG hi) d_jdk_42_method_155_5 (by decide) (fun _ q => nomatch q) rfl (lenOf pd_5 rfl) (own_le rfl) (own_le rfl) (own_le rfl) (own_le rfl) rfl ?_
  intro T2 h2 v2 W2 z2 q2
  obtain ⟨_, rfl, rfl, rfl⟩ := q2
  show Fi p e below s Z _ _ _ _ T2 (mkF m 8 #[.val (.int i), .val (.int n)] [(.int i)])
  refine W2.pop me d_jdk_42_method_155_8 rfl ?_
  show Fi p e below s Z _ _ _ _ T2 (mkF m 9 #[.val (.int i), .val (.int n)] [])
  exact W2.retU hEL me d_jdk_42_method_155_9 rfl (by decide) (by decide)

set_option maxRecDepth 65536 in
set_option maxHeartbeats 4000000 in
theorem c_latat {l : Launch} {Z : State} {a0 : Array Value} {kn : Bool} (g : Gl Z a0) {ws : List Cond} {h0 : Heap} {ss : List Addr} (hO : Old Z Z.heap.size h0) {b : Addr} {kb : ClassId} {cs : List Int32} {i : Nat} (AB : Arv Z h0 b kb .byte (Int32.ofNat cs.length) (lb cs) (.int 0)) (hl : cs.length < 2 ^ 20) (h8 : C8 cs) (hi : i < cs.length) :
    Con l Z consts_1 kn ws (⟨"java/lang/StringLatin1", "charAt", "([BI)C"⟩ : MethodName) jdk_43_method_2_code 2 (some .char) ({ frames := 2, cells := 0, slots := 0, locals := 27 } : Room) #[(.ref b), (.int (Int32.ofNat i))] h0 ss (rV fun v h => h0 = h ∧ v = .int (cs.getD i 0)) := by
  have hw := g.1
  have hEL := g.2.1
  refine Con.of (plainFor_of_name pn_3) hO ?_
  intro p e s m below meth c T0 me W0
  refine Fi.entry (L := #[.val (.ref b), .val (.int (Int32.ofNat i))]) (by first | (simp [entryFrame, mkF, argsToLocals, Value.category, maxLocals]; done) | (simp [entryFrame, mkF, argsToLocals, Value.category]; done) | rfl) ?_
  refine W0.iloadN me d_jdk_43_method_2_0 rfl ?_
  refine W0.aloadN me d_jdk_43_method_2_1 rfl rfl ?_
  show Fi p e below s Z _ _ _ _ T0 (mkF m 2 #[.val (.ref b), .val (.int (Int32.ofNat i))] [(.ref b), (.int (Int32.ofNat i))])
  refine W0.alen me AB d_jdk_43_method_2_2 ?_
  refine W0.callS me hEL (hw _ (List.mem_of_getElem? (i := 142) rfl)) (hw _ (List.mem_of_getElem? (i := 143) rfl)) (hw _ (List.mem_of_getElem? (i := 11) rfl)) (hw _ (List.mem_of_getElem? (i := 144) rfl)) (argsL := [(.int (Int32.ofNat i)), (.int (Int32.ofNat cs.length))]) (rest := []) (c_schk (ss := []) g W0.old (on_in hi (by omega))) d_jdk_43_method_2_3 (by decide) (fun _ q => nomatch q) rfl (lenOf pd_6 rfl) (own_le rfl) (own_le rfl) (own_le rfl) (own_le rfl) rfl ?_
  intro T1 h1 v1 W1 z1 q1
  obtain ⟨rfl, rfl⟩ := q1
  show Fi p e below s Z _ _ _ _ T1 (mkF m 6 #[.val (.ref b), .val (.int (Int32.ofNat i))] [])
  refine W1.aloadN me d_jdk_43_method_2_6 rfl rfl ?_
  refine W1.iloadN me d_jdk_43_method_2_7 rfl ?_
  show Fi p e below s Z _ _ _ _ T1 (mkF m 8 #[.val (.ref b), .val (.int (Int32.ofNat i))] [(.int (Int32.ofNat i)), (.ref b)])
  refine W1.baload me AB d_jdk_43_method_2_8 (on_in hi (by omega)) (v := .int (cs.getD i 0).toInt8.toInt32) (by rw [on_clamp (by omega), lb_get hi]) ?_
  show Fi p e below s Z _ _ _ _ T1 (mkF m 9 #[.val (.ref b), .val (.int (Int32.ofNat i))] [(.int (cs.getD i 0).toInt8.toInt32)])
  refine W1.sipush me d_jdk_43_method_2_9 (v := 255) rfl ?_
  refine W1.iand me d_jdk_43_method_2_12 ?_
  refine W1.i2c me d_jdk_43_method_2_13 ?_
  show Fi p e below s Z _ _ _ _ T1 (mkF m 14 #[.val (.ref b), .val (.int (Int32.ofNat i))] [(.int (((cs.getD i 0).toInt8.toInt32 &&& (255 : Int32)).toUInt32.toUInt16.toUInt32.toInt32))])
  have e1 := byte_back (h8.at hi)
  have e2 : ((cs.getD i 0).toInt8.toInt32 &&& (255 : Int32)).toUInt32.toUInt16.toUInt32.toInt32 = cs.getD i 0 := by rw [i2c_mask, e1]
  rw [e2]
  exact W1.retN hEL me (Or.inr (Or.inr (Or.inl rfl))) d_jdk_43_method_2_14 ⟨rfl, by rw [nar_char_of (up16 (h8.at hi))]⟩ (by decide) (by decide)

set_option maxRecDepth 65536 in
set_option maxHeartbeats 4000000 in
theorem c_charat {l : Launch} {Z : State} {a0 : Array Value} {kn : Bool} (g : Gl Z a0) {ws : List Cond} {h0 : Heap} {ss : List Addr} (hO : Old Z Z.heap.size h0) {a : Addr} {cs : List Int32} {i : Nat} (L : Lat Z h0 a cs) (hi : i < cs.length) :
    Con l Z consts_1 kn ws (⟨"java/lang/String", "charAt", "(I)C"⟩ : MethodName) jdk_42_method_56_code 2 (some .char) ({ frames := 3, cells := 0, slots := 0, locals := 40 } : Room) #[(.ref a), (.int (Int32.ofNat i))] h0 ss (rV fun v h => h0 = h ∧ v = .int (cs.getD i 0)) := by
  have hw := g.1
  have hEL := g.2.1
  refine Con.of (plainFor_of_name pn_1) hO ?_
  intro p e s m below meth c T0 me W0
  refine Fi.entry (L := #[.val (.ref a), .val (.int (Int32.ofNat i))]) (by first | (simp [entryFrame, mkF, argsToLocals, Value.category, maxLocals]; done) | (simp [entryFrame, mkF, argsToLocals, Value.category]; done) | rfl) ?_
  obtain ⟨vb, kb, EX, FC, FV, AB, hl, h8⟩ := L
  refine W0.aloadN me d_jdk_42_method_56_0 rfl rfl ?_
  show Fi p e below s Z _ _ _ _ T0 (mkF m 1 #[.val (.ref a), .val (.int (Int32.ofNat i))] [(.ref a)])
  refine W0.callV me hEL (hw _ (List.mem_of_getElem? (i := 44) rfl)) (hw _ (List.mem_of_getElem? (i := 45) rfl)) (fun hZ' => notFace_of_selects (args := #[]) (mvT (s := s.setVm _) hZ' (hw _ (List.mem_of_getElem? (i := 47) rfl)))) (hw _ (List.mem_of_getElem? (i := 47) rfl)) (hw _ (List.mem_of_getElem? (i := 46) rfl)) (hw _ (List.mem_of_getElem? (i := 11) rfl)) (hw _ (List.mem_of_getElem? (i := 48) rfl)) (a := a) (argsL := []) (rest := []) EX (c_islat (ss := []) g W0.old FC) d_jdk_42_method_56_1 (by decide) (fun _ q => nomatch q) rfl (lenOf pd_7 rfl) (own_le rfl) (own_le rfl) (own_le rfl) (own_le rfl) rfl ?_
  intro T1 h1 v1 W1 z1 q1
  obtain ⟨_, rfl, rfl, rfl⟩ := q1
  show Fi p e below s Z _ _ _ _ T1 (mkF m 4 #[.val (.ref a), .val (.int (Int32.ofNat i))] [(.int (1 : Int32))])
  refine W1.ifN_eq me d_jdk_42_method_56_4 (by decide) ?_
  refine W1.aloadN me d_jdk_42_method_56_7 rfl rfl ?_
  show Fi p e below s Z _ _ _ _ T1 (mkF m 8 #[.val (.ref a), .val (.int (Int32.ofNat i))] [(.ref a)])
  refine W1.getF me (hw _ (List.mem_of_getElem? (i := 28) rfl)) FV Via.refl d_jdk_42_method_56_8 ?_
  intro T2 W2
  show Fi p e below s Z _ _ _ _ T2 (mkF m 11 #[.val (.ref a), .val (.int (Int32.ofNat i))] [(.ref vb)])
  refine W2.iloadN me d_jdk_42_method_56_11 rfl ?_
  show Fi p e below s Z _ _ _ _ T2 (mkF m 12 #[.val (.ref a), .val (.int (Int32.ofNat i))] [(.int (Int32.ofNat i)), (.ref vb)])
  refine W2.callS me hEL (hw _ (List.mem_of_getElem? (i := 139) rfl)) (hw _ (List.mem_of_getElem? (i := 140) rfl)) (hw _ (List.mem_of_getElem? (i := 62) rfl)) (hw _ (List.mem_of_getElem? (i := 141) rfl)) (argsL := [(.ref vb), (.int (Int32.ofNat i))]) (rest := []) (c_latat (ss := []) g W2.old AB hl h8 hi) d_jdk_42_method_56_12 (by decide) (fun _ q => nomatch q) rfl (lenOf pd_8 rfl) (own_le rfl) (own_le rfl) (own_le rfl) (own_le rfl) rfl ?_
  intro T3 h3 v3 W3 z3 q3
  obtain ⟨_, rfl, rfl, rfl⟩ := q3
  show Fi p e below s Z _ _ _ _ T3 (mkF m 15 #[.val (.ref a), .val (.int (Int32.ofNat i))] [(.int (cs.getD i 0))])
  exact W3.retN hEL me (Or.inr (Or.inr (Or.inl rfl))) d_jdk_42_method_56_15 ⟨rfl, by rw [nar_char_of (up16 (h8.at hi))]⟩ (by decide) (by decide)

set_option maxRecDepth 65536 in
set_option maxHeartbeats 4000000 in
theorem c_init151 {l : Launch} {Z : State} {a0 : Array Value} {kn : Bool} (g : Gl Z a0) {ws : List Cond} {h0 : Heap} {ss : List Addr} (hO : Old Z Z.heap.size h0) {x : Addr} {vv vc : Value} (EX : Exa Z h0 x "java/lang/String") (FV : Fld Z h0 x "java/lang/String" "value" "[B" vv) (FC : Fld Z h0 x "java/lang/String" "coder" "B" vc) (hS : x ∈ ss) (hz : Z.heap.size ≤ x) {b : Addr} {cd : Int32} (hcn : narrow .byte (.int cd) = .int cd) (hcf : fits .byte (.int cd) = true) :
    Con l Z consts_1 kn ws (⟨"java/lang/String", "<init>", "([BB)V"⟩ : MethodName) jdk_42_method_151_code 3 none ({ frames := 1, cells := 0, slots := 0, locals := 12 } : Room) #[(.ref x), (.ref b), (.int cd)] h0 ss (rU fun h => Keep h0 h [x] ∧ Exa Z h x "java/lang/String" ∧ Fld Z h x "java/lang/String" "value" "[B" (.ref b) ∧ Fld Z h x "java/lang/String" "coder" "B" (.int cd)) := by
  have hw := g.1
  have hEL := g.2.1
  refine Con.of (plainFor_of_name pn_1) hO ?_
  intro p e s m below meth c T0 me W0
  refine Fi.entry (L := #[.val (.ref x), .val (.ref b), .val (.int cd)]) (by first | (simp [entryFrame, mkF, argsToLocals, Value.category, maxLocals]; done) | (simp [entryFrame, mkF, argsToLocals, Value.category]; done) | rfl) ?_
  have hLV : Laid Z a0 "java/lang/String" "java/lang/String" "value" "[B" := Or.inr (hw _ (List.mem_of_getElem? (i := 24) rfl))
  have hLC : Laid Z a0 "java/lang/String" "java/lang/String" "coder" "B" := Or.inr (hw _ (List.mem_of_getElem? (i := 25) rfl))
  have hvc : Jvm.RoadKit.slotOf Z "java/lang/String" "value" "[B" ≠ Jvm.RoadKit.slotOf Z "java/lang/String" "coder" "B" := slot_ne hLV hLC (by decide) (t := .array .byte) (t' := .byte) (by decide) (by decide)
  refine W0.aloadN me d_jdk_42_method_151_0 rfl rfl ?_
  show Fi p e below s Z _ _ _ _ T0 (mkF m 1 #[.val (.ref x), .val (.ref b), .val (.int cd)] [(.ref x)])
  refine W0.initO me (hw _ (List.mem_of_getElem? (i := 19) rfl)) (hw _ (List.mem_of_getElem? (i := 20) rfl)) (hw _ (List.mem_of_getElem? (i := 21) rfl)) d_jdk_42_method_151_1 rfl (own_le rfl) (own_le rfl) ?_
  intro T1 W1
  show Fi p e below s Z _ _ _ _ T1 (mkF m 4 #[.val (.ref x), .val (.ref b), .val (.int cd)] [])
  refine W1.aloadN me d_jdk_42_method_151_4 rfl rfl ?_
  refine W1.aloadN me d_jdk_42_method_151_5 rfl rfl ?_
  show Fi p e below s Z _ _ _ _ T1 (mkF m 6 #[.val (.ref x), .val (.ref b), .val (.int cd)] [(.ref b), (.ref x)])
  refine W1.putF me (hw _ (List.mem_of_getElem? (i := 28) rfl)) FV Via.refl EX (Or.inr ⟨(hw _ (List.mem_of_getElem? (i := 24) rfl)), rfl, rfl⟩) (hw _ (List.mem_of_getElem? (i := 10) rfl)) (ty := (.array .byte)) (by decide) rfl rfl (Or.inl hS) hz d_jdk_42_method_151_6 ?_
  intro T2 h2 W2 R2
  show Fi p e below s Z _ _ _ _ T2 (mkF m 9 #[.val (.ref x), .val (.ref b), .val (.int cd)] [])
  refine W2.aloadN me d_jdk_42_method_151_9 rfl rfl ?_
  refine W2.iloadN me d_jdk_42_method_151_10 rfl ?_
  show Fi p e below s Z _ _ _ _ T2 (mkF m 11 #[.val (.ref x), .val (.ref b), .val (.int cd)] [(.int cd), (.ref x)])
  refine W2.putF me (hw _ (List.mem_of_getElem? (i := 29) rfl)) (FC.other R2 (Or.inr hvc.symm)) Via.refl (EX.wr R2) (Or.inr ⟨(hw _ (List.mem_of_getElem? (i := 25) rfl)), rfl, rfl⟩) (hw _ (List.mem_of_getElem? (i := 10) rfl)) (ty := .byte) (by decide) hcn hcf (Or.inl hS) hz d_jdk_42_method_151_11 ?_
  intro T3 h3 W3 R3
  show Fi p e below s Z _ _ _ _ T3 (mkF m 14 #[.val (.ref x), .val (.ref b), .val (.int cd)] [])
  exact W3.retU hEL me d_jdk_42_method_151_14 ⟨((Keep.refl _ [x]).wr R2 (Or.inl (List.mem_singleton.mpr rfl))).wr R3 (Or.inl (List.mem_singleton.mpr rfl)), (EX.wr R2).wr R3, (FV.same R2).other R3 (Or.inr hvc), (FC.other R2 (Or.inr hvc.symm)).same R3⟩ (by decide) (by decide)

set_option maxRecDepth 65536 in
set_option maxHeartbeats 4000000 in
theorem c_max {l : Launch} {Z : State} {a0 : Array Value} {kn : Bool} (g : Gl Z a0) {ws : List Cond} {h0 : Heap} {ss : List Addr} (hO : Old Z Z.heap.size h0) {x y : Int32} (hx : ¬ x < y) :
    Con l Z consts_1 kn ws (⟨"java/lang/Math", "max", "(II)I"⟩ : MethodName) jdk_29_method_65_code 2 (some .int) ({ frames := 0, cells := 0, slots := 0, locals := 0 } : Room) #[(.int x), (.int y)] h0 ss (rV fun v h => h0 = h ∧ v = .int x) := by
  have hw := g.1
  have hEL := g.2.1
  refine Con.of pf_0 hO ?_
  intro p e s m below meth c T0 me W0
  refine Fi.entry (L := #[.val (.int x), .val (.int y)]) (by first | (simp [entryFrame, mkF, argsToLocals, Value.category, maxLocals]; done) | (simp [entryFrame, mkF, argsToLocals, Value.category]; done) | rfl) ?_
  refine W0.iloadN me d_jdk_29_method_65_0 rfl ?_
  refine W0.iloadN me d_jdk_29_method_65_1 rfl ?_
  show Fi p e below s Z _ _ _ _ T0 (mkF m 2 #[.val (.int x), .val (.int y)] [(.int y), (.int x)])
  refine W0.icN_lt me d_jdk_29_method_65_2 hx ?_
  refine W0.iloadN me d_jdk_29_method_65_5 rfl ?_
  refine W0.goto me d_jdk_29_method_65_6 (pc' := 10) (by decide) (by decide) ?_
  show Fi p e below s Z _ _ _ _ T0 (mkF m 10 #[.val (.int x), .val (.int y)] [(.int x)])
  exact W0.retI hEL me d_jdk_29_method_65_10 ⟨rfl, rfl⟩ (by decide) (by decide)

set_option maxRecDepth 65536 in
set_option maxHeartbeats 4000000 in
theorem c_min {l : Launch} {Z : State} {a0 : Array Value} {kn : Bool} (g : Gl Z a0) {ws : List Cond} {h0 : Heap} {ss : List Addr} (hO : Old Z Z.heap.size h0) {x y : Int32} (hx : ¬ x < y) :
    Con l Z consts_1 kn ws (⟨"java/lang/Math", "min", "(II)I"⟩ : MethodName) jdk_29_method_69_code 2 (some .int) ({ frames := 0, cells := 0, slots := 0, locals := 0 } : Room) #[(.int x), (.int y)] h0 ss (rV fun v h => h0 = h ∧ v = .int y) := by
  have hw := g.1
  have hEL := g.2.1
  refine Con.of pf_1 hO ?_
  intro p e s m below meth c T0 me W0
  refine Fi.entry (L := #[.val (.int x), .val (.int y)]) (by first | (simp [entryFrame, mkF, argsToLocals, Value.category, maxLocals]; done) | (simp [entryFrame, mkF, argsToLocals, Value.category]; done) | rfl) ?_
  refine W0.iloadN me d_jdk_29_method_69_0 rfl ?_
  refine W0.iloadN me d_jdk_29_method_69_1 rfl ?_
  show Fi p e below s Z _ _ _ _ T0 (mkF m 2 #[.val (.int x), .val (.int y)] [(.int y), (.int x)])
  refine W0.ic_gt me d_jdk_29_method_69_2 (pc' := 9) (by decide) (by decide) (fun hb1 => ?_) (fun hb1 => ?_)
  ·
    show Fi p e below s Z _ _ _ _ T0 (mkF m 9 #[.val (.int x), .val (.int y)] [])
    refine W0.iloadN me d_jdk_29_method_69_9 rfl ?_
    show Fi p e below s Z _ _ _ _ T0 (mkF m 10 #[.val (.int x), .val (.int y)] [(.int y)])
    exact W0.retI hEL me d_jdk_29_method_69_10 ⟨rfl, rfl⟩ (by decide) (by decide)
  ·
    show Fi p e below s Z _ _ _ _ T0 (mkF m 5 #[.val (.int x), .val (.int y)] [])
    refine W0.iloadN me d_jdk_29_method_69_5 rfl ?_
    refine W0.goto me d_jdk_29_method_69_6 (pc' := 10) (by decide) (by decide) ?_
    show Fi p e below s Z _ _ _ _ T0 (mkF m 10 #[.val (.int x), .val (.int y)] [(.int x)])
    have exy : x = y := Int32.le_antisymm (Int32.not_lt.mp hb1) (Int32.not_lt.mp hx)
    exact W0.retI hEL me d_jdk_29_method_69_10 ⟨rfl, by rw [exy]⟩ (by decide) (by decide)

set_option maxRecDepth 65536 in
set_option maxHeartbeats 4000000 in
theorem c_canenci {l : Launch} {Z : State} {a0 : Array Value} {kn : Bool} (g : Gl Z a0) {ws : List Cond} {h0 : Heap} {ss : List Addr} (hO : Old Z Z.heap.size h0) {x : Int32} (hx : ¬ x < 0 ∧ ¬ (255 : Int32) < x) :
    Con l Z consts_1 kn ws (⟨"java/lang/StringLatin1", "canEncode", "(I)Z"⟩ : MethodName) jdk_43_method_4_code 1 (some .boolean) ({ frames := 0, cells := 0, slots := 0, locals := 0 } : Room) #[(.int x)] h0 ss (rV fun v h => h0 = h ∧ v = .int 1) := by
  have hw := g.1
  have hEL := g.2.1
  refine Con.of (plainFor_of_name pn_3) hO ?_
  intro p e s m below meth c T0 me W0
  refine Fi.entry (L := #[.val (.int x)]) (by first | (simp [entryFrame, mkF, argsToLocals, Value.category, maxLocals]; done) | (simp [entryFrame, mkF, argsToLocals, Value.category]; done) | rfl) ?_
  refine W0.iloadN me d_jdk_43_method_4_0 rfl ?_
  show Fi p e below s Z _ _ _ _ T0 (mkF m 1 #[.val (.int x)] [(.int x)])
  refine W0.ifN_lt me d_jdk_43_method_4_1 hx.1 ?_
  refine W0.iloadN me d_jdk_43_method_4_4 rfl ?_
  refine W0.sipush me d_jdk_43_method_4_5 (v := 255) rfl ?_
  show Fi p e below s Z _ _ _ _ T0 (mkF m 8 #[.val (.int x)] [(.int (255 : Int32)), (.int x)])
  refine W0.icN_gt me d_jdk_43_method_4_8 hx.2 ?_
  refine W0.iconst me d_jdk_43_method_4_11 (v := 1) rfl ?_
  refine W0.goto me d_jdk_43_method_4_12 (pc' := 16) (by decide) (by decide) ?_
  show Fi p e below s Z _ _ _ _ T0 (mkF m 16 #[.val (.int x)] [(.int (1 : Int32))])
  exact W0.retN hEL me (Or.inl rfl) d_jdk_43_method_4_16 ⟨rfl, rfl⟩ (by decide) (by decide)

set_option maxRecDepth 65536 in
set_option maxHeartbeats 4000000 in
theorem c_idxchar {l : Launch} {Z : State} {a0 : Array Value} {kn : Bool} (g : Gl Z a0) {ws : List Cond} {h0 : Heap} {ss : List Addr} (hO : Old Z Z.heap.size h0) {b : Addr} {kb : ClassId} {cs : List Int32} {x : Int32} (AB : Arv Z h0 b kb .byte (Int32.ofNat cs.length) (lb cs) (.int 0)) (hl : cs.length < 2 ^ 20) (h8 : C8 cs) (hx : ¬ x < 0 ∧ ¬ (255 : Int32) < x) :
    Con l Z consts_1 kn ws (⟨"java/lang/StringLatin1", "indexOfChar", "([BIII)I"⟩ : MethodName) jdk_43_method_23_code 6 (some .int) ({ frames := 0, cells := 0, slots := 0, locals := 0 } : Room) #[(.ref b), (.int x), (.int 0), (.int (Int32.ofNat cs.length))] h0 ss (rV fun v h => h0 = h ∧ v = .int (ixF x cs)) := by
  have hw := g.1
  have hEL := g.2.1
  refine Con.of (plainFor_of_name pn_3) hO ?_
  intro p e s m below meth c T0 me W0
  refine Fi.entry (L := #[.val (.ref b), .val (.int x), .val (.int 0), .val (.int (Int32.ofNat cs.length)), .unset, .unset]) (by first | (simp [entryFrame, mkF, argsToLocals, Value.category, maxLocals]; done) | (simp [entryFrame, mkF, argsToLocals, Value.category]; done) | rfl) ?_
  have loop : ∀ (r i : Nat) (T1 : State), i + r = cs.length → (∀ j, j < i → cs.getD j 0 ≠ x) → Wk p l e ({ frames := 0, cells := 0, slots := 0, locals := 0 } : Room) s m #[(.ref b), (.int x), (.int 0), (.int (Int32.ofNat cs.length))] below meth c Z consts_1 kn "java/lang/StringLatin1" T1 h0 ss 0 0 → Fi p e below s Z consts_1 0 0 (rV fun v h => h0 = h ∧ v = .int (ixF x cs)) T1 (mkF m 7 #[.val (.ref b), .val (.int x), .val (.int 0), .val (.int (Int32.ofNat cs.length)), .val (.int x.toInt8.toInt32), .val (.int (Int32.ofNat i))] []) := by
    intro r
    induction r with
    | zero =>
      intro i T1 hi hq W1
      refine W1.iload me d_jdk_43_method_23_7 rfl ?_
      refine W1.iloadN me d_jdk_43_method_23_9 rfl ?_
      show Fi p e below s Z _ _ _ _ T1 (mkF m 10 #[.val (.ref b), .val (.int x), .val (.int 0), .val (.int (Int32.ofNat cs.length)), .val (.int x.toInt8.toInt32), .val (.int (Int32.ofNat i))] [(.int (Int32.ofNat cs.length)), (.int (Int32.ofNat i))])
      refine W1.icY_ge me d_jdk_43_method_23_10 (on_nlt (by omega) (by omega)) (pc' := 31) (by decide) (by decide) ?_
      refine W1.iconst me d_jdk_43_method_23_31 (v := -1) rfl ?_
      show Fi p e below s Z _ _ _ _ T1 (mkF m 32 #[.val (.ref b), .val (.int x), .val (.int 0), .val (.int (Int32.ofNat cs.length)), .val (.int x.toInt8.toInt32), .val (.int (Int32.ofNat i))] [(.int (-1 : Int32))])
      exact W1.retI hEL me d_jdk_43_method_23_32 ⟨rfl, by rw [ixF_none (fun j hj => hq j (by omega))]⟩ (by decide) (by decide)
    | succ r ih =>
      intro i T1 hi hq W1
      have hlt : i < cs.length := by omega
      refine W1.iload me d_jdk_43_method_23_7 rfl ?_
      refine W1.iloadN me d_jdk_43_method_23_9 rfl ?_
      show Fi p e below s Z _ _ _ _ T1 (mkF m 10 #[.val (.ref b), .val (.int x), .val (.int 0), .val (.int (Int32.ofNat cs.length)), .val (.int x.toInt8.toInt32), .val (.int (Int32.ofNat i))] [(.int (Int32.ofNat cs.length)), (.int (Int32.ofNat i))])
      refine W1.icN_ge me d_jdk_43_method_23_10 (on_lt hlt (by omega)) ?_
      refine W1.aloadN me d_jdk_43_method_23_13 rfl rfl ?_
      refine W1.iload me d_jdk_43_method_23_14 rfl ?_
      show Fi p e below s Z _ _ _ _ T1 (mkF m 16 #[.val (.ref b), .val (.int x), .val (.int 0), .val (.int (Int32.ofNat cs.length)), .val (.int x.toInt8.toInt32), .val (.int (Int32.ofNat i))] [(.int (Int32.ofNat i)), (.ref b)])
      refine W1.baload me AB d_jdk_43_method_23_16 (on_in hlt (by omega)) (v := .int (cs.getD i 0).toInt8.toInt32) (by rw [on_clamp (by omega), lb_get hlt]) ?_
      show Fi p e below s Z _ _ _ _ T1 (mkF m 17 #[.val (.ref b), .val (.int x), .val (.int 0), .val (.int (Int32.ofNat cs.length)), .val (.int x.toInt8.toInt32), .val (.int (Int32.ofNat i))] [(.int (cs.getD i 0).toInt8.toInt32)])
      refine W1.iload me d_jdk_43_method_23_17 rfl ?_
      show Fi p e below s Z _ _ _ _ T1 (mkF m 19 #[.val (.ref b), .val (.int x), .val (.int 0), .val (.int (Int32.ofNat cs.length)), .val (.int x.toInt8.toInt32), .val (.int (Int32.ofNat i))] [(.int x.toInt8.toInt32), (.int (cs.getD i 0).toInt8.toInt32)])
      refine W1.ic_ne me d_jdk_43_method_23_19 (pc' := 25) (by decide) (by decide) (fun hb1 => ?_) (fun hb1 => ?_)
      ·
        show Fi p e below s Z _ _ _ _ T1 (mkF m 25 #[.val (.ref b), .val (.int x), .val (.int 0), .val (.int (Int32.ofNat cs.length)), .val (.int x.toInt8.toInt32), .val (.int (Int32.ofNat i))] [])
        refine W1.iinc me d_jdk_43_method_23_25 (v := 1) rfl rfl (l' := #[.val (.ref b), .val (.int x), .val (.int 0), .val (.int (Int32.ofNat cs.length)), .val (.int x.toInt8.toInt32), .val (.int ((Int32.ofNat i) + (1 : Int32)))]) rfl ?_
        refine W1.goto me d_jdk_43_method_23_28 (pc' := 7) (by decide) (by decide) ?_
        show Fi p e below s Z _ _ _ _ T1 (mkF m 7 #[.val (.ref b), .val (.int x), .val (.int 0), .val (.int (Int32.ofNat cs.length)), .val (.int x.toInt8.toInt32), .val (.int ((Int32.ofNat i) + (1 : Int32)))] [])
        rw [on_succ]
        exact ih (i + 1) T1 (by omega) (fun j hj => (Nat.lt_succ_iff_lt_or_eq.mp hj).elim (hq j) (fun z => z ▸ fun q => hb1 (by rw [q]))) W1
      ·
        show Fi p e below s Z _ _ _ _ T1 (mkF m 22 #[.val (.ref b), .val (.int x), .val (.int 0), .val (.int (Int32.ofNat cs.length)), .val (.int x.toInt8.toInt32), .val (.int (Int32.ofNat i))] [])
        refine W1.iload me d_jdk_43_method_23_22 rfl ?_
        show Fi p e below s Z _ _ _ _ T1 (mkF m 24 #[.val (.ref b), .val (.int x), .val (.int 0), .val (.int (Int32.ofNat cs.length)), .val (.int x.toInt8.toInt32), .val (.int (Int32.ofNat i))] [(.int (Int32.ofNat i))])
        exact W1.retI hEL me d_jdk_43_method_23_24 ⟨rfl, by rw [(ixF_found hlt (byte_inj (h8.at hlt) hx hb1) hq).1]⟩ (by decide) (by decide)
  refine W0.iloadN me d_jdk_43_method_23_0 rfl ?_
  refine W0.i2b me d_jdk_43_method_23_1 ?_
  refine W0.istore me d_jdk_43_method_23_2 (l' := #[.val (.ref b), .val (.int x), .val (.int 0), .val (.int (Int32.ofNat cs.length)), .val (.int (x.toInt8.toInt32)), .unset]) rfl ?_
  refine W0.iloadN me d_jdk_43_method_23_4 rfl ?_
  refine W0.istore me d_jdk_43_method_23_5 (l' := #[.val (.ref b), .val (.int x), .val (.int 0), .val (.int (Int32.ofNat cs.length)), .val (.int (x.toInt8.toInt32)), .val (.int 0)]) rfl ?_
  show Fi p e below s Z _ _ _ _ T0 (mkF m 7 #[.val (.ref b), .val (.int x), .val (.int 0), .val (.int (Int32.ofNat cs.length)), .val (.int (x.toInt8.toInt32)), .val (.int 0)] [])
  exact loop cs.length 0 T0 (by omega) (fun j hj => absurd hj (by omega)) W0

set_option maxRecDepth 65536 in
set_option maxHeartbeats 4000000 in
theorem c_l1idx {l : Launch} {Z : State} {a0 : Array Value} {kn : Bool} (g : Gl Z a0) {ws : List Cond} {h0 : Heap} {ss : List Addr} (hO : Old Z Z.heap.size h0) {b : Addr} {kb : ClassId} {cs : List Int32} {x : Int32} (AB : Arv Z h0 b kb .byte (Int32.ofNat cs.length) (lb cs) (.int 0)) (hl : cs.length < 2 ^ 20) (h8 : C8 cs) (hx : ¬ x < 0 ∧ ¬ (255 : Int32) < x) :
    Con l Z consts_1 kn ws (⟨"java/lang/StringLatin1", "indexOf", "([BIII)I"⟩ : MethodName) jdk_43_method_22_code 4 (some .int) ({ frames := 1, cells := 0, slots := 0, locals := 17 } : Room) #[(.ref b), (.int x), (.int 0), (.int (Int32.ofNat cs.length))] h0 ss (rV fun v h => h0 = h ∧ v = .int (ixF x cs)) := by
  have hw := g.1
  have hEL := g.2.1
  refine Con.of (plainFor_of_name pn_3) hO ?_
  intro p e s m below meth c T0 me W0
  refine Fi.entry (L := #[.val (.ref b), .val (.int x), .val (.int 0), .val (.int (Int32.ofNat cs.length))]) (by first | (simp [entryFrame, mkF, argsToLocals, Value.category, maxLocals]; done) | (simp [entryFrame, mkF, argsToLocals, Value.category]; done) | rfl) ?_
  refine W0.iloadN me d_jdk_43_method_22_0 rfl ?_
  show Fi p e below s Z _ _ _ _ T0 (mkF m 1 #[.val (.ref b), .val (.int x), .val (.int 0), .val (.int (Int32.ofNat cs.length))] [(.int x)])
  refine W0.callS me hEL (hw _ (List.mem_of_getElem? (i := 64) rfl)) (hw _ (List.mem_of_getElem? (i := 65) rfl)) (hw _ (List.mem_of_getElem? (i := 62) rfl)) (hw _ (List.mem_of_getElem? (i := 66) rfl)) (argsL := [(.int x)]) (rest := []) (c_canenci (ss := []) g W0.old hx) d_jdk_43_method_22_1 (by decide) (fun _ q => nomatch q) rfl (lenOf pd_9 rfl) (own_le rfl) (own_le rfl) (own_le rfl) (own_le rfl) rfl ?_
  intro T1 h1 v1 W1 z1 q1
  obtain ⟨_, rfl, rfl, rfl⟩ := q1
  show Fi p e below s Z _ _ _ _ T1 (mkF m 4 #[.val (.ref b), .val (.int x), .val (.int 0), .val (.int (Int32.ofNat cs.length))] [(.int (1 : Int32))])
  show Fi p e below s Z _ _ _ _ T1 (mkF m 4 #[.val (.ref b), .val (.int x), .val (.int 0), .val (.int (Int32.ofNat cs.length))] [(.int (1 : Int32))])
  refine W1.ifY_ne me d_jdk_43_method_22_4 (by decide) (pc' := 9) (by decide) (by decide) ?_
  show Fi p e below s Z _ _ _ _ T1 (mkF m 9 #[.val (.ref b), .val (.int x), .val (.int 0), .val (.int (Int32.ofNat cs.length))] [])
  refine W1.iloadN me d_jdk_43_method_22_9 rfl ?_
  refine W1.iconst me d_jdk_43_method_22_10 (v := 0) rfl ?_
  show Fi p e below s Z _ _ _ _ T1 (mkF m 11 #[.val (.ref b), .val (.int x), .val (.int 0), .val (.int (Int32.ofNat cs.length))] [(.int (0 : Int32)), (.int 0)])
  refine W1.callS me hEL (hw _ (List.mem_of_getElem? (i := 67) rfl)) (hw _ (List.mem_of_getElem? (i := 68) rfl)) (hw _ (List.mem_of_getElem? (i := 69) rfl)) (hw _ (List.mem_of_getElem? (i := 70) rfl)) (argsL := [(.int 0), (.int (0 : Int32))]) (rest := []) (c_max (ss := []) g W1.old (by decide)) d_jdk_43_method_22_11 (by decide) (fun _ q => nomatch q) rfl (lenOf pd_10 rfl) (own_le rfl) (own_le rfl) (own_le rfl) (own_le rfl) rfl ?_
  intro T2 h2 v2 W2 z2 q2
  obtain ⟨_, rfl, rfl, rfl⟩ := q2
  show Fi p e below s Z _ _ _ _ T2 (mkF m 14 #[.val (.ref b), .val (.int x), .val (.int 0), .val (.int (Int32.ofNat cs.length))] [(.int (0 : Int32))])
  refine W2.istoreN me d_jdk_43_method_22_14 (l' := #[.val (.ref b), .val (.int x), .val (.int (0 : Int32)), .val (.int (Int32.ofNat cs.length))]) rfl ?_
  refine W2.iloadN me d_jdk_43_method_22_15 rfl ?_
  refine W2.aloadN me d_jdk_43_method_22_16 rfl rfl ?_
  show Fi p e below s Z _ _ _ _ T2 (mkF m 17 #[.val (.ref b), .val (.int x), .val (.int (0 : Int32)), .val (.int (Int32.ofNat cs.length))] [(.ref b), (.int (Int32.ofNat cs.length))])
  refine W2.alen me AB d_jdk_43_method_22_17 ?_
  refine W2.callS me hEL (hw _ (List.mem_of_getElem? (i := 71) rfl)) (hw _ (List.mem_of_getElem? (i := 72) rfl)) (hw _ (List.mem_of_getElem? (i := 69) rfl)) (hw _ (List.mem_of_getElem? (i := 73) rfl)) (argsL := [(.int (Int32.ofNat cs.length)), (.int (Int32.ofNat cs.length))]) (rest := []) (c_min (ss := []) g W2.old (on_nlt (Nat.le_refl _) (by omega))) d_jdk_43_method_22_18 (by decide) (fun _ q => nomatch q) rfl (lenOf pd_10 rfl) (own_le rfl) (own_le rfl) (own_le rfl) (own_le rfl) rfl ?_
  intro T3 h3 v3 W3 z3 q3
  obtain ⟨_, rfl, rfl, rfl⟩ := q3
  show Fi p e below s Z _ _ _ _ T3 (mkF m 21 #[.val (.ref b), .val (.int x), .val (.int (0 : Int32)), .val (.int (Int32.ofNat cs.length))] [(.int (Int32.ofNat cs.length))])
  refine W3.istoreN me d_jdk_43_method_22_21 (l' := #[.val (.ref b), .val (.int x), .val (.int (0 : Int32)), .val (.int (Int32.ofNat cs.length))]) rfl ?_
  refine W3.iloadN me d_jdk_43_method_22_22 rfl ?_
  refine W3.iloadN me d_jdk_43_method_22_23 rfl ?_
  show Fi p e below s Z _ _ _ _ T3 (mkF m 24 #[.val (.ref b), .val (.int x), .val (.int (0 : Int32)), .val (.int (Int32.ofNat cs.length))] [(.int (Int32.ofNat cs.length)), (.int (0 : Int32))])
  refine W3.ic_lt me d_jdk_43_method_22_24 (pc' := 29) (by decide) (by decide) (fun hb1 => ?_) (fun hb1 => ?_)
  ·
    show Fi p e below s Z _ _ _ _ T3 (mkF m 29 #[.val (.ref b), .val (.int x), .val (.int (0 : Int32)), .val (.int (Int32.ofNat cs.length))] [])
    refine W3.aloadN me d_jdk_43_method_22_29 rfl rfl ?_
    refine W3.iloadN me d_jdk_43_method_22_30 rfl ?_
    refine W3.iloadN me d_jdk_43_method_22_31 rfl ?_
    refine W3.iloadN me d_jdk_43_method_22_32 rfl ?_
    show Fi p e below s Z _ _ _ _ T3 (mkF m 33 #[.val (.ref b), .val (.int x), .val (.int (0 : Int32)), .val (.int (Int32.ofNat cs.length))] [(.int (Int32.ofNat cs.length)), (.int (0 : Int32)), (.int x), (.ref b)])
    refine W3.callS me hEL (hw _ (List.mem_of_getElem? (i := 90) rfl)) (hw _ (List.mem_of_getElem? (i := 91) rfl)) (hw _ (List.mem_of_getElem? (i := 62) rfl)) (hw _ (List.mem_of_getElem? (i := 92) rfl)) (argsL := [(.ref b), (.int x), (.int (0 : Int32)), (.int (Int32.ofNat cs.length))]) (rest := []) (c_idxchar (ss := []) g W3.old AB hl h8 hx) d_jdk_43_method_22_33 (by decide) (fun _ q => nomatch q) rfl (lenOf pd_11 rfl) (own_le rfl) (own_le rfl) (own_le rfl) (own_le rfl) rfl ?_
    intro T4 h4 v4 W4 z4 q4
    obtain ⟨_, rfl, rfl, rfl⟩ := q4
    show Fi p e below s Z _ _ _ _ T4 (mkF m 36 #[.val (.ref b), .val (.int x), .val (.int (0 : Int32)), .val (.int (Int32.ofNat cs.length))] [(.int (ixF x cs))])
    exact W4.retI hEL me d_jdk_43_method_22_36 ⟨rfl, rfl⟩ (by decide) (by decide)
  ·
    show Fi p e below s Z _ _ _ _ T3 (mkF m 27 #[.val (.ref b), .val (.int x), .val (.int (0 : Int32)), .val (.int (Int32.ofNat cs.length))] [])
    refine W3.iconst me d_jdk_43_method_22_27 (v := -1) rfl ?_
    show Fi p e below s Z _ _ _ _ T3 (mkF m 28 #[.val (.ref b), .val (.int x), .val (.int (0 : Int32)), .val (.int (Int32.ofNat cs.length))] [(.int (-1 : Int32))])
    have e0 : cs.length = 0 := Nat.eq_zero_of_not_pos (fun q => hb1 (on_lt (i := 0) q (by omega)))
    exact W3.retI hEL me d_jdk_43_method_22_28 ⟨rfl, by rw [ixF_none (fun j hj => absurd hj (by omega))]⟩ (by decide) (by decide)

set_option maxRecDepth 65536 in
set_option maxHeartbeats 4000000 in
theorem c_idx2 {l : Launch} {Z : State} {a0 : Array Value} {kn : Bool} (g : Gl Z a0) {ws : List Cond} {h0 : Heap} {ss : List Addr} (hO : Old Z Z.heap.size h0) {a : Addr} {cs : List Int32} {x : Int32} (L : Lat Z h0 a cs) (hx : ¬ x < 0 ∧ ¬ (255 : Int32) < x) :
    Con l Z consts_1 kn ws (⟨"java/lang/String", "indexOf", "(II)I"⟩ : MethodName) jdk_42_method_80_code 3 (some .int) ({ frames := 2, cells := 0, slots := 0, locals := 32 } : Room) #[(.ref a), (.int x), (.int 0)] h0 ss (rV fun v h => h0 = h ∧ v = .int (ixF x cs)) := by
  have hw := g.1
  have hEL := g.2.1
  refine Con.of (plainFor_of_name pn_1) hO ?_
  intro p e s m below meth c T0 me W0
  refine Fi.entry (L := #[.val (.ref a), .val (.int x), .val (.int 0)]) (by first | (simp [entryFrame, mkF, argsToLocals, Value.category, maxLocals]; done) | (simp [entryFrame, mkF, argsToLocals, Value.category]; done) | rfl) ?_
  have L' := L
  obtain ⟨vb, kb, EX, FC, FV, AB, hl, h8⟩ := L
  refine W0.aloadN me d_jdk_42_method_80_0 rfl rfl ?_
  show Fi p e below s Z _ _ _ _ T0 (mkF m 1 #[.val (.ref a), .val (.int x), .val (.int 0)] [(.ref a)])
  refine W0.callV me hEL (hw _ (List.mem_of_getElem? (i := 44) rfl)) (hw _ (List.mem_of_getElem? (i := 45) rfl)) (fun hZ' => notFace_of_selects (args := #[]) (mvT (s := s.setVm _) hZ' (hw _ (List.mem_of_getElem? (i := 47) rfl)))) (hw _ (List.mem_of_getElem? (i := 47) rfl)) (hw _ (List.mem_of_getElem? (i := 46) rfl)) (hw _ (List.mem_of_getElem? (i := 11) rfl)) (hw _ (List.mem_of_getElem? (i := 48) rfl)) (a := a) (argsL := []) (rest := []) EX (c_islat (ss := []) g W0.old FC) d_jdk_42_method_80_1 (by decide) (fun _ q => nomatch q) rfl (lenOf pd_7 rfl) (own_le rfl) (own_le rfl) (own_le rfl) (own_le rfl) rfl ?_
  intro T1 h1 v1 W1 z1 q1
  obtain ⟨_, rfl, rfl, rfl⟩ := q1
  show Fi p e below s Z _ _ _ _ T1 (mkF m 4 #[.val (.ref a), .val (.int x), .val (.int 0)] [(.int (1 : Int32))])
  show Fi p e below s Z _ _ _ _ T1 (mkF m 4 #[.val (.ref a), .val (.int x), .val (.int 0)] [(.int (1 : Int32))])
  refine W1.ifN_eq me d_jdk_42_method_80_4 (by decide) ?_
  show Fi p e below s Z _ _ _ _ T1 (mkF m 7 #[.val (.ref a), .val (.int x), .val (.int 0)] [])
  refine W1.aloadN me d_jdk_42_method_80_7 rfl rfl ?_
  show Fi p e below s Z _ _ _ _ T1 (mkF m 8 #[.val (.ref a), .val (.int x), .val (.int 0)] [(.ref a)])
  refine W1.getF me (hw _ (List.mem_of_getElem? (i := 28) rfl)) FV Via.refl d_jdk_42_method_80_8 ?_
  intro T2 W2
  show Fi p e below s Z _ _ _ _ T2 (mkF m 11 #[.val (.ref a), .val (.int x), .val (.int 0)] [(.ref vb)])
  refine W2.iloadN me d_jdk_42_method_80_11 rfl ?_
  refine W2.iloadN me d_jdk_42_method_80_12 rfl ?_
  refine W2.aloadN me d_jdk_42_method_80_13 rfl rfl ?_
  show Fi p e below s Z _ _ _ _ T2 (mkF m 14 #[.val (.ref a), .val (.int x), .val (.int 0)] [(.ref a), (.int 0), (.int x), (.ref vb)])
  refine W2.callV me hEL (hw _ (List.mem_of_getElem? (i := 50) rfl)) (hw _ (List.mem_of_getElem? (i := 51) rfl)) (fun hZ' => notFace_of_selects (args := #[]) (mvT (s := s.setVm _) hZ' (hw _ (List.mem_of_getElem? (i := 53) rfl)))) (hw _ (List.mem_of_getElem? (i := 53) rfl)) (hw _ (List.mem_of_getElem? (i := 52) rfl)) (hw _ (List.mem_of_getElem? (i := 11) rfl)) (hw _ (List.mem_of_getElem? (i := 54) rfl)) (a := a) (argsL := []) (rest := [(.int 0), (.int x), (.ref vb)]) EX (c_length (ss := []) g W2.old L') d_jdk_42_method_80_14 (by decide) (fun _ q => nomatch q) rfl (lenOf pd_12 rfl) (own_le rfl) (own_le rfl) (own_le rfl) (own_le rfl) rfl ?_
  intro T3 h3 v3 W3 z3 q3
  obtain ⟨_, rfl, rfl, rfl⟩ := q3
  show Fi p e below s Z _ _ _ _ T3 (mkF m 17 #[.val (.ref a), .val (.int x), .val (.int 0)] [(.int (Int32.ofNat cs.length)), (.int 0), (.int x), (.ref vb)])
  refine W3.callS me hEL (hw _ (List.mem_of_getElem? (i := 60) rfl)) (hw _ (List.mem_of_getElem? (i := 61) rfl)) (hw _ (List.mem_of_getElem? (i := 62) rfl)) (hw _ (List.mem_of_getElem? (i := 63) rfl)) (argsL := [(.ref vb), (.int x), (.int 0), (.int (Int32.ofNat cs.length))]) (rest := []) (c_l1idx (ss := []) g W3.old AB hl h8 hx) d_jdk_42_method_80_17 (by decide) (fun _ q => nomatch q) rfl (lenOf pd_11 rfl) (own_le rfl) (own_le rfl) (own_le rfl) (own_le rfl) rfl ?_
  intro T4 h4 v4 W4 z4 q4
  obtain ⟨_, rfl, rfl, rfl⟩ := q4
  show Fi p e below s Z _ _ _ _ T4 (mkF m 20 #[.val (.ref a), .val (.int x), .val (.int 0)] [(.int (ixF x cs))])
  refine W4.goto me d_jdk_42_method_80_20 (pc' := 36) (by decide) (by decide) ?_
  show Fi p e below s Z _ _ _ _ T4 (mkF m 36 #[.val (.ref a), .val (.int x), .val (.int 0)] [(.int (ixF x cs))])
  exact W4.retI hEL me d_jdk_42_method_80_36 ⟨rfl, rfl⟩ (by decide) (by decide)

set_option maxRecDepth 65536 in
set_option maxHeartbeats 4000000 in
theorem c_idx1 {l : Launch} {Z : State} {a0 : Array Value} {kn : Bool} (g : Gl Z a0) {ws : List Cond} {h0 : Heap} {ss : List Addr} (hO : Old Z Z.heap.size h0) {a : Addr} {cs : List Int32} {x : Int32} (L : Lat Z h0 a cs) (hx : ¬ x < 0 ∧ ¬ (255 : Int32) < x) :
    Con l Z consts_1 kn ws (⟨"java/lang/String", "indexOf", "(I)I"⟩ : MethodName) jdk_42_method_79_code 2 (some .int) ({ frames := 3, cells := 0, slots := 0, locals := 46 } : Room) #[(.ref a), (.int x)] h0 ss (rV fun v h => h0 = h ∧ v = .int (ixF x cs)) := by
  have hw := g.1
  have hEL := g.2.1
  refine Con.of (plainFor_of_name pn_1) hO ?_
  intro p e s m below meth c T0 me W0
  refine Fi.entry (L := #[.val (.ref a), .val (.int x)]) (by first | (simp [entryFrame, mkF, argsToLocals, Value.category, maxLocals]; done) | (simp [entryFrame, mkF, argsToLocals, Value.category]; done) | rfl) ?_
  have EX : Exa Z h0 a "java/lang/String" := by obtain ⟨_, _, q, _⟩ := L; exact q
  refine W0.aloadN me d_jdk_42_method_79_0 rfl rfl ?_
  refine W0.iloadN me d_jdk_42_method_79_1 rfl ?_
  refine W0.iconst me d_jdk_42_method_79_2 (v := 0) rfl ?_
  show Fi p e below s Z _ _ _ _ T0 (mkF m 3 #[.val (.ref a), .val (.int x)] [(.int (0 : Int32)), (.int x), (.ref a)])
  refine W0.callV me hEL (hw _ (List.mem_of_getElem? (i := 39) rfl)) (hw _ (List.mem_of_getElem? (i := 40) rfl)) (fun hZ' => notFace_of_selects (args := #[]) (mvT (s := s.setVm _) hZ' (hw _ (List.mem_of_getElem? (i := 42) rfl)))) (hw _ (List.mem_of_getElem? (i := 42) rfl)) (hw _ (List.mem_of_getElem? (i := 41) rfl)) (hw _ (List.mem_of_getElem? (i := 11) rfl)) (hw _ (List.mem_of_getElem? (i := 43) rfl)) (a := a) (argsL := [(.int x), (.int (0 : Int32))]) (rest := []) EX (c_idx2 (ss := []) g W0.old L hx) d_jdk_42_method_79_3 (by decide) (fun _ q => nomatch q) rfl (lenOf pd_10 rfl) (own_le rfl) (own_le rfl) (own_le rfl) (own_le rfl) rfl ?_
  intro T1 h1 v1 W1 z1 q1
  obtain ⟨_, rfl, rfl, rfl⟩ := q1
  show Fi p e below s Z _ _ _ _ T1 (mkF m 6 #[.val (.ref a), .val (.int x)] [(.int (ixF x cs))])
  exact W1.retI hEL me d_jdk_42_method_79_6 ⟨rfl, rfl⟩ (by decide) (by decide)

set_option maxRecDepth 65536 in
set_option maxHeartbeats 4000000 in
theorem c_achk {l : Launch} {Z : State} {a0 : Array Value} {kn : Bool} (g : Gl Z a0) {ws : List Cond} {h0 : Heap} {ss : List Addr} (hO : Old Z Z.heap.size h0) {i j : Int32} (hi : ¬ j < i) :
    Con l Z consts_1 kn ws (⟨"java/util/Arrays", "checkLength", "(II)V"⟩ : MethodName) jdk_65_method_131_code 2 none ({ frames := 0, cells := 0, slots := 0, locals := 0 } : Room) #[(.int i), (.int j)] h0 ss (rU fun h => h0 = h) := by
  have hw := g.1
  have hEL := g.2.1
  refine Con.of (plainFor_of_name pn_5) hO ?_
  intro p e s m below meth c T0 me W0
  refine Fi.entry (L := #[.val (.int i), .val (.int j)]) (by first | (simp [entryFrame, mkF, argsToLocals, Value.category, maxLocals]; done) | (simp [entryFrame, mkF, argsToLocals, Value.category]; done) | rfl) ?_
  refine W0.iloadN me d_jdk_65_method_131_0 rfl ?_
  refine W0.iloadN me d_jdk_65_method_131_1 rfl ?_
  show Fi p e below s Z _ _ _ _ T0 (mkF m 2 #[.val (.int i), .val (.int j)] [(.int i), (.int j)])
  refine W0.icY_ge me d_jdk_65_method_131_2 hi (pc' := 37) (by decide) (by decide) ?_
  show Fi p e below s Z _ _ _ _ T0 (mkF m 37 #[.val (.int i), .val (.int j)] [])
  exact W0.retU hEL me d_jdk_65_method_131_37 rfl (by decide) (by decide)

set_option maxRecDepth 65536 in
set_option maxHeartbeats 4000000 in
theorem c_crb {l : Launch} {Z : State} {a0 : Array Value} {kn : Bool} (g : Gl Z a0) {ws : List Cond} {h0 : Heap} {ss : List Addr} (hO : Old Z Z.heap.size h0) {b : Addr} {kb : ClassId} {cs : List Int32} {f n : Nat} (AB : Arv Z h0 b kb .byte (Int32.ofNat cs.length) (lb cs) (.int 0)) (hl : cs.length < 2 ^ 20) (hn : n ≤ 8) (hf : f + n ≤ cs.length) :
    Con l Z consts_1 kn ws (⟨"java/util/Arrays", "copyOfRangeByte", "([BII)[B"⟩ : MethodName) jdk_65_method_133_code 5 (some (.array .byte)) ({ frames := 1, cells := 1, slots := 8, locals := 18 } : Room) #[(.ref b), (.int (Int32.ofNat f)), (.int (Int32.ofNat (f + n)))] h0 ss (rV fun v h => Ext h0 h ∧ ∃ d kd, v = .ref d ∧ h0.size ≤ d ∧ Arv Z h d kd .byte (Int32.ofNat n) (lb (sub cs f n)) (.int 0)) := by
  have hw := g.1
  have hEL := g.2.1
  refine Con.of (plainFor_of_name pn_5) hO ?_
  intro p e s m below meth c T0 me W0
  refine Fi.entry (L := #[.val (.ref b), .val (.int (Int32.ofNat f)), .val (.int (Int32.ofNat (f + n))), .unset, .unset]) (by first | (simp [entryFrame, mkF, argsToLocals, Value.category, maxLocals]; done) | (simp [entryFrame, mkF, argsToLocals, Value.category]; done) | rfl) ?_
  have hblt := own_lt AB.lt
  refine W0.iloadN me d_jdk_65_method_133_0 rfl ?_
  refine W0.iloadN me d_jdk_65_method_133_1 rfl ?_
  show Fi p e below s Z _ _ _ _ T0 (mkF m 2 #[.val (.ref b), .val (.int (Int32.ofNat f)), .val (.int (Int32.ofNat (f + n))), .unset, .unset] [(.int (Int32.ofNat (f + n))), (.int (Int32.ofNat f))])
  refine W0.callS me hEL (hw _ (List.mem_of_getElem? (i := 122) rfl)) (hw _ (List.mem_of_getElem? (i := 123) rfl)) (hw _ (List.mem_of_getElem? (i := 117) rfl)) (hw _ (List.mem_of_getElem? (i := 124) rfl)) (argsL := [(.int (Int32.ofNat f)), (.int (Int32.ofNat (f + n)))]) (rest := []) (c_achk (ss := []) g W0.old (on_nlt (by omega) (by omega))) d_jdk_65_method_133_2 (by decide) (fun _ q => nomatch q) rfl (lenOf pd_6 rfl) (own_le rfl) (own_le rfl) (own_le rfl) (own_le rfl) rfl ?_
  intro T1 h1 v1 W1 z1 q1
  obtain ⟨rfl, rfl⟩ := q1
  show Fi p e below s Z _ _ _ _ T1 (mkF m 5 #[.val (.ref b), .val (.int (Int32.ofNat f)), .val (.int (Int32.ofNat (f + n))), .unset, .unset] [])
  refine W1.iloadN me d_jdk_65_method_133_5 rfl ?_
  refine W1.iloadN me d_jdk_65_method_133_6 rfl ?_
  refine W1.isub me d_jdk_65_method_133_7 ?_
  show Fi p e below s Z _ _ _ _ T1 (mkF m 8 #[.val (.ref b), .val (.int (Int32.ofNat f)), .val (.int (Int32.ofNat (f + n))), .unset, .unset] [(.int ((Int32.ofNat (f + n)) - (Int32.ofNat f)))])
  have e1 : Int32.ofNat (f + n) - Int32.ofNat f = Int32.ofNat n := by rw [on_sub (by omega)]; congr 1; omega
  rw [e1]
  refine W1.istoreN me d_jdk_65_method_133_8 (l' := #[.val (.ref b), .val (.int (Int32.ofNat f)), .val (.int (Int32.ofNat (f + n))), .val (.int (Int32.ofNat n)), .unset]) rfl ?_
  refine W1.iloadN me d_jdk_65_method_133_9 rfl ?_
  show Fi p e below s Z _ _ _ _ T1 (mkF m 10 #[.val (.ref b), .val (.int (Int32.ofNat f)), .val (.int (Int32.ofNat (f + n))), .val (.int (Int32.ofNat n)), .unset] [(.int (Int32.ofNat n))])
  refine W1.newA me (hw _ (List.mem_of_getElem? (i := 23) rfl)) d_jdk_65_method_133_10 (on_nneg (by omega)) (cap := 8) (by rw [on_clamp (by omega)]; omega) (own_le rfl) (own_le rfl) (own_le rfl) ?_
  intro T2 h2 a2 k2 g2 W2 E2 A2
  show Fi p e below s Z _ _ _ _ T2 (mkF m 12 #[.val (.ref b), .val (.int (Int32.ofNat f)), .val (.int (Int32.ofNat (f + n))), .val (.int (Int32.ofNat n)), .unset] [(.ref a2)])
  refine W2.astore me d_jdk_65_method_133_12 (l' := #[.val (.ref b), .val (.int (Int32.ofNat f)), .val (.int (Int32.ofNat (f + n))), .val (.int (Int32.ofNat n)), .val (.ref a2)]) rfl rfl ?_
  refine W2.aloadN me d_jdk_65_method_133_14 rfl rfl ?_
  refine W2.iloadN me d_jdk_65_method_133_15 rfl ?_
  refine W2.aload me d_jdk_65_method_133_16 rfl rfl ?_
  refine W2.iconst me d_jdk_65_method_133_18 (v := 0) rfl ?_
  refine W2.aloadN me d_jdk_65_method_133_19 rfl rfl ?_
  show Fi p e below s Z _ _ _ _ T2 (mkF m 20 #[.val (.ref b), .val (.int (Int32.ofNat f)), .val (.int (Int32.ofNat (f + n))), .val (.int (Int32.ofNat n)), .val (.ref a2)] [(.ref b), (.int (0 : Int32)), (.ref a2), (.int (Int32.ofNat f)), (.ref b)])
  refine W2.alen me (AB.ext E2) d_jdk_65_method_133_20 ?_
  refine W2.iloadN me d_jdk_65_method_133_21 rfl ?_
  refine W2.isub me d_jdk_65_method_133_22 ?_
  show Fi p e below s Z _ _ _ _ T2 (mkF m 23 #[.val (.ref b), .val (.int (Int32.ofNat f)), .val (.int (Int32.ofNat (f + n))), .val (.int (Int32.ofNat n)), .val (.ref a2)] [(.int ((Int32.ofNat cs.length) - (Int32.ofNat f))), (.int (0 : Int32)), (.ref a2), (.int (Int32.ofNat f)), (.ref b)])
  have e2 : Int32.ofNat cs.length - Int32.ofNat f = Int32.ofNat (cs.length - f) := on_sub (by omega)
  rw [e2]
  refine W2.iloadN me d_jdk_65_method_133_23 rfl ?_
  show Fi p e below s Z _ _ _ _ T2 (mkF m 24 #[.val (.ref b), .val (.int (Int32.ofNat f)), .val (.int (Int32.ofNat (f + n))), .val (.int (Int32.ofNat n)), .val (.ref a2)] [(.int (Int32.ofNat n)), (.int (Int32.ofNat (cs.length - f))), (.int (0 : Int32)), (.ref a2), (.int (Int32.ofNat f)), (.ref b)])
  refine W2.callS me hEL (hw _ (List.mem_of_getElem? (i := 125) rfl)) (hw _ (List.mem_of_getElem? (i := 72) rfl)) (hw _ (List.mem_of_getElem? (i := 69) rfl)) (hw _ (List.mem_of_getElem? (i := 73) rfl)) (argsL := [(.int (Int32.ofNat (cs.length - f))), (.int (Int32.ofNat n))]) (rest := [(.int (0 : Int32)), (.ref a2), (.int (Int32.ofNat f)), (.ref b)]) (c_min (ss := []) g W2.old (on_nlt (by omega) (by omega))) d_jdk_65_method_133_24 (by decide) (fun _ q => nomatch q) rfl (lenOf pd_10 rfl) (own_le rfl) (own_le rfl) (own_le rfl) (own_le rfl) rfl ?_
  intro T3 h3 v3 W3 z3 q3
  obtain ⟨_, rfl, rfl, rfl⟩ := q3
  show Fi p e below s Z _ _ _ _ T3 (mkF m 27 #[.val (.ref b), .val (.int (Int32.ofNat f)), .val (.int (Int32.ofNat (f + n))), .val (.int (Int32.ofNat n)), .val (.ref a2)] [(.int (Int32.ofNat n)), (.int (0 : Int32)), (.ref a2), (.int (Int32.ofNat f)), (.ref b)])
  have hz2 : Z.heap.size ≤ a2 := by have := hO.2.1; omega
  refine W3.acopy me (hw _ (List.mem_of_getElem? (i := 126) rfl)) (hw _ (List.mem_of_getElem? (i := 129) rfl)) (hw _ (List.mem_of_getElem? (i := 127) rfl)) (hw _ (List.mem_of_getElem? (i := 128) rfl)) (AB.ext E2) (own_fill A2 n) rfl (Or.inl (List.mem_cons_self ..)) hz2 (on_nneg (by omega)) (by decide) (on_nneg (by omega)) (by rw [on_clamp (by omega), on_clamp (by omega), on_clamp (by omega)]; omega) (by rw [on_clamp (by omega)]; show 0 + n ≤ n; omega) (us := lb (sub cs f n)) (by rw [on_clamp (by omega), on_clamp (by omega)]; exact (own_us (by omega)).symm) (by rw [on_clamp (by omega), List.length_replicate]; show 0 + n ≤ n; omega) d_jdk_65_method_133_27 rfl (own_le rfl) (own_le rfl) ?_
  intro T4 h4 W4 K4 A4
  show Fi p e below s Z _ _ _ _ T4 (mkF m 30 #[.val (.ref b), .val (.int (Int32.ofNat f)), .val (.int (Int32.ofNat (f + n))), .val (.int (Int32.ofNat n)), .val (.ref a2)] [])
  refine W4.aload me d_jdk_65_method_133_30 rfl rfl ?_
  show Fi p e below s Z _ _ _ _ T4 (mkF m 32 #[.val (.ref b), .val (.int (Int32.ofNat f)), .val (.int (Int32.ofNat (f + n))), .val (.int (Int32.ofNat n)), .val (.ref a2)] [(.ref a2)])
  have eA : List.take (0 : Int32).toNatClampNeg (List.replicate n (Value.int 0)) ++ lb (sub cs f n) ++ List.drop ((0 : Int32).toNatClampNeg + (Int32.ofNat n).toNatClampNeg) (List.replicate n (Value.int 0)) = lb (sub cs f n) := by
    rw [on_clamp (by omega)]
    show List.take 0 _ ++ _ ++ List.drop (0 + n) _ = _
    simp
  have A4' : Arv Z h4 a2 k2 .byte (Int32.ofNat n) (lb (sub cs f n)) (.int 0) := eA ▸ A4
  exact W4.retA hEL me d_jdk_65_method_133_32 ⟨own_xk E2 K4 (allS (by omega) all0), a2, k2, rfl, by omega, A4'⟩ (by decide) (by decide) rfl rfl rfl

set_option maxRecDepth 65536 in
set_option maxHeartbeats 4000000 in
theorem c_cr {l : Launch} {Z : State} {a0 : Array Value} {kn : Bool} (g : Gl Z a0) {ws : List Cond} {h0 : Heap} {ss : List Addr} (hO : Old Z Z.heap.size h0) {b : Addr} {kb : ClassId} {cs : List Int32} {f n : Nat} (AB : Arv Z h0 b kb .byte (Int32.ofNat cs.length) (lb cs) (.int 0)) (hl : cs.length < 2 ^ 20) (hn : n ≤ 8) (hf : f + n ≤ cs.length) (hne : f ≠ 0 ∨ f + n ≠ cs.length) :
    Con l Z consts_1 kn ws (⟨"java/util/Arrays", "copyOfRange", "([BII)[B"⟩ : MethodName) jdk_65_method_132_code 3 (some (.array .byte)) ({ frames := 2, cells := 1, slots := 8, locals := 34 } : Room) #[(.ref b), (.int (Int32.ofNat f)), (.int (Int32.ofNat (f + n)))] h0 ss (rV fun v h => Ext h0 h ∧ ∃ d kd, v = .ref d ∧ h0.size ≤ d ∧ Arv Z h d kd .byte (Int32.ofNat n) (lb (sub cs f n)) (.int 0)) := by
  have hw := g.1
  have hEL := g.2.1
  refine Con.of (plainFor_of_name pn_5) hO ?_
  intro p e s m below meth c T0 me W0
  refine Fi.entry (L := #[.val (.ref b), .val (.int (Int32.ofNat f)), .val (.int (Int32.ofNat (f + n)))]) (by first | (simp [entryFrame, mkF, argsToLocals, Value.category, maxLocals]; done) | (simp [entryFrame, mkF, argsToLocals, Value.category]; done) | rfl) ?_
  refine W0.iloadN me d_jdk_65_method_132_0 rfl ?_
  show Fi p e below s Z _ _ _ _ T0 (mkF m 1 #[.val (.ref b), .val (.int (Int32.ofNat f)), .val (.int (Int32.ofNat (f + n)))] [(.int (Int32.ofNat f))])
  refine W0.if_ne me d_jdk_65_method_132_1 (pc' := 10) (by decide) (by decide) (fun hb1 => ?_) (fun hb1 => ?_)
  ·
    show Fi p e below s Z _ _ _ _ T0 (mkF m 10 #[.val (.ref b), .val (.int (Int32.ofNat f)), .val (.int (Int32.ofNat (f + n)))] [])
    refine W0.aloadN me d_jdk_65_method_132_10 rfl rfl ?_
    refine W0.iloadN me d_jdk_65_method_132_11 rfl ?_
    refine W0.iloadN me d_jdk_65_method_132_12 rfl ?_
    show Fi p e below s Z _ _ _ _ T0 (mkF m 13 #[.val (.ref b), .val (.int (Int32.ofNat f)), .val (.int (Int32.ofNat (f + n)))] [(.int (Int32.ofNat (f + n))), (.int (Int32.ofNat f)), (.ref b)])
    refine W0.callS me hEL (hw _ (List.mem_of_getElem? (i := 119) rfl)) (hw _ (List.mem_of_getElem? (i := 120) rfl)) (hw _ (List.mem_of_getElem? (i := 117) rfl)) (hw _ (List.mem_of_getElem? (i := 121) rfl)) (argsL := [(.ref b), (.int (Int32.ofNat f)), (.int (Int32.ofNat (f + n)))]) (rest := []) (c_crb (ss := []) g W0.old AB hl hn hf) d_jdk_65_method_132_13 (by decide) (fun _ q => nomatch q) rfl (lenOf pd_13 rfl) (own_le rfl) (own_le rfl) (own_le rfl) (own_le rfl) rfl ?_
    intro T1 h1 v1 W1 z1 q1
    obtain ⟨_, rfl, E1, d1, k1, rfl, y1, A1⟩ := q1
    show Fi p e below s Z _ _ _ _ T1 (mkF m 16 #[.val (.ref b), .val (.int (Int32.ofNat f)), .val (.int (Int32.ofNat (f + n)))] [(.ref d1)])
    exact W1.retA hEL me d_jdk_65_method_132_16 ⟨E1, d1, k1, rfl, y1, A1⟩ (by decide) (by decide) rfl rfl rfl
  ·
    show Fi p e below s Z _ _ _ _ T0 (mkF m 4 #[.val (.ref b), .val (.int (Int32.ofNat f)), .val (.int (Int32.ofNat (f + n)))] [])
    refine W0.iloadN me d_jdk_65_method_132_4 rfl ?_
    refine W0.aloadN me d_jdk_65_method_132_5 rfl rfl ?_
    show Fi p e below s Z _ _ _ _ T0 (mkF m 6 #[.val (.ref b), .val (.int (Int32.ofNat f)), .val (.int (Int32.ofNat (f + n)))] [(.ref b), (.int (Int32.ofNat (f + n)))])
    refine W0.alen me AB d_jdk_65_method_132_6 ?_
    show Fi p e below s Z _ _ _ _ T0 (mkF m 7 #[.val (.ref b), .val (.int (Int32.ofNat f)), .val (.int (Int32.ofNat (f + n)))] [(.int (Int32.ofNat cs.length)), (.int (Int32.ofNat (f + n)))])
    refine W0.icN_eq me d_jdk_65_method_132_7 (fun q => hne.elim (fun z => z ((on_inj (by omega) (n := 0) (by omega)).mp hb1)) (fun z => z ((on_inj (by omega) (by omega)).mp q))) ?_
    refine W0.aloadN me d_jdk_65_method_132_10 rfl rfl ?_
    refine W0.iloadN me d_jdk_65_method_132_11 rfl ?_
    refine W0.iloadN me d_jdk_65_method_132_12 rfl ?_
    show Fi p e below s Z _ _ _ _ T0 (mkF m 13 #[.val (.ref b), .val (.int (Int32.ofNat f)), .val (.int (Int32.ofNat (f + n)))] [(.int (Int32.ofNat (f + n))), (.int (Int32.ofNat f)), (.ref b)])
    refine W0.callS me hEL (hw _ (List.mem_of_getElem? (i := 119) rfl)) (hw _ (List.mem_of_getElem? (i := 120) rfl)) (hw _ (List.mem_of_getElem? (i := 117) rfl)) (hw _ (List.mem_of_getElem? (i := 121) rfl)) (argsL := [(.ref b), (.int (Int32.ofNat f)), (.int (Int32.ofNat (f + n)))]) (rest := []) (c_crb (ss := []) g W0.old AB hl hn hf) d_jdk_65_method_132_13 (by decide) (fun _ q => nomatch q) rfl (lenOf pd_13 rfl) (own_le rfl) (own_le rfl) (own_le rfl) (own_le rfl) rfl ?_
    intro T2 h2 v2 W2 z2 q2
    obtain ⟨_, rfl, E2, d2, k2, rfl, y2, A2⟩ := q2
    show Fi p e below s Z _ _ _ _ T2 (mkF m 16 #[.val (.ref b), .val (.int (Int32.ofNat f)), .val (.int (Int32.ofNat (f + n)))] [(.ref d2)])
    exact W2.retA hEL me d_jdk_65_method_132_16 ⟨E2, d2, k2, rfl, y2, A2⟩ (by decide) (by decide) rfl rfl rfl

set_option maxRecDepth 65536 in
set_option maxHeartbeats 4000000 in
theorem c_pft {l : Launch} {Z : State} {a0 : Array Value} {kn : Bool} (g : Gl Z a0) {ws : List Cond} {h0 : Heap} {ss : List Addr} (hO : Old Z Z.heap.size h0) {i j n : Int32} {G : Value} (rG : G.isRef = true) (hi : ¬ i < 0 ∧ ¬ j < i ∧ ¬ n < j) :
    Con l Z consts_1 kn ws (⟨"jdk/internal/util/Preconditions", "checkFromToIndex", "(IIILjava/util/function/BiFunction;)I"⟩ : MethodName) jdk_41_method_12_code 4 (some .int) ({ frames := 0, cells := 0, slots := 0, locals := 0 } : Room) #[(.int i), (.int j), (.int n), G] h0 ss (rV fun v h => h0 = h ∧ v = .int i) := by
  have hw := g.1
  have hEL := g.2.1
  refine Con.of (plainFor_of_name pn_2) hO ?_
  intro p e s m below meth c T0 me W0
  refine Fi.entry (L := #[.val (.int i), .val (.int j), .val (.int n), .val G]) (by rcases ref_cases rG with rfl | ⟨ga, rfl⟩ <;> simp [entryFrame, mkF, argsToLocals, Value.category]) ?_
  refine W0.iloadN me d_jdk_41_method_12_0 rfl ?_
  show Fi p e below s Z _ _ _ _ T0 (mkF m 1 #[.val (.int i), .val (.int j), .val (.int n), .val G] [(.int i)])
  refine W0.ifN_lt me d_jdk_41_method_12_1 hi.1 ?_
  refine W0.iloadN me d_jdk_41_method_12_4 rfl ?_
  refine W0.iloadN me d_jdk_41_method_12_5 rfl ?_
  show Fi p e below s Z _ _ _ _ T0 (mkF m 6 #[.val (.int i), .val (.int j), .val (.int n), .val G] [(.int j), (.int i)])
  refine W0.icN_gt me d_jdk_41_method_12_6 hi.2.1 ?_
  refine W0.iloadN me d_jdk_41_method_12_9 rfl ?_
  refine W0.iloadN me d_jdk_41_method_12_10 rfl ?_
  show Fi p e below s Z _ _ _ _ T0 (mkF m 11 #[.val (.int i), .val (.int j), .val (.int n), .val G] [(.int n), (.int j)])
  refine W0.icY_le me d_jdk_41_method_12_11 hi.2.2 (pc' := 22) (by decide) (by decide) ?_
  refine W0.iloadN me d_jdk_41_method_12_22 rfl ?_
  show Fi p e below s Z _ _ _ _ T0 (mkF m 23 #[.val (.int i), .val (.int j), .val (.int n), .val G] [(.int i)])
  exact W0.retI hEL me d_jdk_41_method_12_23 ⟨rfl, rfl⟩ (by decide) (by decide)

set_option maxRecDepth 65536 in
set_option maxHeartbeats 4000000 in
theorem c_sbe {l : Launch} {Z : State} {a0 : Array Value} {kn : Bool} (g : Gl Z a0) {ws : List Cond} {h0 : Heap} {ss : List Addr} (hO : Old Z Z.heap.size h0) {i j n : Int32} (hi : ¬ i < 0 ∧ ¬ j < i ∧ ¬ n < j) :
    Con l Z consts_1 kn ws (⟨"java/lang/String", "checkBoundsBeginEnd", "(III)V"⟩ : MethodName) jdk_42_method_158_code 3 none ({ frames := 1, cells := 0, slots := 0, locals := 15 } : Room) #[(.int i), (.int j), (.int n)] h0 ss (rU fun h => h0 = h) := by
  have hw := g.1
  have hEL := g.2.1
  refine Con.of (plainFor_of_name pn_1) hO ?_
  intro p e s m below meth c T0 me W0
  refine Fi.entry (L := #[.val (.int i), .val (.int j), .val (.int n)]) (by first | (simp [entryFrame, mkF, argsToLocals, Value.category, maxLocals]; done) | (simp [entryFrame, mkF, argsToLocals, Value.category]; done) | rfl) ?_
  obtain ⟨G, O3, rG⟩ := g.2.2.2.1
  refine W0.iloadN me d_jdk_42_method_158_0 rfl ?_
  refine W0.iloadN me d_jdk_42_method_158_1 rfl ?_
  refine W0.iloadN me d_jdk_42_method_158_2 rfl ?_
  show Fi p e below s Z _ _ _ _ T0 (mkF m 3 #[.val (.int i), .val (.int j), .val (.int n)] [(.int n), (.int j), (.int i)])
  refine W0.getS me (hw _ (List.mem_of_getElem? (i := 106) rfl)) O3 Via.refl d_jdk_42_method_158_3 ?_
  intro T1 W1
  show Fi p e below s Z _ _ _ _ T1 (mkF m 6 #[.val (.int i), .val (.int j), .val (.int n)] [G, (.int n), (.int j), (.int i)])
  refine W1.callS me hEL (hw _ (List.mem_of_getElem? (i := 108) rfl)) (hw _ (List.mem_of_getElem? (i := 109) rfl)) (hw _ (List.mem_of_getElem? (i := 107) rfl)) (hw _ (List.mem_of_getElem? (i := 110) rfl)) (argsL := [(.int i), (.int j), (.int n), G]) (rest := []) (c_pft (ss := []) g W1.old rG hi) d_jdk_42_method_158_6 (by decide) (fun _ q => nomatch q) rfl (lenOf pd_14 rfl) (own_le rfl) (own_le rfl) (own_le rfl) (own_le rfl) rfl ?_
  intro T2 h2 v2 W2 z2 q2
  obtain ⟨_, rfl, rfl, rfl⟩ := q2
  show Fi p e below s Z _ _ _ _ T2 (mkF m 9 #[.val (.int i), .val (.int j), .val (.int n)] [(.int i)])
  refine W2.pop me d_jdk_42_method_158_9 rfl ?_
  show Fi p e below s Z _ _ _ _ T2 (mkF m 10 #[.val (.int i), .val (.int j), .val (.int n)] [])
  exact W2.retU hEL me d_jdk_42_method_158_10 rfl (by decide) (by decide)

set_option maxRecDepth 65536 in
set_option maxHeartbeats 4000000 in
theorem c_newstr {l : Launch} {Z : State} {a0 : Array Value} {kn : Bool} (g : Gl Z a0) {ws : List Cond} {h0 : Heap} {ss : List Addr} (hO : Old Z Z.heap.size h0) {b : Addr} {kb : ClassId} {cs : List Int32} {f n : Nat} (AB : Arv Z h0 b kb .byte (Int32.ofNat cs.length) (lb cs) (.int 0)) (hl : cs.length < 2 ^ 20) (h8 : C8 cs) (hn : n ≤ 8) (hf : f + n ≤ cs.length) (hne : f ≠ 0 ∨ f + n ≠ cs.length) :
    Con l Z consts_1 kn ws (⟨"java/lang/StringLatin1", "newString", "([BII)Ljava/lang/String;"⟩ : MethodName) jdk_43_method_47_code 3 (some (.object "java/lang/String")) ({ frames := 3, cells := 2, slots := 12, locals := 50 } : Room) #[(.ref b), (.int (Int32.ofNat f)), (.int (Int32.ofNat n))] h0 ss (rV fun v h => Ext h0 h ∧ ∃ a, v = .ref a ∧ Lat Z h a (sub cs f n)) := by
  have hw := g.1
  have hEL := g.2.1
  refine Con.of (plainFor_of_name pn_3) hO ?_
  intro p e s m below meth c T0 me W0
  refine Fi.entry (L := #[.val (.ref b), .val (.int (Int32.ofNat f)), .val (.int (Int32.ofNat n))]) (by first | (simp [entryFrame, mkF, argsToLocals, Value.category, maxLocals]; done) | (simp [entryFrame, mkF, argsToLocals, Value.category]; done) | rfl) ?_
  refine W0.iloadN me d_jdk_43_method_47_0 rfl ?_
  show Fi p e below s Z _ _ _ _ T0 (mkF m 1 #[.val (.ref b), .val (.int (Int32.ofNat f)), .val (.int (Int32.ofNat n))] [(.int (Int32.ofNat n))])
  refine W0.if_ne me d_jdk_43_method_47_1 (pc' := 7) (by decide) (by decide) (fun hb1 => ?_) (fun hb1 => ?_)
  rotate_left
  ·
    show Fi p e below s Z _ _ _ _ T0 (mkF m 4 #[.val (.ref b), .val (.int (Int32.ofNat f)), .val (.int (Int32.ofNat n))] [])
    have e0 : n = 0 := (on_inj (by omega) (n := 0) (by omega)).mp hb1
    refine W0.ldcS me hEL (List.mem_of_getElem? (i := 2) rfl) (hw _ (List.mem_of_getElem? (i := 148) rfl)) (stratoms g) (vs := []) (z := 0) ⟨by decide, by decide⟩ (by decide) (by decide) d_jdk_43_method_47_4 (n := 0) (by decide) (by decide) (by decide) (by decide) ?_
    intro T1 h1 a1 b1 k1 W1 E1 A1 C1 V1 B1 N1
    show Fi p e below s Z _ _ _ _ T1 (mkF m 6 #[.val (.ref b), .val (.int (Int32.ofNat f)), .val (.int (Int32.ofNat n))] [(.ref a1)])
    exact W1.retA hEL me d_jdk_43_method_47_6 ⟨E1, a1, rfl, by rw [e0, sub_nil]; exact ⟨b1, k1, A1, C1, V1, B1, by decide, C8.nil⟩⟩ (by decide) (by decide) rfl rfl rfl
  ·
    show Fi p e below s Z _ _ _ _ T0 (mkF m 7 #[.val (.ref b), .val (.int (Int32.ofNat f)), .val (.int (Int32.ofNat n))] [])
    refine W0.newO me (hw _ (List.mem_of_getElem? (i := 114) rfl)) (hw _ (List.mem_of_getElem? (i := 10) rfl)) (hw _ (List.mem_of_getElem? (i := 11) rfl)) d_jdk_43_method_47_7 (own_le rfl) (own_le rfl) ?_
    intro T2 h2 a2 g2 W2 E2 A2 D2 U2
    show Fi p e below s Z _ _ _ _ T2 (mkF m 10 #[.val (.ref b), .val (.int (Int32.ofNat f)), .val (.int (Int32.ofNat n))] [(.ref a2)])
    refine W2.dup me d_jdk_43_method_47_10 rfl ?_
    refine W2.aloadN me d_jdk_43_method_47_11 rfl rfl ?_
    refine W2.iloadN me d_jdk_43_method_47_12 rfl ?_
    refine W2.iloadN me d_jdk_43_method_47_13 rfl ?_
    refine W2.iloadN me d_jdk_43_method_47_14 rfl ?_
    show Fi p e below s Z _ _ _ _ T2 (mkF m 15 #[.val (.ref b), .val (.int (Int32.ofNat f)), .val (.int (Int32.ofNat n))] [(.int (Int32.ofNat n)), (.int (Int32.ofNat f)), (.int (Int32.ofNat f)), (.ref b), (.ref a2), (.ref a2)])
    refine W2.iadd me d_jdk_43_method_47_15 ?_
    rw [on_add]
    show Fi p e below s Z _ _ _ _ T2 (mkF m 16 #[.val (.ref b), .val (.int (Int32.ofNat f)), .val (.int (Int32.ofNat n))] [(.int (Int32.ofNat (f + n))), (.int (Int32.ofNat f)), (.ref b), (.ref a2), (.ref a2)])
    refine W2.callS me hEL (hw _ (List.mem_of_getElem? (i := 115) rfl)) (hw _ (List.mem_of_getElem? (i := 116) rfl)) (hw _ (List.mem_of_getElem? (i := 117) rfl)) (hw _ (List.mem_of_getElem? (i := 118) rfl)) (argsL := [(.ref b), (.int (Int32.ofNat f)), (.int (Int32.ofNat (f + n)))]) (rest := [(.ref a2), (.ref a2)]) (c_cr (ss := []) g W2.old (AB.ext E2) hl hn hf hne) d_jdk_43_method_47_16 (by decide) (fun _ q => nomatch q) rfl (lenOf pd_13 rfl) (own_le rfl) (own_le rfl) (own_le rfl) (own_le rfl) rfl ?_
    intro T3 h3 v3 W3 z3 q3
    obtain ⟨_, rfl, E3, d3, k3, rfl, y3, A3⟩ := q3
    show Fi p e below s Z _ _ _ _ T3 (mkF m 19 #[.val (.ref b), .val (.int (Int32.ofNat f)), .val (.int (Int32.ofNat n))] [(.ref d3), (.ref a2), (.ref a2)])
    refine W3.iconst me d_jdk_43_method_47_19 (v := 0) rfl ?_
    show Fi p e below s Z _ _ _ _ T3 (mkF m 20 #[.val (.ref b), .val (.int (Int32.ofNat f)), .val (.int (Int32.ofNat n))] [(.int (0 : Int32)), (.ref d3), (.ref a2), (.ref a2)])
    have hxn : Z.heap.size ≤ a2 := by have := hO.2.1; omega
    refine W3.callI me hEL (hw _ (List.mem_of_getElem? (i := 130) rfl)) (hw _ (List.mem_of_getElem? (i := 131) rfl)) (hw _ (List.mem_of_getElem? (i := 11) rfl)) (hw _ (List.mem_of_getElem? (i := 132) rfl)) rfl (a := a2) (argsL := [(.ref d3), (.int (0 : Int32))]) (rest := [(.ref a2)]) (c_init151 g W3.old (A2.ext E3) ((D2 (Or.inr (hw _ (List.mem_of_getElem? (i := 24) rfl))) (ty := .array .byte) (by decide)).ext E3) ((D2 (Or.inr (hw _ (List.mem_of_getElem? (i := 25) rfl))) (ty := .byte) (by decide)).ext E3) (List.mem_cons_self ..) hxn rfl rfl) d_jdk_43_method_47_20 (by decide) (fun _ q => q) rfl (lenOf pd_15 rfl) (own_le rfl) (own_le rfl) (own_le rfl) (own_le rfl) rfl ?_
    intro T4 h4 v4 W4 z4 q4
    obtain ⟨rfl, K4, EX4, FV4, FC4⟩ := q4
    show Fi p e below s Z _ _ _ _ T4 (mkF m 23 #[.val (.ref b), .val (.int (Int32.ofNat f)), .val (.int (Int32.ofNat n))] [(.ref a2)])
    have hlt2 := own_lt A2.lt
    have hd3 : d3 ≠ a2 := own_en (by omega)
    have hsl := sub_len hf
    exact W4.retA hEL me d_jdk_43_method_47_23 ⟨own_xk (own_xt E2 E3) K4 (allS (by omega) all0), a2, rfl, d3, k3, EX4, FC4, FV4, by rw [hsl]; exact A3.keep K4 (ninS hd3 nin0), by rw [hsl]; omega, h8.sub f n⟩ (by decide) (by decide) rfl rfl rfl

set_option maxRecDepth 65536 in
set_option maxHeartbeats 4000000 in
theorem c_substr2 {l : Launch} {Z : State} {a0 : Array Value} {kn : Bool} (g : Gl Z a0) {ws : List Cond} {h0 : Heap} {ss : List Addr} (hO : Old Z Z.heap.size h0) {a : Addr} {cs : List Int32} {f n : Nat} (L : Lat Z h0 a cs) (hn : n ≤ 8) (hf : f + n ≤ cs.length) :
    Con l Z consts_1 kn ws (⟨"java/lang/String", "substring", "(II)Ljava/lang/String;"⟩ : MethodName) jdk_42_method_92_code 5 (some (.object "java/lang/String")) ({ frames := 4, cells := 2, slots := 12, locals := 64 } : Room) #[(.ref a), (.int (Int32.ofNat f)), (.int (Int32.ofNat (f + n)))] h0 ss (rV fun v h => Ext h0 h ∧ ∃ d, v = .ref d ∧ Lat Z h d (sub cs f n)) := by
  have hw := g.1
  have hEL := g.2.1
  refine Con.of (plainFor_of_name pn_1) hO ?_
  intro p e s m below meth c T0 me W0
  refine Fi.entry (L := #[.val (.ref a), .val (.int (Int32.ofNat f)), .val (.int (Int32.ofNat (f + n))), .unset, .unset]) (by first | (simp [entryFrame, mkF, argsToLocals, Value.category, maxLocals]; done) | (simp [entryFrame, mkF, argsToLocals, Value.category]; done) | rfl) ?_
  have L' := L
  obtain ⟨vb, kb, EX, FC, FV, AB, hl, h8⟩ := L
  refine W0.aloadN me d_jdk_42_method_92_0 rfl rfl ?_
  show Fi p e below s Z _ _ _ _ T0 (mkF m 1 #[.val (.ref a), .val (.int (Int32.ofNat f)), .val (.int (Int32.ofNat (f + n))), .unset, .unset] [(.ref a)])
  refine W0.callV me hEL (hw _ (List.mem_of_getElem? (i := 50) rfl)) (hw _ (List.mem_of_getElem? (i := 51) rfl)) (fun hZ' => notFace_of_selects (args := #[]) (mvT (s := s.setVm _) hZ' (hw _ (List.mem_of_getElem? (i := 53) rfl)))) (hw _ (List.mem_of_getElem? (i := 53) rfl)) (hw _ (List.mem_of_getElem? (i := 52) rfl)) (hw _ (List.mem_of_getElem? (i := 11) rfl)) (hw _ (List.mem_of_getElem? (i := 54) rfl)) (a := a) (argsL := []) (rest := []) EX (c_length (ss := []) g W0.old L') d_jdk_42_method_92_1 (by decide) (fun _ q => nomatch q) rfl (lenOf pd_12 rfl) (own_le rfl) (own_le rfl) (own_le rfl) (own_le rfl) rfl ?_
  intro T1 h1 v1 W1 z1 q1
  obtain ⟨_, rfl, rfl, rfl⟩ := q1
  show Fi p e below s Z _ _ _ _ T1 (mkF m 4 #[.val (.ref a), .val (.int (Int32.ofNat f)), .val (.int (Int32.ofNat (f + n))), .unset, .unset] [(.int (Int32.ofNat cs.length))])
  refine W1.istoreN me d_jdk_42_method_92_4 (l' := #[.val (.ref a), .val (.int (Int32.ofNat f)), .val (.int (Int32.ofNat (f + n))), .val (.int (Int32.ofNat cs.length)), .unset]) rfl ?_
  refine W1.iloadN me d_jdk_42_method_92_5 rfl ?_
  refine W1.iloadN me d_jdk_42_method_92_6 rfl ?_
  refine W1.iloadN me d_jdk_42_method_92_7 rfl ?_
  show Fi p e below s Z _ _ _ _ T1 (mkF m 8 #[.val (.ref a), .val (.int (Int32.ofNat f)), .val (.int (Int32.ofNat (f + n))), .val (.int (Int32.ofNat cs.length)), .unset] [(.int (Int32.ofNat cs.length)), (.int (Int32.ofNat (f + n))), (.int (Int32.ofNat f))])
  refine W1.callS me hEL (hw _ (List.mem_of_getElem? (i := 103) rfl)) (hw _ (List.mem_of_getElem? (i := 104) rfl)) (hw _ (List.mem_of_getElem? (i := 11) rfl)) (hw _ (List.mem_of_getElem? (i := 105) rfl)) (argsL := [(.int (Int32.ofNat f)), (.int (Int32.ofNat (f + n))), (.int (Int32.ofNat cs.length))]) (rest := []) (c_sbe (ss := []) g W1.old ⟨on_nneg (by omega), on_nlt (by omega) (by omega), on_nlt hf (by omega)⟩) d_jdk_42_method_92_8 (by decide) (fun _ q => nomatch q) rfl (lenOf pd_16 rfl) (own_le rfl) (own_le rfl) (own_le rfl) (own_le rfl) rfl ?_
  intro T2 h2 v2 W2 z2 q2
  obtain ⟨rfl, rfl⟩ := q2
  show Fi p e below s Z _ _ _ _ T2 (mkF m 11 #[.val (.ref a), .val (.int (Int32.ofNat f)), .val (.int (Int32.ofNat (f + n))), .val (.int (Int32.ofNat cs.length)), .unset] [])
  refine W2.iloadN me d_jdk_42_method_92_11 rfl ?_
  show Fi p e below s Z _ _ _ _ T2 (mkF m 12 #[.val (.ref a), .val (.int (Int32.ofNat f)), .val (.int (Int32.ofNat (f + n))), .val (.int (Int32.ofNat cs.length)), .unset] [(.int (Int32.ofNat f))])
  refine W2.if_ne me d_jdk_42_method_92_12 (pc' := 22) (by decide) (by decide) (fun hb1 => ?_) (fun hb1 => ?_)
  ·
    show Fi p e below s Z _ _ _ _ T2 (mkF m 22 #[.val (.ref a), .val (.int (Int32.ofNat f)), .val (.int (Int32.ofNat (f + n))), .val (.int (Int32.ofNat cs.length)), .unset] [])
    refine W2.iloadN me d_jdk_42_method_92_22 rfl ?_
    refine W2.iloadN me d_jdk_42_method_92_23 rfl ?_
    show Fi p e below s Z _ _ _ _ T2 (mkF m 24 #[.val (.ref a), .val (.int (Int32.ofNat f)), .val (.int (Int32.ofNat (f + n))), .val (.int (Int32.ofNat cs.length)), .unset] [(.int (Int32.ofNat f)), (.int (Int32.ofNat (f + n)))])
    refine W2.isub me d_jdk_42_method_92_24 ?_
    have e1 : Int32.ofNat (f + n) - Int32.ofNat f = Int32.ofNat n := by rw [on_sub (by omega)]; congr 1; omega
    rw [e1]
    refine W2.istore me d_jdk_42_method_92_25 (l' := #[.val (.ref a), .val (.int (Int32.ofNat f)), .val (.int (Int32.ofNat (f + n))), .val (.int (Int32.ofNat cs.length)), .val (.int (Int32.ofNat n))]) rfl ?_
    refine W2.aloadN me d_jdk_42_method_92_27 rfl rfl ?_
    show Fi p e below s Z _ _ _ _ T2 (mkF m 28 #[.val (.ref a), .val (.int (Int32.ofNat f)), .val (.int (Int32.ofNat (f + n))), .val (.int (Int32.ofNat cs.length)), .val (.int (Int32.ofNat n))] [(.ref a)])
    refine W2.callV me hEL (hw _ (List.mem_of_getElem? (i := 44) rfl)) (hw _ (List.mem_of_getElem? (i := 45) rfl)) (fun hZ' => notFace_of_selects (args := #[]) (mvT (s := s.setVm _) hZ' (hw _ (List.mem_of_getElem? (i := 47) rfl)))) (hw _ (List.mem_of_getElem? (i := 47) rfl)) (hw _ (List.mem_of_getElem? (i := 46) rfl)) (hw _ (List.mem_of_getElem? (i := 11) rfl)) (hw _ (List.mem_of_getElem? (i := 48) rfl)) (a := a) (argsL := []) (rest := []) EX (c_islat (ss := []) g W2.old FC) d_jdk_42_method_92_28 (by decide) (fun _ q => nomatch q) rfl (lenOf pd_7 rfl) (own_le rfl) (own_le rfl) (own_le rfl) (own_le rfl) rfl ?_
    intro T3 h3 v3 W3 z3 q3
    obtain ⟨_, rfl, rfl, rfl⟩ := q3
    show Fi p e below s Z _ _ _ _ T3 (mkF m 31 #[.val (.ref a), .val (.int (Int32.ofNat f)), .val (.int (Int32.ofNat (f + n))), .val (.int (Int32.ofNat cs.length)), .val (.int (Int32.ofNat n))] [(.int (1 : Int32))])
    show Fi p e below s Z _ _ _ _ T3 (mkF m 31 #[.val (.ref a), .val (.int (Int32.ofNat f)), .val (.int (Int32.ofNat (f + n))), .val (.int (Int32.ofNat cs.length)), .val (.int (Int32.ofNat n))] [(.int (1 : Int32))])
    refine W3.ifN_eq me d_jdk_42_method_92_31 (by decide) ?_
    show Fi p e below s Z _ _ _ _ T3 (mkF m 34 #[.val (.ref a), .val (.int (Int32.ofNat f)), .val (.int (Int32.ofNat (f + n))), .val (.int (Int32.ofNat cs.length)), .val (.int (Int32.ofNat n))] [])
    refine W3.aloadN me d_jdk_42_method_92_34 rfl rfl ?_
    show Fi p e below s Z _ _ _ _ T3 (mkF m 35 #[.val (.ref a), .val (.int (Int32.ofNat f)), .val (.int (Int32.ofNat (f + n))), .val (.int (Int32.ofNat cs.length)), .val (.int (Int32.ofNat n))] [(.ref a)])
    refine W3.getF me (hw _ (List.mem_of_getElem? (i := 28) rfl)) FV Via.refl d_jdk_42_method_92_35 ?_
    intro T4 W4
    show Fi p e below s Z _ _ _ _ T4 (mkF m 38 #[.val (.ref a), .val (.int (Int32.ofNat f)), .val (.int (Int32.ofNat (f + n))), .val (.int (Int32.ofNat cs.length)), .val (.int (Int32.ofNat n))] [(.ref vb)])
    refine W4.iloadN me d_jdk_42_method_92_38 rfl ?_
    refine W4.iload me d_jdk_42_method_92_39 rfl ?_
    show Fi p e below s Z _ _ _ _ T4 (mkF m 41 #[.val (.ref a), .val (.int (Int32.ofNat f)), .val (.int (Int32.ofNat (f + n))), .val (.int (Int32.ofNat cs.length)), .val (.int (Int32.ofNat n))] [(.int (Int32.ofNat n)), (.int (Int32.ofNat f)), (.ref vb)])
    refine W4.callS me hEL (hw _ (List.mem_of_getElem? (i := 111) rfl)) (hw _ (List.mem_of_getElem? (i := 112) rfl)) (hw _ (List.mem_of_getElem? (i := 62) rfl)) (hw _ (List.mem_of_getElem? (i := 113) rfl)) (argsL := [(.ref vb), (.int (Int32.ofNat f)), (.int (Int32.ofNat n))]) (rest := []) (c_newstr (ss := []) g W4.old AB hl h8 hn hf (Or.inl (fun z => hb1 (by rw [z]; rfl)))) d_jdk_42_method_92_41 (by decide) (fun _ q => nomatch q) rfl (lenOf pd_17 rfl) (own_le rfl) (own_le rfl) (own_le rfl) (own_le rfl) rfl ?_
    intro T5 h5 v5 W5 z5 q5
    obtain ⟨_, rfl, E5, d5, rfl, M5⟩ := q5
    show Fi p e below s Z _ _ _ _ T5 (mkF m 44 #[.val (.ref a), .val (.int (Int32.ofNat f)), .val (.int (Int32.ofNat (f + n))), .val (.int (Int32.ofNat cs.length)), .val (.int (Int32.ofNat n))] [(.ref d5)])
    refine W5.goto me d_jdk_42_method_92_44 (pc' := 57) (by decide) (by decide) ?_
    show Fi p e below s Z _ _ _ _ T5 (mkF m 57 #[.val (.ref a), .val (.int (Int32.ofNat f)), .val (.int (Int32.ofNat (f + n))), .val (.int (Int32.ofNat cs.length)), .val (.int (Int32.ofNat n))] [(.ref d5)])
    exact W5.retA hEL me d_jdk_42_method_92_57 ⟨E5, d5, rfl, M5⟩ (by decide) (by decide) rfl rfl rfl
  ·
    show Fi p e below s Z _ _ _ _ T2 (mkF m 15 #[.val (.ref a), .val (.int (Int32.ofNat f)), .val (.int (Int32.ofNat (f + n))), .val (.int (Int32.ofNat cs.length)), .unset] [])
    refine W2.iloadN me d_jdk_42_method_92_15 rfl ?_
    refine W2.iloadN me d_jdk_42_method_92_16 rfl ?_
    show Fi p e below s Z _ _ _ _ T2 (mkF m 17 #[.val (.ref a), .val (.int (Int32.ofNat f)), .val (.int (Int32.ofNat (f + n))), .val (.int (Int32.ofNat cs.length)), .unset] [(.int (Int32.ofNat cs.length)), (.int (Int32.ofNat (f + n)))])
    have ef : f = 0 := (on_inj (by omega) (n := 0) (by omega)).mp hb1
    refine W2.ic_ne me d_jdk_42_method_92_17 (pc' := 22) (by decide) (by decide) (fun hb2 => ?_) (fun hb2 => ?_)
    ·
      show Fi p e below s Z _ _ _ _ T2 (mkF m 22 #[.val (.ref a), .val (.int (Int32.ofNat f)), .val (.int (Int32.ofNat (f + n))), .val (.int (Int32.ofNat cs.length)), .unset] [])
      refine W2.iloadN me d_jdk_42_method_92_22 rfl ?_
      refine W2.iloadN me d_jdk_42_method_92_23 rfl ?_
      show Fi p e below s Z _ _ _ _ T2 (mkF m 24 #[.val (.ref a), .val (.int (Int32.ofNat f)), .val (.int (Int32.ofNat (f + n))), .val (.int (Int32.ofNat cs.length)), .unset] [(.int (Int32.ofNat f)), (.int (Int32.ofNat (f + n)))])
      refine W2.isub me d_jdk_42_method_92_24 ?_
      have e1 : Int32.ofNat (f + n) - Int32.ofNat f = Int32.ofNat n := by rw [on_sub (by omega)]; congr 1; omega
      rw [e1]
      refine W2.istore me d_jdk_42_method_92_25 (l' := #[.val (.ref a), .val (.int (Int32.ofNat f)), .val (.int (Int32.ofNat (f + n))), .val (.int (Int32.ofNat cs.length)), .val (.int (Int32.ofNat n))]) rfl ?_
      refine W2.aloadN me d_jdk_42_method_92_27 rfl rfl ?_
      show Fi p e below s Z _ _ _ _ T2 (mkF m 28 #[.val (.ref a), .val (.int (Int32.ofNat f)), .val (.int (Int32.ofNat (f + n))), .val (.int (Int32.ofNat cs.length)), .val (.int (Int32.ofNat n))] [(.ref a)])
      refine W2.callV me hEL (hw _ (List.mem_of_getElem? (i := 44) rfl)) (hw _ (List.mem_of_getElem? (i := 45) rfl)) (fun hZ' => notFace_of_selects (args := #[]) (mvT (s := s.setVm _) hZ' (hw _ (List.mem_of_getElem? (i := 47) rfl)))) (hw _ (List.mem_of_getElem? (i := 47) rfl)) (hw _ (List.mem_of_getElem? (i := 46) rfl)) (hw _ (List.mem_of_getElem? (i := 11) rfl)) (hw _ (List.mem_of_getElem? (i := 48) rfl)) (a := a) (argsL := []) (rest := []) EX (c_islat (ss := []) g W2.old FC) d_jdk_42_method_92_28 (by decide) (fun _ q => nomatch q) rfl (lenOf pd_7 rfl) (own_le rfl) (own_le rfl) (own_le rfl) (own_le rfl) rfl ?_
      intro T6 h6 v6 W6 z6 q6
      obtain ⟨_, rfl, rfl, rfl⟩ := q6
      show Fi p e below s Z _ _ _ _ T6 (mkF m 31 #[.val (.ref a), .val (.int (Int32.ofNat f)), .val (.int (Int32.ofNat (f + n))), .val (.int (Int32.ofNat cs.length)), .val (.int (Int32.ofNat n))] [(.int (1 : Int32))])
      show Fi p e below s Z _ _ _ _ T6 (mkF m 31 #[.val (.ref a), .val (.int (Int32.ofNat f)), .val (.int (Int32.ofNat (f + n))), .val (.int (Int32.ofNat cs.length)), .val (.int (Int32.ofNat n))] [(.int (1 : Int32))])
      refine W6.ifN_eq me d_jdk_42_method_92_31 (by decide) ?_
      show Fi p e below s Z _ _ _ _ T6 (mkF m 34 #[.val (.ref a), .val (.int (Int32.ofNat f)), .val (.int (Int32.ofNat (f + n))), .val (.int (Int32.ofNat cs.length)), .val (.int (Int32.ofNat n))] [])
      refine W6.aloadN me d_jdk_42_method_92_34 rfl rfl ?_
      show Fi p e below s Z _ _ _ _ T6 (mkF m 35 #[.val (.ref a), .val (.int (Int32.ofNat f)), .val (.int (Int32.ofNat (f + n))), .val (.int (Int32.ofNat cs.length)), .val (.int (Int32.ofNat n))] [(.ref a)])
      refine W6.getF me (hw _ (List.mem_of_getElem? (i := 28) rfl)) FV Via.refl d_jdk_42_method_92_35 ?_
      intro T7 W7
      show Fi p e below s Z _ _ _ _ T7 (mkF m 38 #[.val (.ref a), .val (.int (Int32.ofNat f)), .val (.int (Int32.ofNat (f + n))), .val (.int (Int32.ofNat cs.length)), .val (.int (Int32.ofNat n))] [(.ref vb)])
      refine W7.iloadN me d_jdk_42_method_92_38 rfl ?_
      refine W7.iload me d_jdk_42_method_92_39 rfl ?_
      show Fi p e below s Z _ _ _ _ T7 (mkF m 41 #[.val (.ref a), .val (.int (Int32.ofNat f)), .val (.int (Int32.ofNat (f + n))), .val (.int (Int32.ofNat cs.length)), .val (.int (Int32.ofNat n))] [(.int (Int32.ofNat n)), (.int (Int32.ofNat f)), (.ref vb)])
      refine W7.callS me hEL (hw _ (List.mem_of_getElem? (i := 111) rfl)) (hw _ (List.mem_of_getElem? (i := 112) rfl)) (hw _ (List.mem_of_getElem? (i := 62) rfl)) (hw _ (List.mem_of_getElem? (i := 113) rfl)) (argsL := [(.ref vb), (.int (Int32.ofNat f)), (.int (Int32.ofNat n))]) (rest := []) (c_newstr (ss := []) g W7.old AB hl h8 hn hf (Or.inr (fun z => hb2 (by rw [z])))) d_jdk_42_method_92_41 (by decide) (fun _ q => nomatch q) rfl (lenOf pd_17 rfl) (own_le rfl) (own_le rfl) (own_le rfl) (own_le rfl) rfl ?_
      intro T8 h8 v8 W8 z8 q8
      obtain ⟨_, rfl, E8, d8, rfl, M8⟩ := q8
      show Fi p e below s Z _ _ _ _ T8 (mkF m 44 #[.val (.ref a), .val (.int (Int32.ofNat f)), .val (.int (Int32.ofNat (f + n))), .val (.int (Int32.ofNat cs.length)), .val (.int (Int32.ofNat n))] [(.ref d8)])
      refine W8.goto me d_jdk_42_method_92_44 (pc' := 57) (by decide) (by decide) ?_
      show Fi p e below s Z _ _ _ _ T8 (mkF m 57 #[.val (.ref a), .val (.int (Int32.ofNat f)), .val (.int (Int32.ofNat (f + n))), .val (.int (Int32.ofNat cs.length)), .val (.int (Int32.ofNat n))] [(.ref d8)])
      exact W8.retA hEL me d_jdk_42_method_92_57 ⟨E8, d8, rfl, M8⟩ (by decide) (by decide) rfl rfl rfl
    ·
      show Fi p e below s Z _ _ _ _ T2 (mkF m 20 #[.val (.ref a), .val (.int (Int32.ofNat f)), .val (.int (Int32.ofNat (f + n))), .val (.int (Int32.ofNat cs.length)), .unset] [])
      refine W2.aloadN me d_jdk_42_method_92_20 rfl rfl ?_
      show Fi p e below s Z _ _ _ _ T2 (mkF m 21 #[.val (.ref a), .val (.int (Int32.ofNat f)), .val (.int (Int32.ofNat (f + n))), .val (.int (Int32.ofNat cs.length)), .unset] [(.ref a)])
      have en : f + n = cs.length := (on_inj (by omega) (by omega)).mp hb2
      have en2 : n = cs.length := by omega
      exact W2.retA hEL me d_jdk_42_method_92_21 ⟨own_xr _, a, rfl, by rw [ef, en2, sub_all]; exact L'⟩ (by decide) (by decide) rfl rfl rfl

set_option maxRecDepth 65536 in
set_option maxHeartbeats 4000000 in
theorem c_substr1 {l : Launch} {Z : State} {a0 : Array Value} {kn : Bool} (g : Gl Z a0) {ws : List Cond} {h0 : Heap} {ss : List Addr} (hO : Old Z Z.heap.size h0) {a : Addr} {cs : List Int32} {f n : Nat} (L : Lat Z h0 a cs) (hn : n ≤ 8) (hf : f + n = cs.length) :
    Con l Z consts_1 kn ws (⟨"java/lang/String", "substring", "(I)Ljava/lang/String;"⟩ : MethodName) jdk_42_method_91_code 2 (some (.object "java/lang/String")) ({ frames := 5, cells := 2, slots := 12, locals := 80 } : Room) #[(.ref a), (.int (Int32.ofNat f))] h0 ss (rV fun v h => Ext h0 h ∧ ∃ d, v = .ref d ∧ Lat Z h d (sub cs f n)) := by
  have hw := g.1
  have hEL := g.2.1
  refine Con.of (plainFor_of_name pn_1) hO ?_
  intro p e s m below meth c T0 me W0
  refine Fi.entry (L := #[.val (.ref a), .val (.int (Int32.ofNat f))]) (by first | (simp [entryFrame, mkF, argsToLocals, Value.category, maxLocals]; done) | (simp [entryFrame, mkF, argsToLocals, Value.category]; done) | rfl) ?_
  have EX : Exa Z h0 a "java/lang/String" := by obtain ⟨_, _, q, _⟩ := L; exact q
  refine W0.aloadN me d_jdk_42_method_91_0 rfl rfl ?_
  refine W0.iloadN me d_jdk_42_method_91_1 rfl ?_
  refine W0.aloadN me d_jdk_42_method_91_2 rfl rfl ?_
  show Fi p e below s Z _ _ _ _ T0 (mkF m 3 #[.val (.ref a), .val (.int (Int32.ofNat f))] [(.ref a), (.int (Int32.ofNat f)), (.ref a)])
  refine W0.callV me hEL (hw _ (List.mem_of_getElem? (i := 50) rfl)) (hw _ (List.mem_of_getElem? (i := 51) rfl)) (fun hZ' => notFace_of_selects (args := #[]) (mvT (s := s.setVm _) hZ' (hw _ (List.mem_of_getElem? (i := 53) rfl)))) (hw _ (List.mem_of_getElem? (i := 53) rfl)) (hw _ (List.mem_of_getElem? (i := 52) rfl)) (hw _ (List.mem_of_getElem? (i := 11) rfl)) (hw _ (List.mem_of_getElem? (i := 54) rfl)) (a := a) (argsL := []) (rest := [(.int (Int32.ofNat f)), (.ref a)]) EX (c_length (ss := []) g W0.old L) d_jdk_42_method_91_3 (by decide) (fun _ q => nomatch q) rfl (lenOf pd_12 rfl) (own_le rfl) (own_le rfl) (own_le rfl) (own_le rfl) rfl ?_
  intro T1 h1 v1 W1 z1 q1
  obtain ⟨_, rfl, rfl, rfl⟩ := q1
  show Fi p e below s Z _ _ _ _ T1 (mkF m 6 #[.val (.ref a), .val (.int (Int32.ofNat f))] [(.int (Int32.ofNat cs.length)), (.int (Int32.ofNat f)), (.ref a)])
  have en : cs.length = f + n := hf.symm
  rw [en]
  refine W1.callV me hEL (hw _ (List.mem_of_getElem? (i := 98) rfl)) (hw _ (List.mem_of_getElem? (i := 99) rfl)) (fun hZ' => notFace_of_selects (args := #[]) (mvT (s := s.setVm _) hZ' (hw _ (List.mem_of_getElem? (i := 101) rfl)))) (hw _ (List.mem_of_getElem? (i := 101) rfl)) (hw _ (List.mem_of_getElem? (i := 100) rfl)) (hw _ (List.mem_of_getElem? (i := 11) rfl)) (hw _ (List.mem_of_getElem? (i := 102) rfl)) (a := a) (argsL := [(.int (Int32.ofNat f)), (.int (Int32.ofNat (f + n)))]) (rest := []) EX (c_substr2 (ss := []) g W1.old L hn (by omega)) d_jdk_42_method_91_6 (by decide) (fun _ q => nomatch q) rfl (lenOf pd_18 rfl) (own_le rfl) (own_le rfl) (own_le rfl) (own_le rfl) rfl ?_
  intro T2 h2 v2 W2 z2 q2
  obtain ⟨_, rfl, E2, d2, rfl, M2⟩ := q2
  show Fi p e below s Z _ _ _ _ T2 (mkF m 9 #[.val (.ref a), .val (.int (Int32.ofNat f))] [(.ref d2)])
  exact W2.retA hEL me d_jdk_42_method_91_9 ⟨E2, d2, rfl, M2⟩ (by decide) (by decide) rfl rfl rfl

set_option maxRecDepth 65536 in
set_option maxHeartbeats 4000000 in
theorem c_isempty {l : Launch} {Z : State} {a0 : Array Value} {kn : Bool} (g : Gl Z a0) {ws : List Cond} {h0 : Heap} {ss : List Addr} (hO : Old Z Z.heap.size h0) {a : Addr} (L : Lat Z h0 a []) :
    Con l Z consts_1 kn ws (⟨"java/lang/String", "isEmpty", "()Z"⟩ : MethodName) jdk_42_method_55_code 1 (some .boolean) ({ frames := 0, cells := 0, slots := 0, locals := 0 } : Room) #[(.ref a)] h0 ss (rV fun v h => h0 = h ∧ v = .int 1) := by
  have hw := g.1
  have hEL := g.2.1
  refine Con.of (plainFor_of_name pn_1) hO ?_
  intro p e s m below meth c T0 me W0
  refine Fi.entry (L := #[.val (.ref a)]) (by first | (simp [entryFrame, mkF, argsToLocals, Value.category, maxLocals]; done) | (simp [entryFrame, mkF, argsToLocals, Value.category]; done) | rfl) ?_
  obtain ⟨vb, kb, EX, FC, FV, AB, hl, h8⟩ := L
  refine W0.aloadN me d_jdk_42_method_55_0 rfl rfl ?_
  show Fi p e below s Z _ _ _ _ T0 (mkF m 1 #[.val (.ref a)] [(.ref a)])
  refine W0.getF me (hw _ (List.mem_of_getElem? (i := 28) rfl)) FV Via.refl d_jdk_42_method_55_1 ?_
  intro T1 W1
  show Fi p e below s Z _ _ _ _ T1 (mkF m 4 #[.val (.ref a)] [(.ref vb)])
  refine W1.alen me AB d_jdk_42_method_55_4 ?_
  show Fi p e below s Z _ _ _ _ T1 (mkF m 5 #[.val (.ref a)] [(.int (0 : Int32))])
  show Fi p e below s Z _ _ _ _ T1 (mkF m 5 #[.val (.ref a)] [(.int (0 : Int32))])
  refine W1.ifN_ne me d_jdk_42_method_55_5 (by decide) ?_
  show Fi p e below s Z _ _ _ _ T1 (mkF m 8 #[.val (.ref a)] [])
  refine W1.iconst me d_jdk_42_method_55_8 (v := 1) rfl ?_
  refine W1.goto me d_jdk_42_method_55_9 (pc' := 13) (by decide) (by decide) ?_
  show Fi p e below s Z _ _ _ _ T1 (mkF m 13 #[.val (.ref a)] [(.int (1 : Int32))])
  exact W1.retN hEL me (Or.inl rfl) d_jdk_42_method_55_13 ⟨rfl, rfl⟩ (by decide) (by decide)

set_option maxRecDepth 65536 in
set_option maxHeartbeats 4000000 in
theorem c_draw {l : Launch} {Z : State} {a0 : Array Value} {kn : Bool} (g : Gl Z a0) {ws : List Cond} {h0 : Heap} {ss : List Addr} (hO : Old Z Z.heap.size h0) {x : Int32} :
    Con l Z consts_1 kn ws (⟨"com/example/onum/onum/UrisFragmentPinLaw", "ch", "(I)C"⟩ : MethodName) method_2_code 1 (some .char) ({ frames := 0, cells := 0, slots := 0, locals := 0 } : Room) #[(.int x)] h0 ss (rV fun v h => h0 = h ∧ ∃ y, v = .int y ∧ ¬ y < 0 ∧ ¬ (255 : Int32) < y) := by
  have hw := g.1
  have hEL := g.2.1
  refine Con.of (plainFor_of_name pn_6) hO ?_
  intro p e s m below meth c T0 me W0
  refine Fi.entry (L := #[.val (.int x)]) (by first | (simp [entryFrame, mkF, argsToLocals, Value.category, maxLocals]; done) | (simp [entryFrame, mkF, argsToLocals, Value.category]; done) | rfl) ?_
  refine W0.iloadN me d_method_2_0 rfl ?_
  refine W0.sipush me d_method_2_1 (v := 256) rfl ?_
  refine W0.iand me d_method_2_4 ?_
  show Fi p e below s Z _ _ _ _ T0 (mkF m 5 #[.val (.int x)] [(.int (x &&& (256 : Int32)))])
  refine W0.if_eq me d_method_2_5 (pc' := 13) (by decide) (by decide) (fun h1 => ?_) (fun h1 => ?_)
  ·
    show Fi p e below s Z _ _ _ _ T0 (mkF m 13 #[.val (.int x)] [])
    refine W0.iloadN me d_method_2_13 rfl ?_
    refine W0.sipush me d_method_2_14 (v := 255) rfl ?_
    refine W0.iand me d_method_2_17 ?_
    refine W0.i2c me d_method_2_18 ?_
    show Fi p e below s Z _ _ _ _ T0 (mkF m 19 #[.val (.int x)] [(.int ((x &&& (255 : Int32)).toUInt32.toUInt16.toUInt32.toInt32))])
    have hq := c255 x
    exact W0.retN hEL me (Or.inr (Or.inr (Or.inl rfl))) d_method_2_19 ⟨rfl, _, rfl, by rw [nar_char_of (up16 hq)]; exact hq⟩ (by decide) (by decide)
  ·
    show Fi p e below s Z _ _ _ _ T0 (mkF m 8 #[.val (.int x)] [])
    refine W0.bipush me d_method_2_8 (v := 35) rfl ?_
    refine W0.goto me d_method_2_10 (pc' := 19) (by decide) (by decide) ?_
    show Fi p e below s Z _ _ _ _ T0 (mkF m 19 #[.val (.int x)] [(.int (35 : Int32))])
    exact W0.retN hEL me (Or.inr (Or.inr (Or.inl rfl))) d_method_2_19 ⟨rfl, _, rfl, by decide, by decide⟩ (by decide) (by decide)

set_option maxRecDepth 65536 in
set_option maxHeartbeats 4000000 in
theorem c_str0 {l : Launch} {Z : State} {a0 : Array Value} {kn : Bool} (g : Gl Z a0) {ws : List Cond} {h0 : Heap} {ss : List Addr} (hO : Old Z Z.heap.size h0) {c0 c1 c2 c3 : Int32} (q0 : ¬ c0 < 0 ∧ ¬ (255 : Int32) < c0) (q1 : ¬ c1 < 0 ∧ ¬ (255 : Int32) < c1) (q2 : ¬ c2 < 0 ∧ ¬ (255 : Int32) < c2) (q3 : ¬ c3 < 0 ∧ ¬ (255 : Int32) < c3) :
    Con l Z consts_1 kn ws (⟨"com/example/onum/onum/UrisFragmentPinLaw", "mk", "(ICCCC)Ljava/lang/String;"⟩ : MethodName) method_3_code 5 (some (.object "java/lang/String")) ({ frames := 4, cells := 6, slots := 12, locals := 66 } : Room) #[(.int (0 : Int32)), (.int c0), (.int c1), (.int c2), (.int c3)] h0 ss (rV fun v h => Ext h0 h ∧ ∃ a, v = .ref a ∧ Lat Z h a []) := by
  have hw := g.1
  have hEL := g.2.1
  refine Con.of (plainFor_of_name pn_6) hO ?_
  intro p e s m below meth c T0 me W0
  refine Fi.entry (L := #[.val (.int (0 : Int32)), .val (.int c0), .val (.int c1), .val (.int c2), .val (.int c3)]) (by first | (simp [entryFrame, mkF, argsToLocals, Value.category, maxLocals]; done) | (simp [entryFrame, mkF, argsToLocals, Value.category]; done) | rfl) ?_
  refine W0.iloadN me d_method_3_0 rfl ?_
  show Fi p e below s Z _ _ _ _ T0 (mkF m 1 #[.val (.int (0 : Int32)), .val (.int c0), .val (.int c1), .val (.int c2), .val (.int c3)] [(.int (0 : Int32))])
  refine W0.ifN_ne me d_method_3_1 (by decide) ?_
  show Fi p e below s Z _ _ _ _ T0 (mkF m 4 #[.val (.int (0 : Int32)), .val (.int c0), .val (.int c1), .val (.int c2), .val (.int c3)] [])
  show Fi p e below s Z _ _ _ _ T0 (mkF m 4 #[.val (.int (0 : Int32)), .val (.int c0), .val (.int c1), .val (.int c2), .val (.int c3)] [])
  refine W0.newO me (hw _ (List.mem_of_getElem? (i := 9) rfl)) (hw _ (List.mem_of_getElem? (i := 10) rfl)) (hw _ (List.mem_of_getElem? (i := 11) rfl)) d_method_3_4 (own_le rfl) (own_le rfl) ?_
  intro T1 h1 a1 g1 W1 E1 A1 D1 U1
  show Fi p e below s Z _ _ _ _ T1 (mkF m 7 #[.val (.int (0 : Int32)), .val (.int c0), .val (.int c1), .val (.int c2), .val (.int c3)] [(.ref a1)])
  refine W1.dup me d_method_3_7 rfl ?_
  refine W1.iconst me d_method_3_8 (v := 0) rfl ?_
  show Fi p e below s Z _ _ _ _ T1 (mkF m 9 #[.val (.int (0 : Int32)), .val (.int c0), .val (.int c1), .val (.int c2), .val (.int c3)] [(.int (0 : Int32)), (.ref a1), (.ref a1)])
  have hz1 : Z.heap.size ≤ a1 := by have := W0.old.2.1; omega
  refine W1.newA me (hw _ (List.mem_of_getElem? (i := 1) rfl)) d_method_3_9 (by decide) (cap := 0) (by decide) (own_le rfl) (own_le rfl) (own_le rfl) ?_
  intro T2 h2 a2 k2 g2 W2 E2 A2
  show Fi p e below s Z _ _ _ _ T2 (mkF m 11 #[.val (.int (0 : Int32)), .val (.int c0), .val (.int c1), .val (.int c2), .val (.int c3)] [(.ref a2), (.ref a1), (.ref a1)])
  have hz2 : Z.heap.size ≤ a2 := by have := W0.old.2.1; have := E1.1; omega
  show Fi p e below s Z _ _ _ _ T2 (mkF m 11 #[.val (.int (0 : Int32)), .val (.int c0), .val (.int c1), .val (.int c2), .val (.int c3)] [(.ref a2), (.ref a1), (.ref a1)])
  refine W2.callI me hEL (hw _ (List.mem_of_getElem? (i := 12) rfl)) (hw _ (List.mem_of_getElem? (i := 13) rfl)) (hw _ (List.mem_of_getElem? (i := 11) rfl)) (hw _ (List.mem_of_getElem? (i := 14) rfl)) rfl (a := a1) (argsL := [(.ref a2)]) (rest := [(.ref a1)]) (c_init3 g W2.old (cs := []) (A1.ext E2) ((D1 (Or.inr (hw _ (List.mem_of_getElem? (i := 24) rfl))) (ty := .array .byte) (by decide)).ext E2) ((D1 (Or.inr (hw _ (List.mem_of_getElem? (i := 25) rfl))) (ty := .byte) (by decide)).ext E2) A2 (List.mem_cons_of_mem _ (List.mem_cons_self ..)) hz1 C8.nil (own_le rfl)) d_method_3_11 (by decide) (fun _ q => q) rfl (lenOf pd_19 rfl) (own_le rfl) (own_le rfl) (own_le rfl) (own_le rfl) rfl ?_
  intro T3 h3 v3 W3 z3 q3
  obtain ⟨rfl, K3, L3⟩ := q3
  show Fi p e below s Z _ _ _ _ T3 (mkF m 14 #[.val (.int (0 : Int32)), .val (.int c0), .val (.int c1), .val (.int c2), .val (.int c3)] [(.ref a1)])
  have F3 := own_xk (own_xt E1 E2) K3 (allS (by omega) all0)
  exact W3.retA hEL me d_method_3_14 ⟨F3, a1, rfl, L3⟩ (by decide) (by decide) rfl rfl rfl

set_option maxRecDepth 65536 in
set_option maxHeartbeats 4000000 in
theorem c_str1 {l : Launch} {Z : State} {a0 : Array Value} {kn : Bool} (g : Gl Z a0) {ws : List Cond} {h0 : Heap} {ss : List Addr} (hO : Old Z Z.heap.size h0) {c0 c1 c2 c3 : Int32} (q0 : ¬ c0 < 0 ∧ ¬ (255 : Int32) < c0) (q1 : ¬ c1 < 0 ∧ ¬ (255 : Int32) < c1) (q2 : ¬ c2 < 0 ∧ ¬ (255 : Int32) < c2) (q3 : ¬ c3 < 0 ∧ ¬ (255 : Int32) < c3) :
    Con l Z consts_1 kn ws (⟨"com/example/onum/onum/UrisFragmentPinLaw", "mk", "(ICCCC)Ljava/lang/String;"⟩ : MethodName) method_3_code 5 (some (.object "java/lang/String")) ({ frames := 4, cells := 6, slots := 13, locals := 66 } : Room) #[(.int (1 : Int32)), (.int c0), (.int c1), (.int c2), (.int c3)] h0 ss (rV fun v h => Ext h0 h ∧ ∃ a, v = .ref a ∧ Lat Z h a [c0]) := by
  have hw := g.1
  have hEL := g.2.1
  refine Con.of (plainFor_of_name pn_6) hO ?_
  intro p e s m below meth c T0 me W0
  refine Fi.entry (L := #[.val (.int (1 : Int32)), .val (.int c0), .val (.int c1), .val (.int c2), .val (.int c3)]) (by first | (simp [entryFrame, mkF, argsToLocals, Value.category, maxLocals]; done) | (simp [entryFrame, mkF, argsToLocals, Value.category]; done) | rfl) ?_
  refine W0.iloadN me d_method_3_0 rfl ?_
  show Fi p e below s Z _ _ _ _ T0 (mkF m 1 #[.val (.int (1 : Int32)), .val (.int c0), .val (.int c1), .val (.int c2), .val (.int c3)] [(.int (1 : Int32))])
  refine W0.ifY_ne me d_method_3_1 (by decide) (pc' := 15) (by decide) (by decide) ?_
  show Fi p e below s Z _ _ _ _ T0 (mkF m 15 #[.val (.int (1 : Int32)), .val (.int c0), .val (.int c1), .val (.int c2), .val (.int c3)] [])
  refine W0.iloadN me d_method_3_15 rfl ?_
  refine W0.iconst me d_method_3_16 (v := 1) rfl ?_
  show Fi p e below s Z _ _ _ _ T0 (mkF m 17 #[.val (.int (1 : Int32)), .val (.int c0), .val (.int c1), .val (.int c2), .val (.int c3)] [(.int (1 : Int32)), (.int (1 : Int32))])
  refine W0.icN_ne me d_method_3_17 (by decide) ?_
  show Fi p e below s Z _ _ _ _ T0 (mkF m 20 #[.val (.int (1 : Int32)), .val (.int c0), .val (.int c1), .val (.int c2), .val (.int c3)] [])
  show Fi p e below s Z _ _ _ _ T0 (mkF m 20 #[.val (.int (1 : Int32)), .val (.int c0), .val (.int c1), .val (.int c2), .val (.int c3)] [])
  refine W0.newO me (hw _ (List.mem_of_getElem? (i := 9) rfl)) (hw _ (List.mem_of_getElem? (i := 10) rfl)) (hw _ (List.mem_of_getElem? (i := 11) rfl)) d_method_3_20 (own_le rfl) (own_le rfl) ?_
  intro T1 h1 a1 g1 W1 E1 A1 D1 U1
  show Fi p e below s Z _ _ _ _ T1 (mkF m 23 #[.val (.int (1 : Int32)), .val (.int c0), .val (.int c1), .val (.int c2), .val (.int c3)] [(.ref a1)])
  refine W1.dup me d_method_3_23 rfl ?_
  refine W1.iconst me d_method_3_24 (v := 1) rfl ?_
  show Fi p e below s Z _ _ _ _ T1 (mkF m 25 #[.val (.int (1 : Int32)), .val (.int c0), .val (.int c1), .val (.int c2), .val (.int c3)] [(.int (1 : Int32)), (.ref a1), (.ref a1)])
  have hz1 : Z.heap.size ≤ a1 := by have := W0.old.2.1; omega
  refine W1.newA me (hw _ (List.mem_of_getElem? (i := 1) rfl)) d_method_3_25 (by decide) (cap := 1) (by decide) (own_le rfl) (own_le rfl) (own_le rfl) ?_
  intro T2 h2 a2 k2 g2 W2 E2 A2
  show Fi p e below s Z _ _ _ _ T2 (mkF m 27 #[.val (.int (1 : Int32)), .val (.int c0), .val (.int c1), .val (.int c2), .val (.int c3)] [(.ref a2), (.ref a1), (.ref a1)])
  have hz2 : Z.heap.size ≤ a2 := by have := W0.old.2.1; have := E1.1; omega
  refine W2.dup me d_method_3_27 rfl ?_
  refine W2.iconst me d_method_3_28 (v := 0) rfl ?_
  refine W2.iloadN me d_method_3_29 rfl ?_
  show Fi p e below s Z _ _ _ _ T2 (mkF m 30 #[.val (.int (1 : Int32)), .val (.int c0), .val (.int c1), .val (.int c2), .val (.int c3)] [(.int c0), (.int (0 : Int32)), (.ref a2), (.ref a2), (.ref a1), (.ref a1)])
  refine W2.castoreP me A2 (up16 q0) d_method_3_30 (i := 0) rfl (by decide) (by decide) hz2 ?_
  intro T3 h3 W3 R3 A3
  show Fi p e below s Z _ _ _ _ T3 (mkF m 31 #[.val (.int (1 : Int32)), .val (.int c0), .val (.int c1), .val (.int c2), .val (.int c3)] [(.ref a2), (.ref a1), (.ref a1)])
  have E3 := own_xw E2 (by omega) R3
  show Fi p e below s Z _ _ _ _ T3 (mkF m 31 #[.val (.int (1 : Int32)), .val (.int c0), .val (.int c1), .val (.int c2), .val (.int c3)] [(.ref a2), (.ref a1), (.ref a1)])
  refine W3.callI me hEL (hw _ (List.mem_of_getElem? (i := 12) rfl)) (hw _ (List.mem_of_getElem? (i := 13) rfl)) (hw _ (List.mem_of_getElem? (i := 11) rfl)) (hw _ (List.mem_of_getElem? (i := 14) rfl)) rfl (a := a1) (argsL := [(.ref a2)]) (rest := [(.ref a1)]) (c_init3 g W3.old (cs := [c0]) (A1.ext E3) ((D1 (Or.inr (hw _ (List.mem_of_getElem? (i := 24) rfl))) (ty := .array .byte) (by decide)).ext E3) ((D1 (Or.inr (hw _ (List.mem_of_getElem? (i := 25) rfl))) (ty := .byte) (by decide)).ext E3) A3 (List.mem_cons_of_mem _ (List.mem_cons_self ..)) hz1 (C8.cons q0 C8.nil) (own_le rfl)) d_method_3_31 (by decide) (fun _ q => q) rfl (lenOf pd_19 rfl) (own_le rfl) (own_le rfl) (own_le rfl) (own_le rfl) rfl ?_
  intro T4 h4 v4 W4 z4 q4
  obtain ⟨rfl, K4, L4⟩ := q4
  show Fi p e below s Z _ _ _ _ T4 (mkF m 34 #[.val (.int (1 : Int32)), .val (.int c0), .val (.int c1), .val (.int c2), .val (.int c3)] [(.ref a1)])
  have F4 := own_xk (own_xt E1 E3) K4 (allS (by omega) all0)
  exact W4.retA hEL me d_method_3_34 ⟨F4, a1, rfl, L4⟩ (by decide) (by decide) rfl rfl rfl

set_option maxRecDepth 65536 in
set_option maxHeartbeats 4000000 in
theorem c_str2 {l : Launch} {Z : State} {a0 : Array Value} {kn : Bool} (g : Gl Z a0) {ws : List Cond} {h0 : Heap} {ss : List Addr} (hO : Old Z Z.heap.size h0) {c0 c1 c2 c3 : Int32} (q0 : ¬ c0 < 0 ∧ ¬ (255 : Int32) < c0) (q1 : ¬ c1 < 0 ∧ ¬ (255 : Int32) < c1) (q2 : ¬ c2 < 0 ∧ ¬ (255 : Int32) < c2) (q3 : ¬ c3 < 0 ∧ ¬ (255 : Int32) < c3) :
    Con l Z consts_1 kn ws (⟨"com/example/onum/onum/UrisFragmentPinLaw", "mk", "(ICCCC)Ljava/lang/String;"⟩ : MethodName) method_3_code 5 (some (.object "java/lang/String")) ({ frames := 4, cells := 6, slots := 14, locals := 66 } : Room) #[(.int (2 : Int32)), (.int c0), (.int c1), (.int c2), (.int c3)] h0 ss (rV fun v h => Ext h0 h ∧ ∃ a, v = .ref a ∧ Lat Z h a [c0, c1]) := by
  have hw := g.1
  have hEL := g.2.1
  refine Con.of (plainFor_of_name pn_6) hO ?_
  intro p e s m below meth c T0 me W0
  refine Fi.entry (L := #[.val (.int (2 : Int32)), .val (.int c0), .val (.int c1), .val (.int c2), .val (.int c3)]) (by first | (simp [entryFrame, mkF, argsToLocals, Value.category, maxLocals]; done) | (simp [entryFrame, mkF, argsToLocals, Value.category]; done) | rfl) ?_
  refine W0.iloadN me d_method_3_0 rfl ?_
  show Fi p e below s Z _ _ _ _ T0 (mkF m 1 #[.val (.int (2 : Int32)), .val (.int c0), .val (.int c1), .val (.int c2), .val (.int c3)] [(.int (2 : Int32))])
  refine W0.ifY_ne me d_method_3_1 (by decide) (pc' := 15) (by decide) (by decide) ?_
  show Fi p e below s Z _ _ _ _ T0 (mkF m 15 #[.val (.int (2 : Int32)), .val (.int c0), .val (.int c1), .val (.int c2), .val (.int c3)] [])
  refine W0.iloadN me d_method_3_15 rfl ?_
  refine W0.iconst me d_method_3_16 (v := 1) rfl ?_
  show Fi p e below s Z _ _ _ _ T0 (mkF m 17 #[.val (.int (2 : Int32)), .val (.int c0), .val (.int c1), .val (.int c2), .val (.int c3)] [(.int (1 : Int32)), (.int (2 : Int32))])
  refine W0.icY_ne me d_method_3_17 (by decide) (pc' := 35) (by decide) (by decide) ?_
  show Fi p e below s Z _ _ _ _ T0 (mkF m 35 #[.val (.int (2 : Int32)), .val (.int c0), .val (.int c1), .val (.int c2), .val (.int c3)] [])
  refine W0.iloadN me d_method_3_35 rfl ?_
  refine W0.iconst me d_method_3_36 (v := 2) rfl ?_
  show Fi p e below s Z _ _ _ _ T0 (mkF m 37 #[.val (.int (2 : Int32)), .val (.int c0), .val (.int c1), .val (.int c2), .val (.int c3)] [(.int (2 : Int32)), (.int (2 : Int32))])
  refine W0.icN_ne me d_method_3_37 (by decide) ?_
  show Fi p e below s Z _ _ _ _ T0 (mkF m 40 #[.val (.int (2 : Int32)), .val (.int c0), .val (.int c1), .val (.int c2), .val (.int c3)] [])
  show Fi p e below s Z _ _ _ _ T0 (mkF m 40 #[.val (.int (2 : Int32)), .val (.int c0), .val (.int c1), .val (.int c2), .val (.int c3)] [])
  refine W0.newO me (hw _ (List.mem_of_getElem? (i := 9) rfl)) (hw _ (List.mem_of_getElem? (i := 10) rfl)) (hw _ (List.mem_of_getElem? (i := 11) rfl)) d_method_3_40 (own_le rfl) (own_le rfl) ?_
  intro T1 h1 a1 g1 W1 E1 A1 D1 U1
  show Fi p e below s Z _ _ _ _ T1 (mkF m 43 #[.val (.int (2 : Int32)), .val (.int c0), .val (.int c1), .val (.int c2), .val (.int c3)] [(.ref a1)])
  refine W1.dup me d_method_3_43 rfl ?_
  refine W1.iconst me d_method_3_44 (v := 2) rfl ?_
  show Fi p e below s Z _ _ _ _ T1 (mkF m 45 #[.val (.int (2 : Int32)), .val (.int c0), .val (.int c1), .val (.int c2), .val (.int c3)] [(.int (2 : Int32)), (.ref a1), (.ref a1)])
  have hz1 : Z.heap.size ≤ a1 := by have := W0.old.2.1; omega
  refine W1.newA me (hw _ (List.mem_of_getElem? (i := 1) rfl)) d_method_3_45 (by decide) (cap := 2) (by decide) (own_le rfl) (own_le rfl) (own_le rfl) ?_
  intro T2 h2 a2 k2 g2 W2 E2 A2
  show Fi p e below s Z _ _ _ _ T2 (mkF m 47 #[.val (.int (2 : Int32)), .val (.int c0), .val (.int c1), .val (.int c2), .val (.int c3)] [(.ref a2), (.ref a1), (.ref a1)])
  have hz2 : Z.heap.size ≤ a2 := by have := W0.old.2.1; have := E1.1; omega
  refine W2.dup me d_method_3_47 rfl ?_
  refine W2.iconst me d_method_3_48 (v := 0) rfl ?_
  refine W2.iloadN me d_method_3_49 rfl ?_
  show Fi p e below s Z _ _ _ _ T2 (mkF m 50 #[.val (.int (2 : Int32)), .val (.int c0), .val (.int c1), .val (.int c2), .val (.int c3)] [(.int c0), (.int (0 : Int32)), (.ref a2), (.ref a2), (.ref a1), (.ref a1)])
  refine W2.castoreP me A2 (up16 q0) d_method_3_50 (i := 0) rfl (by decide) (by decide) hz2 ?_
  intro T3 h3 W3 R3 A3
  show Fi p e below s Z _ _ _ _ T3 (mkF m 51 #[.val (.int (2 : Int32)), .val (.int c0), .val (.int c1), .val (.int c2), .val (.int c3)] [(.ref a2), (.ref a1), (.ref a1)])
  have E3 := own_xw E2 (by omega) R3
  refine W3.dup me d_method_3_51 rfl ?_
  refine W3.iconst me d_method_3_52 (v := 1) rfl ?_
  refine W3.iloadN me d_method_3_53 rfl ?_
  show Fi p e below s Z _ _ _ _ T3 (mkF m 54 #[.val (.int (2 : Int32)), .val (.int c0), .val (.int c1), .val (.int c2), .val (.int c3)] [(.int c1), (.int (1 : Int32)), (.ref a2), (.ref a2), (.ref a1), (.ref a1)])
  refine W3.castoreP me A3 (up16 q1) d_method_3_54 (i := 1) rfl (by decide) (by decide) hz2 ?_
  intro T4 h4 W4 R4 A4
  show Fi p e below s Z _ _ _ _ T4 (mkF m 55 #[.val (.int (2 : Int32)), .val (.int c0), .val (.int c1), .val (.int c2), .val (.int c3)] [(.ref a2), (.ref a1), (.ref a1)])
  have E4 := own_xw E3 (by omega) R4
  show Fi p e below s Z _ _ _ _ T4 (mkF m 55 #[.val (.int (2 : Int32)), .val (.int c0), .val (.int c1), .val (.int c2), .val (.int c3)] [(.ref a2), (.ref a1), (.ref a1)])
  refine W4.callI me hEL (hw _ (List.mem_of_getElem? (i := 12) rfl)) (hw _ (List.mem_of_getElem? (i := 13) rfl)) (hw _ (List.mem_of_getElem? (i := 11) rfl)) (hw _ (List.mem_of_getElem? (i := 14) rfl)) rfl (a := a1) (argsL := [(.ref a2)]) (rest := [(.ref a1)]) (c_init3 g W4.old (cs := [c0, c1]) (A1.ext E4) ((D1 (Or.inr (hw _ (List.mem_of_getElem? (i := 24) rfl))) (ty := .array .byte) (by decide)).ext E4) ((D1 (Or.inr (hw _ (List.mem_of_getElem? (i := 25) rfl))) (ty := .byte) (by decide)).ext E4) A4 (List.mem_cons_of_mem _ (List.mem_cons_self ..)) hz1 (C8.cons q0 (C8.cons q1 C8.nil)) (own_le rfl)) d_method_3_55 (by decide) (fun _ q => q) rfl (lenOf pd_19 rfl) (own_le rfl) (own_le rfl) (own_le rfl) (own_le rfl) rfl ?_
  intro T5 h5 v5 W5 z5 q5
  obtain ⟨rfl, K5, L5⟩ := q5
  show Fi p e below s Z _ _ _ _ T5 (mkF m 58 #[.val (.int (2 : Int32)), .val (.int c0), .val (.int c1), .val (.int c2), .val (.int c3)] [(.ref a1)])
  have F5 := own_xk (own_xt E1 E4) K5 (allS (by omega) all0)
  exact W5.retA hEL me d_method_3_58 ⟨F5, a1, rfl, L5⟩ (by decide) (by decide) rfl rfl rfl

set_option maxRecDepth 65536 in
set_option maxHeartbeats 4000000 in
theorem c_str3 {l : Launch} {Z : State} {a0 : Array Value} {kn : Bool} (g : Gl Z a0) {ws : List Cond} {h0 : Heap} {ss : List Addr} (hO : Old Z Z.heap.size h0) {c0 c1 c2 c3 : Int32} (q0 : ¬ c0 < 0 ∧ ¬ (255 : Int32) < c0) (q1 : ¬ c1 < 0 ∧ ¬ (255 : Int32) < c1) (q2 : ¬ c2 < 0 ∧ ¬ (255 : Int32) < c2) (q3 : ¬ c3 < 0 ∧ ¬ (255 : Int32) < c3) :
    Con l Z consts_1 kn ws (⟨"com/example/onum/onum/UrisFragmentPinLaw", "mk", "(ICCCC)Ljava/lang/String;"⟩ : MethodName) method_3_code 5 (some (.object "java/lang/String")) ({ frames := 4, cells := 6, slots := 15, locals := 66 } : Room) #[(.int (3 : Int32)), (.int c0), (.int c1), (.int c2), (.int c3)] h0 ss (rV fun v h => Ext h0 h ∧ ∃ a, v = .ref a ∧ Lat Z h a [c0, c1, c2]) := by
  have hw := g.1
  have hEL := g.2.1
  refine Con.of (plainFor_of_name pn_6) hO ?_
  intro p e s m below meth c T0 me W0
  refine Fi.entry (L := #[.val (.int (3 : Int32)), .val (.int c0), .val (.int c1), .val (.int c2), .val (.int c3)]) (by first | (simp [entryFrame, mkF, argsToLocals, Value.category, maxLocals]; done) | (simp [entryFrame, mkF, argsToLocals, Value.category]; done) | rfl) ?_
  refine W0.iloadN me d_method_3_0 rfl ?_
  show Fi p e below s Z _ _ _ _ T0 (mkF m 1 #[.val (.int (3 : Int32)), .val (.int c0), .val (.int c1), .val (.int c2), .val (.int c3)] [(.int (3 : Int32))])
  refine W0.ifY_ne me d_method_3_1 (by decide) (pc' := 15) (by decide) (by decide) ?_
  show Fi p e below s Z _ _ _ _ T0 (mkF m 15 #[.val (.int (3 : Int32)), .val (.int c0), .val (.int c1), .val (.int c2), .val (.int c3)] [])
  refine W0.iloadN me d_method_3_15 rfl ?_
  refine W0.iconst me d_method_3_16 (v := 1) rfl ?_
  show Fi p e below s Z _ _ _ _ T0 (mkF m 17 #[.val (.int (3 : Int32)), .val (.int c0), .val (.int c1), .val (.int c2), .val (.int c3)] [(.int (1 : Int32)), (.int (3 : Int32))])
  refine W0.icY_ne me d_method_3_17 (by decide) (pc' := 35) (by decide) (by decide) ?_
  show Fi p e below s Z _ _ _ _ T0 (mkF m 35 #[.val (.int (3 : Int32)), .val (.int c0), .val (.int c1), .val (.int c2), .val (.int c3)] [])
  refine W0.iloadN me d_method_3_35 rfl ?_
  refine W0.iconst me d_method_3_36 (v := 2) rfl ?_
  show Fi p e below s Z _ _ _ _ T0 (mkF m 37 #[.val (.int (3 : Int32)), .val (.int c0), .val (.int c1), .val (.int c2), .val (.int c3)] [(.int (2 : Int32)), (.int (3 : Int32))])
  refine W0.icY_ne me d_method_3_37 (by decide) (pc' := 59) (by decide) (by decide) ?_
  show Fi p e below s Z _ _ _ _ T0 (mkF m 59 #[.val (.int (3 : Int32)), .val (.int c0), .val (.int c1), .val (.int c2), .val (.int c3)] [])
  refine W0.iloadN me d_method_3_59 rfl ?_
  refine W0.iconst me d_method_3_60 (v := 3) rfl ?_
  show Fi p e below s Z _ _ _ _ T0 (mkF m 61 #[.val (.int (3 : Int32)), .val (.int c0), .val (.int c1), .val (.int c2), .val (.int c3)] [(.int (3 : Int32)), (.int (3 : Int32))])
  refine W0.icN_ne me d_method_3_61 (by decide) ?_
  show Fi p e below s Z _ _ _ _ T0 (mkF m 64 #[.val (.int (3 : Int32)), .val (.int c0), .val (.int c1), .val (.int c2), .val (.int c3)] [])
  show Fi p e below s Z _ _ _ _ T0 (mkF m 64 #[.val (.int (3 : Int32)), .val (.int c0), .val (.int c1), .val (.int c2), .val (.int c3)] [])
  refine W0.newO me (hw _ (List.mem_of_getElem? (i := 9) rfl)) (hw _ (List.mem_of_getElem? (i := 10) rfl)) (hw _ (List.mem_of_getElem? (i := 11) rfl)) d_method_3_64 (own_le rfl) (own_le rfl) ?_
  intro T1 h1 a1 g1 W1 E1 A1 D1 U1
  show Fi p e below s Z _ _ _ _ T1 (mkF m 67 #[.val (.int (3 : Int32)), .val (.int c0), .val (.int c1), .val (.int c2), .val (.int c3)] [(.ref a1)])
  refine W1.dup me d_method_3_67 rfl ?_
  refine W1.iconst me d_method_3_68 (v := 3) rfl ?_
  show Fi p e below s Z _ _ _ _ T1 (mkF m 69 #[.val (.int (3 : Int32)), .val (.int c0), .val (.int c1), .val (.int c2), .val (.int c3)] [(.int (3 : Int32)), (.ref a1), (.ref a1)])
  have hz1 : Z.heap.size ≤ a1 := by have := W0.old.2.1; omega
  refine W1.newA me (hw _ (List.mem_of_getElem? (i := 1) rfl)) d_method_3_69 (by decide) (cap := 3) (by decide) (own_le rfl) (own_le rfl) (own_le rfl) ?_
  intro T2 h2 a2 k2 g2 W2 E2 A2
  show Fi p e below s Z _ _ _ _ T2 (mkF m 71 #[.val (.int (3 : Int32)), .val (.int c0), .val (.int c1), .val (.int c2), .val (.int c3)] [(.ref a2), (.ref a1), (.ref a1)])
  have hz2 : Z.heap.size ≤ a2 := by have := W0.old.2.1; have := E1.1; omega
  refine W2.dup me d_method_3_71 rfl ?_
  refine W2.iconst me d_method_3_72 (v := 0) rfl ?_
  refine W2.iloadN me d_method_3_73 rfl ?_
  show Fi p e below s Z _ _ _ _ T2 (mkF m 74 #[.val (.int (3 : Int32)), .val (.int c0), .val (.int c1), .val (.int c2), .val (.int c3)] [(.int c0), (.int (0 : Int32)), (.ref a2), (.ref a2), (.ref a1), (.ref a1)])
  refine W2.castoreP me A2 (up16 q0) d_method_3_74 (i := 0) rfl (by decide) (by decide) hz2 ?_
  intro T3 h3 W3 R3 A3
  show Fi p e below s Z _ _ _ _ T3 (mkF m 75 #[.val (.int (3 : Int32)), .val (.int c0), .val (.int c1), .val (.int c2), .val (.int c3)] [(.ref a2), (.ref a1), (.ref a1)])
  have E3 := own_xw E2 (by omega) R3
  refine W3.dup me d_method_3_75 rfl ?_
  refine W3.iconst me d_method_3_76 (v := 1) rfl ?_
  refine W3.iloadN me d_method_3_77 rfl ?_
  show Fi p e below s Z _ _ _ _ T3 (mkF m 78 #[.val (.int (3 : Int32)), .val (.int c0), .val (.int c1), .val (.int c2), .val (.int c3)] [(.int c1), (.int (1 : Int32)), (.ref a2), (.ref a2), (.ref a1), (.ref a1)])
  refine W3.castoreP me A3 (up16 q1) d_method_3_78 (i := 1) rfl (by decide) (by decide) hz2 ?_
  intro T4 h4 W4 R4 A4
  show Fi p e below s Z _ _ _ _ T4 (mkF m 79 #[.val (.int (3 : Int32)), .val (.int c0), .val (.int c1), .val (.int c2), .val (.int c3)] [(.ref a2), (.ref a1), (.ref a1)])
  have E4 := own_xw E3 (by omega) R4
  refine W4.dup me d_method_3_79 rfl ?_
  refine W4.iconst me d_method_3_80 (v := 2) rfl ?_
  refine W4.iloadN me d_method_3_81 rfl ?_
  show Fi p e below s Z _ _ _ _ T4 (mkF m 82 #[.val (.int (3 : Int32)), .val (.int c0), .val (.int c1), .val (.int c2), .val (.int c3)] [(.int c2), (.int (2 : Int32)), (.ref a2), (.ref a2), (.ref a1), (.ref a1)])
  refine W4.castoreP me A4 (up16 q2) d_method_3_82 (i := 2) rfl (by decide) (by decide) hz2 ?_
  intro T5 h5 W5 R5 A5
  show Fi p e below s Z _ _ _ _ T5 (mkF m 83 #[.val (.int (3 : Int32)), .val (.int c0), .val (.int c1), .val (.int c2), .val (.int c3)] [(.ref a2), (.ref a1), (.ref a1)])
  have E5 := own_xw E4 (by omega) R5
  show Fi p e below s Z _ _ _ _ T5 (mkF m 83 #[.val (.int (3 : Int32)), .val (.int c0), .val (.int c1), .val (.int c2), .val (.int c3)] [(.ref a2), (.ref a1), (.ref a1)])
  refine W5.callI me hEL (hw _ (List.mem_of_getElem? (i := 12) rfl)) (hw _ (List.mem_of_getElem? (i := 13) rfl)) (hw _ (List.mem_of_getElem? (i := 11) rfl)) (hw _ (List.mem_of_getElem? (i := 14) rfl)) rfl (a := a1) (argsL := [(.ref a2)]) (rest := [(.ref a1)]) (c_init3 g W5.old (cs := [c0, c1, c2]) (A1.ext E5) ((D1 (Or.inr (hw _ (List.mem_of_getElem? (i := 24) rfl))) (ty := .array .byte) (by decide)).ext E5) ((D1 (Or.inr (hw _ (List.mem_of_getElem? (i := 25) rfl))) (ty := .byte) (by decide)).ext E5) A5 (List.mem_cons_of_mem _ (List.mem_cons_self ..)) hz1 (C8.cons q0 (C8.cons q1 (C8.cons q2 C8.nil))) (own_le rfl)) d_method_3_83 (by decide) (fun _ q => q) rfl (lenOf pd_19 rfl) (own_le rfl) (own_le rfl) (own_le rfl) (own_le rfl) rfl ?_
  intro T6 h6 v6 W6 z6 q6
  obtain ⟨rfl, K6, L6⟩ := q6
  show Fi p e below s Z _ _ _ _ T6 (mkF m 86 #[.val (.int (3 : Int32)), .val (.int c0), .val (.int c1), .val (.int c2), .val (.int c3)] [(.ref a1)])
  have F6 := own_xk (own_xt E1 E5) K6 (allS (by omega) all0)
  exact W6.retA hEL me d_method_3_86 ⟨F6, a1, rfl, L6⟩ (by decide) (by decide) rfl rfl rfl

set_option maxRecDepth 65536 in
set_option maxHeartbeats 4000000 in
theorem c_str4 {l : Launch} {Z : State} {a0 : Array Value} {kn : Bool} (g : Gl Z a0) {ws : List Cond} {h0 : Heap} {ss : List Addr} (hO : Old Z Z.heap.size h0) {c0 c1 c2 c3 : Int32} (q0 : ¬ c0 < 0 ∧ ¬ (255 : Int32) < c0) (q1 : ¬ c1 < 0 ∧ ¬ (255 : Int32) < c1) (q2 : ¬ c2 < 0 ∧ ¬ (255 : Int32) < c2) (q3 : ¬ c3 < 0 ∧ ¬ (255 : Int32) < c3) :
    Con l Z consts_1 kn ws (⟨"com/example/onum/onum/UrisFragmentPinLaw", "mk", "(ICCCC)Ljava/lang/String;"⟩ : MethodName) method_3_code 5 (some (.object "java/lang/String")) ({ frames := 4, cells := 6, slots := 16, locals := 66 } : Room) #[(.int (4 : Int32)), (.int c0), (.int c1), (.int c2), (.int c3)] h0 ss (rV fun v h => Ext h0 h ∧ ∃ a, v = .ref a ∧ Lat Z h a [c0, c1, c2, c3]) := by
  have hw := g.1
  have hEL := g.2.1
  refine Con.of (plainFor_of_name pn_6) hO ?_
  intro p e s m below meth c T0 me W0
  refine Fi.entry (L := #[.val (.int (4 : Int32)), .val (.int c0), .val (.int c1), .val (.int c2), .val (.int c3)]) (by first | (simp [entryFrame, mkF, argsToLocals, Value.category, maxLocals]; done) | (simp [entryFrame, mkF, argsToLocals, Value.category]; done) | rfl) ?_
  refine W0.iloadN me d_method_3_0 rfl ?_
  show Fi p e below s Z _ _ _ _ T0 (mkF m 1 #[.val (.int (4 : Int32)), .val (.int c0), .val (.int c1), .val (.int c2), .val (.int c3)] [(.int (4 : Int32))])
  refine W0.ifY_ne me d_method_3_1 (by decide) (pc' := 15) (by decide) (by decide) ?_
  show Fi p e below s Z _ _ _ _ T0 (mkF m 15 #[.val (.int (4 : Int32)), .val (.int c0), .val (.int c1), .val (.int c2), .val (.int c3)] [])
  refine W0.iloadN me d_method_3_15 rfl ?_
  refine W0.iconst me d_method_3_16 (v := 1) rfl ?_
  show Fi p e below s Z _ _ _ _ T0 (mkF m 17 #[.val (.int (4 : Int32)), .val (.int c0), .val (.int c1), .val (.int c2), .val (.int c3)] [(.int (1 : Int32)), (.int (4 : Int32))])
  refine W0.icY_ne me d_method_3_17 (by decide) (pc' := 35) (by decide) (by decide) ?_
  show Fi p e below s Z _ _ _ _ T0 (mkF m 35 #[.val (.int (4 : Int32)), .val (.int c0), .val (.int c1), .val (.int c2), .val (.int c3)] [])
  refine W0.iloadN me d_method_3_35 rfl ?_
  refine W0.iconst me d_method_3_36 (v := 2) rfl ?_
  show Fi p e below s Z _ _ _ _ T0 (mkF m 37 #[.val (.int (4 : Int32)), .val (.int c0), .val (.int c1), .val (.int c2), .val (.int c3)] [(.int (2 : Int32)), (.int (4 : Int32))])
  refine W0.icY_ne me d_method_3_37 (by decide) (pc' := 59) (by decide) (by decide) ?_
  show Fi p e below s Z _ _ _ _ T0 (mkF m 59 #[.val (.int (4 : Int32)), .val (.int c0), .val (.int c1), .val (.int c2), .val (.int c3)] [])
  refine W0.iloadN me d_method_3_59 rfl ?_
  refine W0.iconst me d_method_3_60 (v := 3) rfl ?_
  show Fi p e below s Z _ _ _ _ T0 (mkF m 61 #[.val (.int (4 : Int32)), .val (.int c0), .val (.int c1), .val (.int c2), .val (.int c3)] [(.int (3 : Int32)), (.int (4 : Int32))])
  refine W0.icY_ne me d_method_3_61 (by decide) (pc' := 87) (by decide) (by decide) ?_
  show Fi p e below s Z _ _ _ _ T0 (mkF m 87 #[.val (.int (4 : Int32)), .val (.int c0), .val (.int c1), .val (.int c2), .val (.int c3)] [])
  show Fi p e below s Z _ _ _ _ T0 (mkF m 87 #[.val (.int (4 : Int32)), .val (.int c0), .val (.int c1), .val (.int c2), .val (.int c3)] [])
  refine W0.newO me (hw _ (List.mem_of_getElem? (i := 9) rfl)) (hw _ (List.mem_of_getElem? (i := 10) rfl)) (hw _ (List.mem_of_getElem? (i := 11) rfl)) d_method_3_87 (own_le rfl) (own_le rfl) ?_
  intro T1 h1 a1 g1 W1 E1 A1 D1 U1
  show Fi p e below s Z _ _ _ _ T1 (mkF m 90 #[.val (.int (4 : Int32)), .val (.int c0), .val (.int c1), .val (.int c2), .val (.int c3)] [(.ref a1)])
  refine W1.dup me d_method_3_90 rfl ?_
  refine W1.iconst me d_method_3_91 (v := 4) rfl ?_
  show Fi p e below s Z _ _ _ _ T1 (mkF m 92 #[.val (.int (4 : Int32)), .val (.int c0), .val (.int c1), .val (.int c2), .val (.int c3)] [(.int (4 : Int32)), (.ref a1), (.ref a1)])
  have hz1 : Z.heap.size ≤ a1 := by have := W0.old.2.1; omega
  refine W1.newA me (hw _ (List.mem_of_getElem? (i := 1) rfl)) d_method_3_92 (by decide) (cap := 4) (by decide) (own_le rfl) (own_le rfl) (own_le rfl) ?_
  intro T2 h2 a2 k2 g2 W2 E2 A2
  show Fi p e below s Z _ _ _ _ T2 (mkF m 94 #[.val (.int (4 : Int32)), .val (.int c0), .val (.int c1), .val (.int c2), .val (.int c3)] [(.ref a2), (.ref a1), (.ref a1)])
  have hz2 : Z.heap.size ≤ a2 := by have := W0.old.2.1; have := E1.1; omega
  refine W2.dup me d_method_3_94 rfl ?_
  refine W2.iconst me d_method_3_95 (v := 0) rfl ?_
  refine W2.iloadN me d_method_3_96 rfl ?_
  show Fi p e below s Z _ _ _ _ T2 (mkF m 97 #[.val (.int (4 : Int32)), .val (.int c0), .val (.int c1), .val (.int c2), .val (.int c3)] [(.int c0), (.int (0 : Int32)), (.ref a2), (.ref a2), (.ref a1), (.ref a1)])
  refine W2.castoreP me A2 (up16 q0) d_method_3_97 (i := 0) rfl (by decide) (by decide) hz2 ?_
  intro T3 h3 W3 R3 A3
  show Fi p e below s Z _ _ _ _ T3 (mkF m 98 #[.val (.int (4 : Int32)), .val (.int c0), .val (.int c1), .val (.int c2), .val (.int c3)] [(.ref a2), (.ref a1), (.ref a1)])
  have E3 := own_xw E2 (by omega) R3
  refine W3.dup me d_method_3_98 rfl ?_
  refine W3.iconst me d_method_3_99 (v := 1) rfl ?_
  refine W3.iloadN me d_method_3_100 rfl ?_
  show Fi p e below s Z _ _ _ _ T3 (mkF m 101 #[.val (.int (4 : Int32)), .val (.int c0), .val (.int c1), .val (.int c2), .val (.int c3)] [(.int c1), (.int (1 : Int32)), (.ref a2), (.ref a2), (.ref a1), (.ref a1)])
  refine W3.castoreP me A3 (up16 q1) d_method_3_101 (i := 1) rfl (by decide) (by decide) hz2 ?_
  intro T4 h4 W4 R4 A4
  show Fi p e below s Z _ _ _ _ T4 (mkF m 102 #[.val (.int (4 : Int32)), .val (.int c0), .val (.int c1), .val (.int c2), .val (.int c3)] [(.ref a2), (.ref a1), (.ref a1)])
  have E4 := own_xw E3 (by omega) R4
  refine W4.dup me d_method_3_102 rfl ?_
  refine W4.iconst me d_method_3_103 (v := 2) rfl ?_
  refine W4.iloadN me d_method_3_104 rfl ?_
  show Fi p e below s Z _ _ _ _ T4 (mkF m 105 #[.val (.int (4 : Int32)), .val (.int c0), .val (.int c1), .val (.int c2), .val (.int c3)] [(.int c2), (.int (2 : Int32)), (.ref a2), (.ref a2), (.ref a1), (.ref a1)])
  refine W4.castoreP me A4 (up16 q2) d_method_3_105 (i := 2) rfl (by decide) (by decide) hz2 ?_
  intro T5 h5 W5 R5 A5
  show Fi p e below s Z _ _ _ _ T5 (mkF m 106 #[.val (.int (4 : Int32)), .val (.int c0), .val (.int c1), .val (.int c2), .val (.int c3)] [(.ref a2), (.ref a1), (.ref a1)])
  have E5 := own_xw E4 (by omega) R5
  refine W5.dup me d_method_3_106 rfl ?_
  refine W5.iconst me d_method_3_107 (v := 3) rfl ?_
  refine W5.iload me d_method_3_108 rfl ?_
  show Fi p e below s Z _ _ _ _ T5 (mkF m 110 #[.val (.int (4 : Int32)), .val (.int c0), .val (.int c1), .val (.int c2), .val (.int c3)] [(.int c3), (.int (3 : Int32)), (.ref a2), (.ref a2), (.ref a1), (.ref a1)])
  refine W5.castoreP me A5 (up16 q3) d_method_3_110 (i := 3) rfl (by decide) (by decide) hz2 ?_
  intro T6 h6 W6 R6 A6
  show Fi p e below s Z _ _ _ _ T6 (mkF m 111 #[.val (.int (4 : Int32)), .val (.int c0), .val (.int c1), .val (.int c2), .val (.int c3)] [(.ref a2), (.ref a1), (.ref a1)])
  have E6 := own_xw E5 (by omega) R6
  show Fi p e below s Z _ _ _ _ T6 (mkF m 111 #[.val (.int (4 : Int32)), .val (.int c0), .val (.int c1), .val (.int c2), .val (.int c3)] [(.ref a2), (.ref a1), (.ref a1)])
  refine W6.callI me hEL (hw _ (List.mem_of_getElem? (i := 12) rfl)) (hw _ (List.mem_of_getElem? (i := 13) rfl)) (hw _ (List.mem_of_getElem? (i := 11) rfl)) (hw _ (List.mem_of_getElem? (i := 14) rfl)) rfl (a := a1) (argsL := [(.ref a2)]) (rest := [(.ref a1)]) (c_init3 g W6.old (cs := [c0, c1, c2, c3]) (A1.ext E6) ((D1 (Or.inr (hw _ (List.mem_of_getElem? (i := 24) rfl))) (ty := .array .byte) (by decide)).ext E6) ((D1 (Or.inr (hw _ (List.mem_of_getElem? (i := 25) rfl))) (ty := .byte) (by decide)).ext E6) A6 (List.mem_cons_of_mem _ (List.mem_cons_self ..)) hz1 (C8.cons q0 (C8.cons q1 (C8.cons q2 (C8.cons q3 C8.nil)))) (own_le rfl)) d_method_3_111 (by decide) (fun _ q => q) rfl (lenOf pd_19 rfl) (own_le rfl) (own_le rfl) (own_le rfl) (own_le rfl) rfl ?_
  intro T7 h7 v7 W7 z7 q7
  obtain ⟨rfl, K7, L7⟩ := q7
  show Fi p e below s Z _ _ _ _ T7 (mkF m 114 #[.val (.int (4 : Int32)), .val (.int c0), .val (.int c1), .val (.int c2), .val (.int c3)] [(.ref a1)])
  have F7 := own_xk (own_xt E1 E6) K7 (allS (by omega) all0)
  exact W7.retA hEL me d_method_3_114 ⟨F7, a1, rfl, L7⟩ (by decide) (by decide) rfl rfl rfl

set_option maxRecDepth 65536 in
set_option maxHeartbeats 4000000 in
theorem c_fr0 {l : Launch} {Z : State} {a0 : Array Value} {kn : Bool} (g : Gl Z a0) {ws : List Cond} {h0 : Heap} {ss : List Addr} (hO : Old Z Z.heap.size h0) {a : Addr} {cs : List Int32} (L : Lat Z h0 a cs) (hq : ∀ j, j < cs.length → cs.getD j 0 ≠ 35) :
    Con l Z consts_1 kn ws (⟨"com/example/onum/onum/Uris", "fragment", "(Ljava/lang/String;)Ljava/lang/String;"⟩ : MethodName) prog_5_method_4_code 2 (some (.object "java/lang/String")) ({ frames := 4, cells := 2, slots := 4, locals := 59 } : Room) #[(.ref a)] h0 ss (rV fun v h => Ext h0 h ∧ ∃ d, v = .ref d ∧ Lat Z h d []) := by
  have hw := g.1
  have hEL := g.2.1
  refine Con.of (plainFor_of_name pn_7) hO ?_
  intro p e s m below meth c T0 me W0
  refine Fi.entry (L := #[.val (.ref a), .unset]) (by first | (simp [entryFrame, mkF, argsToLocals, Value.category, maxLocals]; done) | (simp [entryFrame, mkF, argsToLocals, Value.category]; done) | rfl) ?_
  refine W0.aloadN me d_prog_5_method_4_0 rfl rfl ?_
  refine W0.bipush me d_prog_5_method_4_1 (v := 35) rfl ?_
  show Fi p e below s Z _ _ _ _ T0 (mkF m 3 #[.val (.ref a), .unset] [(.int (35 : Int32)), (.ref a)])
  refine W0.callV me hEL (hw _ (List.mem_of_getElem? (i := 34) rfl)) (hw _ (List.mem_of_getElem? (i := 35) rfl)) (fun hZ' => notFace_of_selects (args := #[]) (mvT (s := s.setVm _) hZ' (hw _ (List.mem_of_getElem? (i := 37) rfl)))) (hw _ (List.mem_of_getElem? (i := 37) rfl)) (hw _ (List.mem_of_getElem? (i := 36) rfl)) (hw _ (List.mem_of_getElem? (i := 11) rfl)) (hw _ (List.mem_of_getElem? (i := 38) rfl)) (a := a) (argsL := [(.int (35 : Int32))]) (rest := []) L.exa (c_idx1 (ss := []) g W0.old L (by decide)) d_prog_5_method_4_3 (by decide) (fun _ q => nomatch q) rfl (lenOf pd_20 rfl) (own_le rfl) (own_le rfl) (own_le rfl) (own_le rfl) rfl ?_
  intro T1 h1 v1 W1 z1 q1
  obtain ⟨_, rfl, rfl, rfl⟩ := q1
  show Fi p e below s Z _ _ _ _ T1 (mkF m 6 #[.val (.ref a), .unset] [(.int (ixF (35 : Int32) cs))])
  rw [ixF_none hq]
  refine W1.istoreN me d_prog_5_method_4_6 (l' := #[.val (.ref a), .val (.int (-1 : Int32))]) rfl ?_
  refine W1.iloadN me d_prog_5_method_4_7 rfl ?_
  show Fi p e below s Z _ _ _ _ T1 (mkF m 8 #[.val (.ref a), .val (.int (-1 : Int32))] [(.int (-1 : Int32))])
  refine W1.ifN_ge me d_prog_5_method_4_8 (by decide) ?_
  show Fi p e below s Z _ _ _ _ T1 (mkF m 11 #[.val (.ref a), .val (.int (-1 : Int32))] [])
  show Fi p e below s Z _ _ _ _ T1 (mkF m 11 #[.val (.ref a), .val (.int (-1 : Int32))] [])
  refine W1.ldcS me hEL (List.mem_of_getElem? (i := 0) rfl) (hw _ (List.mem_of_getElem? (i := 74) rfl)) (stratoms g) (vs := []) (z := 0) ⟨by decide, by decide⟩ (by decide) (by decide) d_prog_5_method_4_11 (n := 0) (by decide) (by decide) (by decide) (by decide) ?_
  intro T2 h2 a2 b2 k2 W2 E2 A2 C2 V2 B2 N2
  show Fi p e below s Z _ _ _ _ T2 (mkF m 13 #[.val (.ref a), .val (.int (-1 : Int32))] [(.ref a2)])
  refine W2.goto me d_prog_5_method_4_13 (pc' := 23) (by decide) (by decide) ?_
  show Fi p e below s Z _ _ _ _ T2 (mkF m 23 #[.val (.ref a), .val (.int (-1 : Int32))] [(.ref a2)])
  exact W2.retA hEL me d_prog_5_method_4_23 ⟨E2, a2, rfl, b2, k2, A2, C2, V2, B2, by decide, C8.nil⟩ (by decide) (by decide) rfl rfl rfl

set_option maxRecDepth 65536 in
set_option maxHeartbeats 4000000 in
theorem c_fr1 {l : Launch} {Z : State} {a0 : Array Value} {kn : Bool} (g : Gl Z a0) {ws : List Cond} {h0 : Heap} {ss : List Addr} (hO : Old Z Z.heap.size h0) {a : Addr} {cs : List Int32} (L : Lat Z h0 a cs) (i n : Nat) (hi : i < cs.length) (he : cs.getD i 0 = 35) (hq : ∀ j, j < i → cs.getD j 0 ≠ 35) (hn : n ≤ 8) (hln : i + 1 + n = cs.length) :
    Con l Z consts_1 kn ws (⟨"com/example/onum/onum/Uris", "fragment", "(Ljava/lang/String;)Ljava/lang/String;"⟩ : MethodName) prog_5_method_4_code 2 (some (.object "java/lang/String")) ({ frames := 6, cells := 2, slots := 12, locals := 93 } : Room) #[(.ref a)] h0 ss (rV fun v h => Ext h0 h ∧ ∃ d, v = .ref d ∧ Lat Z h d (sub cs (i + 1) n)) := by
  have hw := g.1
  have hEL := g.2.1
  refine Con.of (plainFor_of_name pn_7) hO ?_
  intro p e s m below meth c T0 me W0
  refine Fi.entry (L := #[.val (.ref a), .unset]) (by first | (simp [entryFrame, mkF, argsToLocals, Value.category, maxLocals]; done) | (simp [entryFrame, mkF, argsToLocals, Value.category]; done) | rfl) ?_
  have hl20 : cs.length < 2 ^ 20 := by obtain ⟨_, _, _, _, _, _, q, _⟩ := L; exact q
  refine W0.aloadN me d_prog_5_method_4_0 rfl rfl ?_
  refine W0.bipush me d_prog_5_method_4_1 (v := 35) rfl ?_
  show Fi p e below s Z _ _ _ _ T0 (mkF m 3 #[.val (.ref a), .unset] [(.int (35 : Int32)), (.ref a)])
  refine W0.callV me hEL (hw _ (List.mem_of_getElem? (i := 34) rfl)) (hw _ (List.mem_of_getElem? (i := 35) rfl)) (fun hZ' => notFace_of_selects (args := #[]) (mvT (s := s.setVm _) hZ' (hw _ (List.mem_of_getElem? (i := 37) rfl)))) (hw _ (List.mem_of_getElem? (i := 37) rfl)) (hw _ (List.mem_of_getElem? (i := 36) rfl)) (hw _ (List.mem_of_getElem? (i := 11) rfl)) (hw _ (List.mem_of_getElem? (i := 38) rfl)) (a := a) (argsL := [(.int (35 : Int32))]) (rest := []) L.exa (c_idx1 (ss := []) g W0.old L (by decide)) d_prog_5_method_4_3 (by decide) (fun _ q => nomatch q) rfl (lenOf pd_20 rfl) (own_le rfl) (own_le rfl) (own_le rfl) (own_le rfl) rfl ?_
  intro T1 h1 v1 W1 z1 q1
  obtain ⟨_, rfl, rfl, rfl⟩ := q1
  show Fi p e below s Z _ _ _ _ T1 (mkF m 6 #[.val (.ref a), .unset] [(.int (ixF (35 : Int32) cs))])
  rw [(ixF_found hi he hq).1]
  refine W1.istoreN me d_prog_5_method_4_6 (l' := #[.val (.ref a), .val (.int (Int32.ofNat i))]) rfl ?_
  refine W1.iloadN me d_prog_5_method_4_7 rfl ?_
  show Fi p e below s Z _ _ _ _ T1 (mkF m 8 #[.val (.ref a), .val (.int (Int32.ofNat i))] [(.int (Int32.ofNat i))])
  refine W1.ifY_ge me d_prog_5_method_4_8 (on_nneg (by omega)) (pc' := 16) (by decide) (by decide) ?_
  refine W1.aloadN me d_prog_5_method_4_16 rfl rfl ?_
  refine W1.iloadN me d_prog_5_method_4_17 rfl ?_
  refine W1.iconst me d_prog_5_method_4_18 (v := 1) rfl ?_
  show Fi p e below s Z _ _ _ _ T1 (mkF m 19 #[.val (.ref a), .val (.int (Int32.ofNat i))] [(.int (1 : Int32)), (.int (Int32.ofNat i)), (.ref a)])
  refine W1.iadd me d_prog_5_method_4_19 ?_
  rw [on_succ]
  show Fi p e below s Z _ _ _ _ T1 (mkF m 20 #[.val (.ref a), .val (.int (Int32.ofNat i))] [(.int (Int32.ofNat (i + 1))), (.ref a)])
  refine W1.callV me hEL (hw _ (List.mem_of_getElem? (i := 93) rfl)) (hw _ (List.mem_of_getElem? (i := 94) rfl)) (fun hZ' => notFace_of_selects (args := #[]) (mvT (s := s.setVm _) hZ' (hw _ (List.mem_of_getElem? (i := 96) rfl)))) (hw _ (List.mem_of_getElem? (i := 96) rfl)) (hw _ (List.mem_of_getElem? (i := 95) rfl)) (hw _ (List.mem_of_getElem? (i := 11) rfl)) (hw _ (List.mem_of_getElem? (i := 97) rfl)) (a := a) (argsL := [(.int (Int32.ofNat (i + 1)))]) (rest := []) L.exa (c_substr1 (ss := []) g W1.old (f := i + 1) (n := n) L hn hln) d_prog_5_method_4_20 (by decide) (fun _ q => nomatch q) rfl (lenOf pd_21 rfl) (own_le rfl) (own_le rfl) (own_le rfl) (own_le rfl) rfl ?_
  intro T2 h2 v2 W2 z2 q2
  obtain ⟨_, rfl, E2, d2, rfl, M2⟩ := q2
  show Fi p e below s Z _ _ _ _ T2 (mkF m 23 #[.val (.ref a), .val (.int (Int32.ofNat i))] [(.ref d2)])
  exact W2.retA hEL me d_prog_5_method_4_23 ⟨E2, d2, rfl, M2⟩ (by decide) (by decide) rfl rfl rfl
set_option maxRecDepth 65536 in
set_option maxHeartbeats 4000000 in
theorem c_law {l : Launch} {Z : State} {a0 : Array Value} {kn : Bool} (g : Gl Z a0) {ws : List Cond} {h0 : Heap} {ss : List Addr} (hO : Old Z Z.heap.size h0) (p0 p1 p2 p3 p4 : Int32) :
    Con l Z consts_1 kn ws x code maxLocals ret room_1 #[(.int p0), (.int p1), (.int p2), (.int p3), (.int p4)] h0 ss (rV fun v h => v = .int 1) := by
  have hw := g.1
  have hEL := g.2.1
  refine Con.of (plainFor_of_name pn_6) hO ?_
  intro p e s m below meth c T0 me W0
  refine Fi.entry (L := #[.val (.int p0), .val (.int p1), .val (.int p2), .val (.int p3), .val (.int p4), .unset, .unset, .unset, .unset, .unset, .unset]) (by first | (simp [entryFrame, mkF, argsToLocals, Value.category, maxLocals]; done) | (simp [entryFrame, mkF, argsToLocals, Value.category]; done) | rfl) ?_
  refine W0.iloadN me at_0 rfl ?_
  refine W0.ldcI me (hw _ (List.mem_of_getElem? (i := 0) rfl)) at_1 ?_
  refine W0.iand me at_3 ?_
  refine W0.iconst me at_4 (v := 5) rfl ?_
  refine W0.irem me at_5 (by decide) ?_
  show Fi p e below s Z _ _ _ _ T0 (mkF m 6 #[.val (.int p0), .val (.int p1), .val (.int p2), .val (.int p3), .val (.int p4), .unset, .unset, .unset, .unset, .unset, .unset] [(.int ((p0 &&& (2147483647 : Int32)) % (5 : Int32)))])
  obtain ⟨n, hn⟩ : ∃ z, z = ((p0 &&& (2147483647 : Int32)) % (5 : Int32)) := ⟨_, rfl⟩
  rw [← hn]
  have hn5 : n = 0 ∨ n = 1 ∨ n = 2 ∨ n = 3 ∨ n = 4 := hn ▸ own_n5 p0
  refine W0.istore me at_6 (l' := #[.val (.int p0), .val (.int p1), .val (.int p2), .val (.int p3), .val (.int p4), .val (.int n), .unset, .unset, .unset, .unset, .unset]) rfl ?_
  refine W0.iconst me at_8 (v := 4) rfl ?_
  show Fi p e below s Z _ _ _ _ T0 (mkF m 9 #[.val (.int p0), .val (.int p1), .val (.int p2), .val (.int p3), .val (.int p4), .val (.int n), .unset, .unset, .unset, .unset, .unset] [(.int (4 : Int32))])
  refine W0.newA me (hw _ (List.mem_of_getElem? (i := 1) rfl)) at_9 (by decide) (cap := 4) (by decide) (own_le rfl) (own_le rfl) (own_le rfl) ?_
  intro T1 h1 a1 k1 g1 W1 E1 A1
  show Fi p e below s Z _ _ _ _ T1 (mkF m 11 #[.val (.int p0), .val (.int p1), .val (.int p2), .val (.int p3), .val (.int p4), .val (.int n), .unset, .unset, .unset, .unset, .unset] [(.ref a1)])
  have hz1 : Z.heap.size ≤ a1 := by have := hO.2.1; omega
  refine W1.astore me at_11 (l' := #[.val (.int p0), .val (.int p1), .val (.int p2), .val (.int p3), .val (.int p4), .val (.int n), .val (.ref a1), .unset, .unset, .unset, .unset]) rfl rfl ?_
  refine W1.aload me at_13 rfl rfl ?_
  refine W1.iconst me at_15 (v := 0) rfl ?_
  refine W1.iloadN me at_16 rfl ?_
  show Fi p e below s Z _ _ _ _ T1 (mkF m 17 #[.val (.int p0), .val (.int p1), .val (.int p2), .val (.int p3), .val (.int p4), .val (.int n), .val (.ref a1), .unset, .unset, .unset, .unset] [(.int p1), (.int (0 : Int32)), (.ref a1)])
  refine W1.callS me hEL (hw _ (List.mem_of_getElem? (i := 2) rfl)) (hw _ (List.mem_of_getElem? (i := 3) rfl)) (hw _ (List.mem_of_getElem? (i := 4) rfl)) (hw _ (List.mem_of_getElem? (i := 5) rfl)) (argsL := [(.int p1)]) (rest := [(.int (0 : Int32)), (.ref a1)]) (c_draw (ss := []) g W1.old) at_17 (by decide) (fun _ q => nomatch q) rfl (lenOf pd_22 rfl) (own_le rfl) (own_le rfl) (own_le rfl) (own_le rfl) rfl ?_
  intro T2 h2 v2 W2 z2 q2
  obtain ⟨_, rfl, rfl, c0, rfl, q0⟩ := q2
  show Fi p e below s Z _ _ _ _ T2 (mkF m 20 #[.val (.int p0), .val (.int p1), .val (.int p2), .val (.int p3), .val (.int p4), .val (.int n), .val (.ref a1), .unset, .unset, .unset, .unset] [(.int c0), (.int (0 : Int32)), (.ref a1)])
  refine W2.castoreP me A1 (up16 q0) at_20 (i := 0) rfl (by decide) (by decide) hz1 ?_
  intro T3 h3 W3 R3 A3
  show Fi p e below s Z _ _ _ _ T3 (mkF m 21 #[.val (.int p0), .val (.int p1), .val (.int p2), .val (.int p3), .val (.int p4), .val (.int n), .val (.ref a1), .unset, .unset, .unset, .unset] [])
  refine W3.aload me at_21 rfl rfl ?_
  refine W3.iconst me at_23 (v := 1) rfl ?_
  refine W3.iloadN me at_24 rfl ?_
  show Fi p e below s Z _ _ _ _ T3 (mkF m 25 #[.val (.int p0), .val (.int p1), .val (.int p2), .val (.int p3), .val (.int p4), .val (.int n), .val (.ref a1), .unset, .unset, .unset, .unset] [(.int p2), (.int (1 : Int32)), (.ref a1)])
  refine W3.callS me hEL (hw _ (List.mem_of_getElem? (i := 2) rfl)) (hw _ (List.mem_of_getElem? (i := 3) rfl)) (hw _ (List.mem_of_getElem? (i := 4) rfl)) (hw _ (List.mem_of_getElem? (i := 5) rfl)) (argsL := [(.int p2)]) (rest := [(.int (1 : Int32)), (.ref a1)]) (c_draw (ss := []) g W3.old) at_25 (by decide) (fun _ q => nomatch q) rfl (lenOf pd_22 rfl) (own_le rfl) (own_le rfl) (own_le rfl) (own_le rfl) rfl ?_
  intro T4 h4 v4 W4 z4 q4
  obtain ⟨_, rfl, rfl, c1, rfl, q1⟩ := q4
  show Fi p e below s Z _ _ _ _ T4 (mkF m 28 #[.val (.int p0), .val (.int p1), .val (.int p2), .val (.int p3), .val (.int p4), .val (.int n), .val (.ref a1), .unset, .unset, .unset, .unset] [(.int c1), (.int (1 : Int32)), (.ref a1)])
  refine W4.castoreP me A3 (up16 q1) at_28 (i := 1) rfl (by decide) (by decide) hz1 ?_
  intro T5 h5 W5 R5 A5
  show Fi p e below s Z _ _ _ _ T5 (mkF m 29 #[.val (.int p0), .val (.int p1), .val (.int p2), .val (.int p3), .val (.int p4), .val (.int n), .val (.ref a1), .unset, .unset, .unset, .unset] [])
  refine W5.aload me at_29 rfl rfl ?_
  refine W5.iconst me at_31 (v := 2) rfl ?_
  refine W5.iloadN me at_32 rfl ?_
  show Fi p e below s Z _ _ _ _ T5 (mkF m 33 #[.val (.int p0), .val (.int p1), .val (.int p2), .val (.int p3), .val (.int p4), .val (.int n), .val (.ref a1), .unset, .unset, .unset, .unset] [(.int p3), (.int (2 : Int32)), (.ref a1)])
  refine W5.callS me hEL (hw _ (List.mem_of_getElem? (i := 2) rfl)) (hw _ (List.mem_of_getElem? (i := 3) rfl)) (hw _ (List.mem_of_getElem? (i := 4) rfl)) (hw _ (List.mem_of_getElem? (i := 5) rfl)) (argsL := [(.int p3)]) (rest := [(.int (2 : Int32)), (.ref a1)]) (c_draw (ss := []) g W5.old) at_33 (by decide) (fun _ q => nomatch q) rfl (lenOf pd_22 rfl) (own_le rfl) (own_le rfl) (own_le rfl) (own_le rfl) rfl ?_
  intro T6 h6 v6 W6 z6 q6
  obtain ⟨_, rfl, rfl, c2, rfl, q2⟩ := q6
  show Fi p e below s Z _ _ _ _ T6 (mkF m 36 #[.val (.int p0), .val (.int p1), .val (.int p2), .val (.int p3), .val (.int p4), .val (.int n), .val (.ref a1), .unset, .unset, .unset, .unset] [(.int c2), (.int (2 : Int32)), (.ref a1)])
  refine W6.castoreP me A5 (up16 q2) at_36 (i := 2) rfl (by decide) (by decide) hz1 ?_
  intro T7 h7 W7 R7 A7
  show Fi p e below s Z _ _ _ _ T7 (mkF m 37 #[.val (.int p0), .val (.int p1), .val (.int p2), .val (.int p3), .val (.int p4), .val (.int n), .val (.ref a1), .unset, .unset, .unset, .unset] [])
  refine W7.aload me at_37 rfl rfl ?_
  refine W7.iconst me at_39 (v := 3) rfl ?_
  refine W7.iload me at_40 rfl ?_
  show Fi p e below s Z _ _ _ _ T7 (mkF m 42 #[.val (.int p0), .val (.int p1), .val (.int p2), .val (.int p3), .val (.int p4), .val (.int n), .val (.ref a1), .unset, .unset, .unset, .unset] [(.int p4), (.int (3 : Int32)), (.ref a1)])
  refine W7.callS me hEL (hw _ (List.mem_of_getElem? (i := 2) rfl)) (hw _ (List.mem_of_getElem? (i := 3) rfl)) (hw _ (List.mem_of_getElem? (i := 4) rfl)) (hw _ (List.mem_of_getElem? (i := 5) rfl)) (argsL := [(.int p4)]) (rest := [(.int (3 : Int32)), (.ref a1)]) (c_draw (ss := []) g W7.old) at_42 (by decide) (fun _ q => nomatch q) rfl (lenOf pd_22 rfl) (own_le rfl) (own_le rfl) (own_le rfl) (own_le rfl) rfl ?_
  intro T8 h8 v8 W8 z8 q8
  obtain ⟨_, rfl, rfl, c3, rfl, q3⟩ := q8
  show Fi p e below s Z _ _ _ _ T8 (mkF m 45 #[.val (.int p0), .val (.int p1), .val (.int p2), .val (.int p3), .val (.int p4), .val (.int n), .val (.ref a1), .unset, .unset, .unset, .unset] [(.int c3), (.int (3 : Int32)), (.ref a1)])
  refine W8.castoreP me A7 (up16 q3) at_45 (i := 3) rfl (by decide) (by decide) hz1 ?_
  intro T9 h9 W9 R9 A9
  show Fi p e below s Z _ _ _ _ T9 (mkF m 46 #[.val (.int p0), .val (.int p1), .val (.int p2), .val (.int p3), .val (.int p4), .val (.int n), .val (.ref a1), .unset, .unset, .unset, .unset] [])
  show Fi p e below s Z _ _ _ _ T9 (mkF m 46 #[.val (.int p0), .val (.int p1), .val (.int p2), .val (.int p3), .val (.int p4), .val (.int n), .val (.ref a1), .unset, .unset, .unset, .unset] [])
  rcases hn5 with rfl | rfl | rfl | rfl | rfl
  ·
    show Fi p e below s Z _ _ _ _ T9 (mkF m 46 #[.val (.int p0), .val (.int p1), .val (.int p2), .val (.int p3), .val (.int p4), .val (.int (0 : Int32)), .val (.ref a1), .unset, .unset, .unset, .unset] [])
    refine W9.iload me at_46 rfl ?_
    refine W9.aload me at_48 rfl rfl ?_
    refine W9.iconst me at_50 (v := 0) rfl ?_
    show Fi p e below s Z _ _ _ _ T9 (mkF m 51 #[.val (.int p0), .val (.int p1), .val (.int p2), .val (.int p3), .val (.int p4), .val (.int (0 : Int32)), .val (.ref a1), .unset, .unset, .unset, .unset] [(.int (0 : Int32)), (.ref a1), (.int (0 : Int32))])
    refine W9.caload me A9 at_51 (by decide) (v := .int c0) rfl ?_
    show Fi p e below s Z _ _ _ _ T9 (mkF m 52 #[.val (.int p0), .val (.int p1), .val (.int p2), .val (.int p3), .val (.int p4), .val (.int (0 : Int32)), .val (.ref a1), .unset, .unset, .unset, .unset] [(.int c0), (.int (0 : Int32))])
    refine W9.aload me at_52 rfl rfl ?_
    refine W9.iconst me at_54 (v := 1) rfl ?_
    show Fi p e below s Z _ _ _ _ T9 (mkF m 55 #[.val (.int p0), .val (.int p1), .val (.int p2), .val (.int p3), .val (.int p4), .val (.int (0 : Int32)), .val (.ref a1), .unset, .unset, .unset, .unset] [(.int (1 : Int32)), (.ref a1), (.int c0), (.int (0 : Int32))])
    refine W9.caload me A9 at_55 (by decide) (v := .int c1) rfl ?_
    show Fi p e below s Z _ _ _ _ T9 (mkF m 56 #[.val (.int p0), .val (.int p1), .val (.int p2), .val (.int p3), .val (.int p4), .val (.int (0 : Int32)), .val (.ref a1), .unset, .unset, .unset, .unset] [(.int c1), (.int c0), (.int (0 : Int32))])
    refine W9.aload me at_56 rfl rfl ?_
    refine W9.iconst me at_58 (v := 2) rfl ?_
    show Fi p e below s Z _ _ _ _ T9 (mkF m 59 #[.val (.int p0), .val (.int p1), .val (.int p2), .val (.int p3), .val (.int p4), .val (.int (0 : Int32)), .val (.ref a1), .unset, .unset, .unset, .unset] [(.int (2 : Int32)), (.ref a1), (.int c1), (.int c0), (.int (0 : Int32))])
    refine W9.caload me A9 at_59 (by decide) (v := .int c2) rfl ?_
    show Fi p e below s Z _ _ _ _ T9 (mkF m 60 #[.val (.int p0), .val (.int p1), .val (.int p2), .val (.int p3), .val (.int p4), .val (.int (0 : Int32)), .val (.ref a1), .unset, .unset, .unset, .unset] [(.int c2), (.int c1), (.int c0), (.int (0 : Int32))])
    refine W9.aload me at_60 rfl rfl ?_
    refine W9.iconst me at_62 (v := 3) rfl ?_
    show Fi p e below s Z _ _ _ _ T9 (mkF m 63 #[.val (.int p0), .val (.int p1), .val (.int p2), .val (.int p3), .val (.int p4), .val (.int (0 : Int32)), .val (.ref a1), .unset, .unset, .unset, .unset] [(.int (3 : Int32)), (.ref a1), (.int c2), (.int c1), (.int c0), (.int (0 : Int32))])
    refine W9.caload me A9 at_63 (by decide) (v := .int c3) rfl ?_
    show Fi p e below s Z _ _ _ _ T9 (mkF m 64 #[.val (.int p0), .val (.int p1), .val (.int p2), .val (.int p3), .val (.int p4), .val (.int (0 : Int32)), .val (.ref a1), .unset, .unset, .unset, .unset] [(.int c3), (.int c2), (.int c1), (.int c0), (.int (0 : Int32))])
    refine W9.callS me hEL (hw _ (List.mem_of_getElem? (i := 6) rfl)) (hw _ (List.mem_of_getElem? (i := 7) rfl)) (hw _ (List.mem_of_getElem? (i := 4) rfl)) (hw _ (List.mem_of_getElem? (i := 8) rfl)) (argsL := [(.int (0 : Int32)), (.int c0), (.int c1), (.int c2), (.int c3)]) (rest := []) (c_str0 (ss := []) g W9.old q0 q1 q2 q3) at_64 (by decide) (fun _ q => nomatch q) rfl (lenOf pd_23 rfl) (own_le rfl) (own_le rfl) (own_le rfl) (own_le rfl) rfl ?_
    intro T10 h10 v10 W10 z10 q10
    obtain ⟨_, rfl, E10, a10, rfl, L10⟩ := q10
    show Fi p e below s Z _ _ _ _ T10 (mkF m 67 #[.val (.int p0), .val (.int p1), .val (.int p2), .val (.int p3), .val (.int p4), .val (.int (0 : Int32)), .val (.ref a1), .unset, .unset, .unset, .unset] [(.ref a10)])
    replace A9 := A9.ext E10
    refine W10.astore me at_67 (l' := #[.val (.int p0), .val (.int p1), .val (.int p2), .val (.int p3), .val (.int p4), .val (.int (0 : Int32)), .val (.ref a1), .val (.ref a10), .unset, .unset, .unset]) rfl rfl ?_
    refine W10.iload me at_69 rfl ?_
    refine W10.istore me at_71 (l' := #[.val (.int p0), .val (.int p1), .val (.int p2), .val (.int p3), .val (.int p4), .val (.int (0 : Int32)), .val (.ref a1), .val (.ref a10), .val (.int (0 : Int32)), .unset, .unset]) rfl ?_
    refine W10.iload me at_73 rfl ?_
    refine W10.iconst me at_75 (v := 3) rfl ?_
    show Fi p e below s Z _ _ _ _ T10 (mkF m 76 #[.val (.int p0), .val (.int p1), .val (.int p2), .val (.int p3), .val (.int p4), .val (.int (0 : Int32)), .val (.ref a1), .val (.ref a10), .val (.int (0 : Int32)), .unset, .unset] [(.int (3 : Int32)), (.int (0 : Int32))])
    refine W10.icY_le me at_76 (by decide) (pc' := 91) (by decide) (by decide) ?_
    show Fi p e below s Z _ _ _ _ T10 (mkF m 91 #[.val (.int p0), .val (.int p1), .val (.int p2), .val (.int p3), .val (.int p4), .val (.int (0 : Int32)), .val (.ref a1), .val (.ref a10), .val (.int (0 : Int32)), .unset, .unset] [])
    refine W10.iload me at_91 rfl ?_
    refine W10.iconst me at_93 (v := 2) rfl ?_
    show Fi p e below s Z _ _ _ _ T10 (mkF m 94 #[.val (.int p0), .val (.int p1), .val (.int p2), .val (.int p3), .val (.int p4), .val (.int (0 : Int32)), .val (.ref a1), .val (.ref a10), .val (.int (0 : Int32)), .unset, .unset] [(.int (2 : Int32)), (.int (0 : Int32))])
    refine W10.icY_le me at_94 (by decide) (pc' := 109) (by decide) (by decide) ?_
    show Fi p e below s Z _ _ _ _ T10 (mkF m 109 #[.val (.int p0), .val (.int p1), .val (.int p2), .val (.int p3), .val (.int p4), .val (.int (0 : Int32)), .val (.ref a1), .val (.ref a10), .val (.int (0 : Int32)), .unset, .unset] [])
    refine W10.iload me at_109 rfl ?_
    refine W10.iconst me at_111 (v := 1) rfl ?_
    show Fi p e below s Z _ _ _ _ T10 (mkF m 112 #[.val (.int p0), .val (.int p1), .val (.int p2), .val (.int p3), .val (.int p4), .val (.int (0 : Int32)), .val (.ref a1), .val (.ref a10), .val (.int (0 : Int32)), .unset, .unset] [(.int (1 : Int32)), (.int (0 : Int32))])
    refine W10.icY_le me at_112 (by decide) (pc' := 127) (by decide) (by decide) ?_
    show Fi p e below s Z _ _ _ _ T10 (mkF m 127 #[.val (.int p0), .val (.int p1), .val (.int p2), .val (.int p3), .val (.int p4), .val (.int (0 : Int32)), .val (.ref a1), .val (.ref a10), .val (.int (0 : Int32)), .unset, .unset] [])
    refine W10.iload me at_127 rfl ?_
    show Fi p e below s Z _ _ _ _ T10 (mkF m 129 #[.val (.int p0), .val (.int p1), .val (.int p2), .val (.int p3), .val (.int p4), .val (.int (0 : Int32)), .val (.ref a1), .val (.ref a10), .val (.int (0 : Int32)), .unset, .unset] [(.int (0 : Int32))])
    refine W10.ifY_le me at_129 (by decide) (pc' := 144) (by decide) (by decide) ?_
    show Fi p e below s Z _ _ _ _ T10 (mkF m 144 #[.val (.int p0), .val (.int p1), .val (.int p2), .val (.int p3), .val (.int p4), .val (.int (0 : Int32)), .val (.ref a1), .val (.ref a10), .val (.int (0 : Int32)), .unset, .unset] [])
    refine W10.aload me at_144 rfl rfl ?_
    show Fi p e below s Z _ _ _ _ T10 (mkF m 146 #[.val (.int p0), .val (.int p1), .val (.int p2), .val (.int p3), .val (.int p4), .val (.int (0 : Int32)), .val (.ref a1), .val (.ref a10), .val (.int (0 : Int32)), .unset, .unset] [(.ref a10)])
    show Fi p e below s Z _ _ _ _ T10 (mkF m 146 #[.val (.int p0), .val (.int p1), .val (.int p2), .val (.int p3), .val (.int p4), .val (.int (0 : Int32)), .val (.ref a1), .val (.ref a10), .val (.int (0 : Int32)), .unset, .unset] [(.ref a10)])
    refine W10.callS me hEL (hw _ (List.mem_of_getElem? (i := 30) rfl)) (hw _ (List.mem_of_getElem? (i := 31) rfl)) (hw _ (List.mem_of_getElem? (i := 32) rfl)) (hw _ (List.mem_of_getElem? (i := 33) rfl)) (argsL := [(.ref a10)]) (rest := []) (c_fr0 (ss := []) g W10.old (cs := []) L10 al0) at_146 (by decide) (fun _ q => nomatch q) rfl (lenOf pd_24 rfl) (own_le rfl) (own_le rfl) (own_le rfl) (own_le rfl) rfl ?_
    intro T11 h11 v11 W11 z11 q11
    obtain ⟨_, rfl, E11, d11, rfl, M11⟩ := q11
    show Fi p e below s Z _ _ _ _ T11 (mkF m 149 #[.val (.int p0), .val (.int p1), .val (.int p2), .val (.int p3), .val (.int p4), .val (.int (0 : Int32)), .val (.ref a1), .val (.ref a10), .val (.int (0 : Int32)), .unset, .unset] [(.ref d11)])
    refine W11.astore me at_149 (l' := #[.val (.int p0), .val (.int p1), .val (.int p2), .val (.int p3), .val (.int p4), .val (.int (0 : Int32)), .val (.ref a1), .val (.ref a10), .val (.int (0 : Int32)), .val (.ref d11), .unset]) rfl rfl ?_
    refine W11.iload me at_151 rfl ?_
    refine W11.iload me at_153 rfl ?_
    show Fi p e below s Z _ _ _ _ T11 (mkF m 155 #[.val (.int p0), .val (.int p1), .val (.int p2), .val (.int p3), .val (.int p4), .val (.int (0 : Int32)), .val (.ref a1), .val (.ref a10), .val (.int (0 : Int32)), .val (.ref d11), .unset] [(.int (0 : Int32)), (.int (0 : Int32))])
    refine W11.icN_ne me at_155 (by decide) ?_
    show Fi p e below s Z _ _ _ _ T11 (mkF m 158 #[.val (.int p0), .val (.int p1), .val (.int p2), .val (.int p3), .val (.int p4), .val (.int (0 : Int32)), .val (.ref a1), .val (.ref a10), .val (.int (0 : Int32)), .val (.ref d11), .unset] [])
    refine W11.aload me at_158 rfl rfl ?_
    show Fi p e below s Z _ _ _ _ T11 (mkF m 160 #[.val (.int p0), .val (.int p1), .val (.int p2), .val (.int p3), .val (.int p4), .val (.int (0 : Int32)), .val (.ref a1), .val (.ref a10), .val (.int (0 : Int32)), .val (.ref d11), .unset] [(.ref d11)])
    refine W11.callV me hEL (hw _ (List.mem_of_getElem? (i := 75) rfl)) (hw _ (List.mem_of_getElem? (i := 76) rfl)) (fun hZ' => notFace_of_selects (args := #[]) (mvT (s := s.setVm _) hZ' (hw _ (List.mem_of_getElem? (i := 78) rfl)))) (hw _ (List.mem_of_getElem? (i := 78) rfl)) (hw _ (List.mem_of_getElem? (i := 77) rfl)) (hw _ (List.mem_of_getElem? (i := 11) rfl)) (hw _ (List.mem_of_getElem? (i := 79) rfl)) (a := d11) (argsL := []) (rest := []) M11.exa (c_isempty (ss := []) g W11.old M11) at_160 (by decide) (fun _ q => nomatch q) rfl (lenOf pd_7 rfl) (own_le rfl) (own_le rfl) (own_le rfl) (own_le rfl) rfl ?_
    intro T12 h12 v12 W12 z12 q12
    obtain ⟨_, rfl, rfl, rfl⟩ := q12
    show Fi p e below s Z _ _ _ _ T12 (mkF m 163 #[.val (.int p0), .val (.int p1), .val (.int p2), .val (.int p3), .val (.int p4), .val (.int (0 : Int32)), .val (.ref a1), .val (.ref a10), .val (.int (0 : Int32)), .val (.ref d11), .unset] [(.int (1 : Int32))])
    exact W12.retN hEL me (Or.inl rfl) at_163 rfl (by decide) (by decide)
  ·
    show Fi p e below s Z _ _ _ _ T9 (mkF m 46 #[.val (.int p0), .val (.int p1), .val (.int p2), .val (.int p3), .val (.int p4), .val (.int (1 : Int32)), .val (.ref a1), .unset, .unset, .unset, .unset] [])
    refine W9.iload me at_46 rfl ?_
    refine W9.aload me at_48 rfl rfl ?_
    refine W9.iconst me at_50 (v := 0) rfl ?_
    show Fi p e below s Z _ _ _ _ T9 (mkF m 51 #[.val (.int p0), .val (.int p1), .val (.int p2), .val (.int p3), .val (.int p4), .val (.int (1 : Int32)), .val (.ref a1), .unset, .unset, .unset, .unset] [(.int (0 : Int32)), (.ref a1), (.int (1 : Int32))])
    refine W9.caload me A9 at_51 (by decide) (v := .int c0) rfl ?_
    show Fi p e below s Z _ _ _ _ T9 (mkF m 52 #[.val (.int p0), .val (.int p1), .val (.int p2), .val (.int p3), .val (.int p4), .val (.int (1 : Int32)), .val (.ref a1), .unset, .unset, .unset, .unset] [(.int c0), (.int (1 : Int32))])
    refine W9.aload me at_52 rfl rfl ?_
    refine W9.iconst me at_54 (v := 1) rfl ?_
    show Fi p e below s Z _ _ _ _ T9 (mkF m 55 #[.val (.int p0), .val (.int p1), .val (.int p2), .val (.int p3), .val (.int p4), .val (.int (1 : Int32)), .val (.ref a1), .unset, .unset, .unset, .unset] [(.int (1 : Int32)), (.ref a1), (.int c0), (.int (1 : Int32))])
    refine W9.caload me A9 at_55 (by decide) (v := .int c1) rfl ?_
    show Fi p e below s Z _ _ _ _ T9 (mkF m 56 #[.val (.int p0), .val (.int p1), .val (.int p2), .val (.int p3), .val (.int p4), .val (.int (1 : Int32)), .val (.ref a1), .unset, .unset, .unset, .unset] [(.int c1), (.int c0), (.int (1 : Int32))])
    refine W9.aload me at_56 rfl rfl ?_
    refine W9.iconst me at_58 (v := 2) rfl ?_
    show Fi p e below s Z _ _ _ _ T9 (mkF m 59 #[.val (.int p0), .val (.int p1), .val (.int p2), .val (.int p3), .val (.int p4), .val (.int (1 : Int32)), .val (.ref a1), .unset, .unset, .unset, .unset] [(.int (2 : Int32)), (.ref a1), (.int c1), (.int c0), (.int (1 : Int32))])
    refine W9.caload me A9 at_59 (by decide) (v := .int c2) rfl ?_
    show Fi p e below s Z _ _ _ _ T9 (mkF m 60 #[.val (.int p0), .val (.int p1), .val (.int p2), .val (.int p3), .val (.int p4), .val (.int (1 : Int32)), .val (.ref a1), .unset, .unset, .unset, .unset] [(.int c2), (.int c1), (.int c0), (.int (1 : Int32))])
    refine W9.aload me at_60 rfl rfl ?_
    refine W9.iconst me at_62 (v := 3) rfl ?_
    show Fi p e below s Z _ _ _ _ T9 (mkF m 63 #[.val (.int p0), .val (.int p1), .val (.int p2), .val (.int p3), .val (.int p4), .val (.int (1 : Int32)), .val (.ref a1), .unset, .unset, .unset, .unset] [(.int (3 : Int32)), (.ref a1), (.int c2), (.int c1), (.int c0), (.int (1 : Int32))])
    refine W9.caload me A9 at_63 (by decide) (v := .int c3) rfl ?_
    show Fi p e below s Z _ _ _ _ T9 (mkF m 64 #[.val (.int p0), .val (.int p1), .val (.int p2), .val (.int p3), .val (.int p4), .val (.int (1 : Int32)), .val (.ref a1), .unset, .unset, .unset, .unset] [(.int c3), (.int c2), (.int c1), (.int c0), (.int (1 : Int32))])
    refine W9.callS me hEL (hw _ (List.mem_of_getElem? (i := 6) rfl)) (hw _ (List.mem_of_getElem? (i := 7) rfl)) (hw _ (List.mem_of_getElem? (i := 4) rfl)) (hw _ (List.mem_of_getElem? (i := 8) rfl)) (argsL := [(.int (1 : Int32)), (.int c0), (.int c1), (.int c2), (.int c3)]) (rest := []) (c_str1 (ss := []) g W9.old q0 q1 q2 q3) at_64 (by decide) (fun _ q => nomatch q) rfl (lenOf pd_23 rfl) (own_le rfl) (own_le rfl) (own_le rfl) (own_le rfl) rfl ?_
    intro T13 h13 v13 W13 z13 q13
    obtain ⟨_, rfl, E13, a13, rfl, L13⟩ := q13
    show Fi p e below s Z _ _ _ _ T13 (mkF m 67 #[.val (.int p0), .val (.int p1), .val (.int p2), .val (.int p3), .val (.int p4), .val (.int (1 : Int32)), .val (.ref a1), .unset, .unset, .unset, .unset] [(.ref a13)])
    replace A9 := A9.ext E13
    refine W13.astore me at_67 (l' := #[.val (.int p0), .val (.int p1), .val (.int p2), .val (.int p3), .val (.int p4), .val (.int (1 : Int32)), .val (.ref a1), .val (.ref a13), .unset, .unset, .unset]) rfl rfl ?_
    refine W13.iload me at_69 rfl ?_
    refine W13.istore me at_71 (l' := #[.val (.int p0), .val (.int p1), .val (.int p2), .val (.int p3), .val (.int p4), .val (.int (1 : Int32)), .val (.ref a1), .val (.ref a13), .val (.int (1 : Int32)), .unset, .unset]) rfl ?_
    refine W13.iload me at_73 rfl ?_
    refine W13.iconst me at_75 (v := 3) rfl ?_
    show Fi p e below s Z _ _ _ _ T13 (mkF m 76 #[.val (.int p0), .val (.int p1), .val (.int p2), .val (.int p3), .val (.int p4), .val (.int (1 : Int32)), .val (.ref a1), .val (.ref a13), .val (.int (1 : Int32)), .unset, .unset] [(.int (3 : Int32)), (.int (1 : Int32))])
    refine W13.icY_le me at_76 (by decide) (pc' := 91) (by decide) (by decide) ?_
    show Fi p e below s Z _ _ _ _ T13 (mkF m 91 #[.val (.int p0), .val (.int p1), .val (.int p2), .val (.int p3), .val (.int p4), .val (.int (1 : Int32)), .val (.ref a1), .val (.ref a13), .val (.int (1 : Int32)), .unset, .unset] [])
    refine W13.iload me at_91 rfl ?_
    refine W13.iconst me at_93 (v := 2) rfl ?_
    show Fi p e below s Z _ _ _ _ T13 (mkF m 94 #[.val (.int p0), .val (.int p1), .val (.int p2), .val (.int p3), .val (.int p4), .val (.int (1 : Int32)), .val (.ref a1), .val (.ref a13), .val (.int (1 : Int32)), .unset, .unset] [(.int (2 : Int32)), (.int (1 : Int32))])
    refine W13.icY_le me at_94 (by decide) (pc' := 109) (by decide) (by decide) ?_
    show Fi p e below s Z _ _ _ _ T13 (mkF m 109 #[.val (.int p0), .val (.int p1), .val (.int p2), .val (.int p3), .val (.int p4), .val (.int (1 : Int32)), .val (.ref a1), .val (.ref a13), .val (.int (1 : Int32)), .unset, .unset] [])
    refine W13.iload me at_109 rfl ?_
    refine W13.iconst me at_111 (v := 1) rfl ?_
    show Fi p e below s Z _ _ _ _ T13 (mkF m 112 #[.val (.int p0), .val (.int p1), .val (.int p2), .val (.int p3), .val (.int p4), .val (.int (1 : Int32)), .val (.ref a1), .val (.ref a13), .val (.int (1 : Int32)), .unset, .unset] [(.int (1 : Int32)), (.int (1 : Int32))])
    refine W13.icY_le me at_112 (by decide) (pc' := 127) (by decide) (by decide) ?_
    show Fi p e below s Z _ _ _ _ T13 (mkF m 127 #[.val (.int p0), .val (.int p1), .val (.int p2), .val (.int p3), .val (.int p4), .val (.int (1 : Int32)), .val (.ref a1), .val (.ref a13), .val (.int (1 : Int32)), .unset, .unset] [])
    refine W13.iload me at_127 rfl ?_
    show Fi p e below s Z _ _ _ _ T13 (mkF m 129 #[.val (.int p0), .val (.int p1), .val (.int p2), .val (.int p3), .val (.int p4), .val (.int (1 : Int32)), .val (.ref a1), .val (.ref a13), .val (.int (1 : Int32)), .unset, .unset] [(.int (1 : Int32))])
    refine W13.ifN_le me at_129 (by decide) ?_
    show Fi p e below s Z _ _ _ _ T13 (mkF m 132 #[.val (.int p0), .val (.int p1), .val (.int p2), .val (.int p3), .val (.int p4), .val (.int (1 : Int32)), .val (.ref a1), .val (.ref a13), .val (.int (1 : Int32)), .unset, .unset] [])
    refine W13.aload me at_132 rfl rfl ?_
    refine W13.iconst me at_134 (v := 0) rfl ?_
    show Fi p e below s Z _ _ _ _ T13 (mkF m 135 #[.val (.int p0), .val (.int p1), .val (.int p2), .val (.int p3), .val (.int p4), .val (.int (1 : Int32)), .val (.ref a1), .val (.ref a13), .val (.int (1 : Int32)), .unset, .unset] [(.int (0 : Int32)), (.ref a1)])
    refine W13.caload me A9 at_135 (by decide) (v := .int c0) rfl ?_
    show Fi p e below s Z _ _ _ _ T13 (mkF m 136 #[.val (.int p0), .val (.int p1), .val (.int p2), .val (.int p3), .val (.int p4), .val (.int (1 : Int32)), .val (.ref a1), .val (.ref a13), .val (.int (1 : Int32)), .unset, .unset] [(.int c0)])
    refine W13.bipush me at_136 (v := 35) rfl ?_
    show Fi p e below s Z _ _ _ _ T13 (mkF m 138 #[.val (.int p0), .val (.int p1), .val (.int p2), .val (.int p3), .val (.int p4), .val (.int (1 : Int32)), .val (.ref a1), .val (.ref a13), .val (.int (1 : Int32)), .unset, .unset] [(.int (35 : Int32)), (.int c0)])
    refine W13.ic_ne me at_138 (pc' := 144) (by decide) (by decide) (fun hh0 => ?_) (fun hh0 => ?_)
    ·
      show Fi p e below s Z _ _ _ _ T13 (mkF m 144 #[.val (.int p0), .val (.int p1), .val (.int p2), .val (.int p3), .val (.int p4), .val (.int (1 : Int32)), .val (.ref a1), .val (.ref a13), .val (.int (1 : Int32)), .unset, .unset] [])
      refine W13.aload me at_144 rfl rfl ?_
      show Fi p e below s Z _ _ _ _ T13 (mkF m 146 #[.val (.int p0), .val (.int p1), .val (.int p2), .val (.int p3), .val (.int p4), .val (.int (1 : Int32)), .val (.ref a1), .val (.ref a13), .val (.int (1 : Int32)), .unset, .unset] [(.ref a13)])
      show Fi p e below s Z _ _ _ _ T13 (mkF m 146 #[.val (.int p0), .val (.int p1), .val (.int p2), .val (.int p3), .val (.int p4), .val (.int (1 : Int32)), .val (.ref a1), .val (.ref a13), .val (.int (1 : Int32)), .unset, .unset] [(.ref a13)])
      refine W13.callS me hEL (hw _ (List.mem_of_getElem? (i := 30) rfl)) (hw _ (List.mem_of_getElem? (i := 31) rfl)) (hw _ (List.mem_of_getElem? (i := 32) rfl)) (hw _ (List.mem_of_getElem? (i := 33) rfl)) (argsL := [(.ref a13)]) (rest := []) (c_fr0 (ss := []) g W13.old (cs := [c0]) L13 (alS al0 hh0)) at_146 (by decide) (fun _ q => nomatch q) rfl (lenOf pd_24 rfl) (own_le rfl) (own_le rfl) (own_le rfl) (own_le rfl) rfl ?_
      intro T14 h14 v14 W14 z14 q14
      obtain ⟨_, rfl, E14, d14, rfl, M14⟩ := q14
      show Fi p e below s Z _ _ _ _ T14 (mkF m 149 #[.val (.int p0), .val (.int p1), .val (.int p2), .val (.int p3), .val (.int p4), .val (.int (1 : Int32)), .val (.ref a1), .val (.ref a13), .val (.int (1 : Int32)), .unset, .unset] [(.ref d14)])
      refine W14.astore me at_149 (l' := #[.val (.int p0), .val (.int p1), .val (.int p2), .val (.int p3), .val (.int p4), .val (.int (1 : Int32)), .val (.ref a1), .val (.ref a13), .val (.int (1 : Int32)), .val (.ref d14), .unset]) rfl rfl ?_
      refine W14.iload me at_151 rfl ?_
      refine W14.iload me at_153 rfl ?_
      show Fi p e below s Z _ _ _ _ T14 (mkF m 155 #[.val (.int p0), .val (.int p1), .val (.int p2), .val (.int p3), .val (.int p4), .val (.int (1 : Int32)), .val (.ref a1), .val (.ref a13), .val (.int (1 : Int32)), .val (.ref d14), .unset] [(.int (1 : Int32)), (.int (1 : Int32))])
      refine W14.icN_ne me at_155 (by decide) ?_
      show Fi p e below s Z _ _ _ _ T14 (mkF m 158 #[.val (.int p0), .val (.int p1), .val (.int p2), .val (.int p3), .val (.int p4), .val (.int (1 : Int32)), .val (.ref a1), .val (.ref a13), .val (.int (1 : Int32)), .val (.ref d14), .unset] [])
      refine W14.aload me at_158 rfl rfl ?_
      show Fi p e below s Z _ _ _ _ T14 (mkF m 160 #[.val (.int p0), .val (.int p1), .val (.int p2), .val (.int p3), .val (.int p4), .val (.int (1 : Int32)), .val (.ref a1), .val (.ref a13), .val (.int (1 : Int32)), .val (.ref d14), .unset] [(.ref d14)])
      refine W14.callV me hEL (hw _ (List.mem_of_getElem? (i := 75) rfl)) (hw _ (List.mem_of_getElem? (i := 76) rfl)) (fun hZ' => notFace_of_selects (args := #[]) (mvT (s := s.setVm _) hZ' (hw _ (List.mem_of_getElem? (i := 78) rfl)))) (hw _ (List.mem_of_getElem? (i := 78) rfl)) (hw _ (List.mem_of_getElem? (i := 77) rfl)) (hw _ (List.mem_of_getElem? (i := 11) rfl)) (hw _ (List.mem_of_getElem? (i := 79) rfl)) (a := d14) (argsL := []) (rest := []) M14.exa (c_isempty (ss := []) g W14.old M14) at_160 (by decide) (fun _ q => nomatch q) rfl (lenOf pd_7 rfl) (own_le rfl) (own_le rfl) (own_le rfl) (own_le rfl) rfl ?_
      intro T15 h15 v15 W15 z15 q15
      obtain ⟨_, rfl, rfl, rfl⟩ := q15
      show Fi p e below s Z _ _ _ _ T15 (mkF m 163 #[.val (.int p0), .val (.int p1), .val (.int p2), .val (.int p3), .val (.int p4), .val (.int (1 : Int32)), .val (.ref a1), .val (.ref a13), .val (.int (1 : Int32)), .val (.ref d14), .unset] [(.int (1 : Int32))])
      exact W15.retN hEL me (Or.inl rfl) at_163 rfl (by decide) (by decide)
    ·
      show Fi p e below s Z _ _ _ _ T13 (mkF m 141 #[.val (.int p0), .val (.int p1), .val (.int p2), .val (.int p3), .val (.int p4), .val (.int (1 : Int32)), .val (.ref a1), .val (.ref a13), .val (.int (1 : Int32)), .unset, .unset] [])
      refine W13.iconst me at_141 (v := 0) rfl ?_
      refine W13.istore me at_142 (l' := #[.val (.int p0), .val (.int p1), .val (.int p2), .val (.int p3), .val (.int p4), .val (.int (1 : Int32)), .val (.ref a1), .val (.ref a13), .val (.int (0 : Int32)), .unset, .unset]) rfl ?_
      refine W13.aload me at_144 rfl rfl ?_
      show Fi p e below s Z _ _ _ _ T13 (mkF m 146 #[.val (.int p0), .val (.int p1), .val (.int p2), .val (.int p3), .val (.int p4), .val (.int (1 : Int32)), .val (.ref a1), .val (.ref a13), .val (.int (0 : Int32)), .unset, .unset] [(.ref a13)])
      show Fi p e below s Z _ _ _ _ T13 (mkF m 146 #[.val (.int p0), .val (.int p1), .val (.int p2), .val (.int p3), .val (.int p4), .val (.int (1 : Int32)), .val (.ref a1), .val (.ref a13), .val (.int (0 : Int32)), .unset, .unset] [(.ref a13)])
      refine W13.callS me hEL (hw _ (List.mem_of_getElem? (i := 30) rfl)) (hw _ (List.mem_of_getElem? (i := 31) rfl)) (hw _ (List.mem_of_getElem? (i := 32) rfl)) (hw _ (List.mem_of_getElem? (i := 33) rfl)) (argsL := [(.ref a13)]) (rest := []) (c_fr1 (ss := []) g W13.old (cs := [c0]) L13 0 0 (own_le rfl) hh0 al0 (by decide) rfl) at_146 (by decide) (fun _ q => nomatch q) rfl (lenOf pd_24 rfl) (own_le rfl) (own_le rfl) (own_le rfl) (own_le rfl) rfl ?_
      intro T16 h16 v16 W16 z16 q16
      obtain ⟨_, rfl, E16, d16, rfl, M16⟩ := q16
      show Fi p e below s Z _ _ _ _ T16 (mkF m 149 #[.val (.int p0), .val (.int p1), .val (.int p2), .val (.int p3), .val (.int p4), .val (.int (1 : Int32)), .val (.ref a1), .val (.ref a13), .val (.int (0 : Int32)), .unset, .unset] [(.ref d16)])
      replace A9 := A9.ext E16
      replace L13 := L13.ext E16
      refine W16.astore me at_149 (l' := #[.val (.int p0), .val (.int p1), .val (.int p2), .val (.int p3), .val (.int p4), .val (.int (1 : Int32)), .val (.ref a1), .val (.ref a13), .val (.int (0 : Int32)), .val (.ref d16), .unset]) rfl rfl ?_
      refine W16.iload me at_151 rfl ?_
      refine W16.iload me at_153 rfl ?_
      show Fi p e below s Z _ _ _ _ T16 (mkF m 155 #[.val (.int p0), .val (.int p1), .val (.int p2), .val (.int p3), .val (.int p4), .val (.int (1 : Int32)), .val (.ref a1), .val (.ref a13), .val (.int (0 : Int32)), .val (.ref d16), .unset] [(.int (1 : Int32)), (.int (0 : Int32))])
      refine W16.icY_ne me at_155 (by decide) (pc' := 164) (by decide) (by decide) ?_
      show Fi p e below s Z _ _ _ _ T16 (mkF m 164 #[.val (.int p0), .val (.int p1), .val (.int p2), .val (.int p3), .val (.int p4), .val (.int (1 : Int32)), .val (.ref a1), .val (.ref a13), .val (.int (0 : Int32)), .val (.ref d16), .unset] [])
      refine W16.iload me at_164 rfl ?_
      refine W16.iload me at_166 rfl ?_
      refine W16.isub me at_168 ?_
      refine W16.iconst me at_169 (v := 1) rfl ?_
      refine W16.isub me at_170 ?_
      show Fi p e below s Z _ _ _ _ T16 (mkF m 171 #[.val (.int p0), .val (.int p1), .val (.int p2), .val (.int p3), .val (.int p4), .val (.int (1 : Int32)), .val (.ref a1), .val (.ref a13), .val (.int (0 : Int32)), .val (.ref d16), .unset] [(.int (((1 : Int32) - (0 : Int32)) - (1 : Int32)))])
      show Fi p e below s Z _ _ _ _ T16 (mkF m 171 #[.val (.int p0), .val (.int p1), .val (.int p2), .val (.int p3), .val (.int p4), .val (.int (1 : Int32)), .val (.ref a1), .val (.ref a13), .val (.int (0 : Int32)), .val (.ref d16), .unset] [(.int (0 : Int32))])
      refine W16.istore me at_171 (l' := #[.val (.int p0), .val (.int p1), .val (.int p2), .val (.int p3), .val (.int p4), .val (.int (1 : Int32)), .val (.ref a1), .val (.ref a13), .val (.int (0 : Int32)), .val (.ref d16), .val (.int (0 : Int32))]) rfl ?_
      refine W16.aload me at_173 rfl rfl ?_
      show Fi p e below s Z _ _ _ _ T16 (mkF m 175 #[.val (.int p0), .val (.int p1), .val (.int p2), .val (.int p3), .val (.int p4), .val (.int (1 : Int32)), .val (.ref a1), .val (.ref a13), .val (.int (0 : Int32)), .val (.ref d16), .val (.int (0 : Int32))] [(.ref d16)])
      refine W16.callV me hEL (hw _ (List.mem_of_getElem? (i := 133) rfl)) (hw _ (List.mem_of_getElem? (i := 51) rfl)) (fun hZ' => notFace_of_selects (args := #[]) (mvT (s := s.setVm _) hZ' (hw _ (List.mem_of_getElem? (i := 53) rfl)))) (hw _ (List.mem_of_getElem? (i := 53) rfl)) (hw _ (List.mem_of_getElem? (i := 52) rfl)) (hw _ (List.mem_of_getElem? (i := 11) rfl)) (hw _ (List.mem_of_getElem? (i := 54) rfl)) (a := d16) (argsL := []) (rest := []) M16.exa (c_length (ss := []) g W16.old (cs := []) M16) at_175 (by decide) (fun _ q => nomatch q) rfl (lenOf pd_12 rfl) (own_le rfl) (own_le rfl) (own_le rfl) (own_le rfl) rfl ?_
      intro T17 h17 v17 W17 z17 q17
      obtain ⟨_, rfl, rfl, rfl⟩ := q17
      show Fi p e below s Z _ _ _ _ T17 (mkF m 178 #[.val (.int p0), .val (.int p1), .val (.int p2), .val (.int p3), .val (.int p4), .val (.int (1 : Int32)), .val (.ref a1), .val (.ref a13), .val (.int (0 : Int32)), .val (.ref d16), .val (.int (0 : Int32))] [(.int (0 : Int32))])
      refine W17.iload me at_178 rfl ?_
      show Fi p e below s Z _ _ _ _ T17 (mkF m 180 #[.val (.int p0), .val (.int p1), .val (.int p2), .val (.int p3), .val (.int p4), .val (.int (1 : Int32)), .val (.ref a1), .val (.ref a13), .val (.int (0 : Int32)), .val (.ref d16), .val (.int (0 : Int32))] [(.int (0 : Int32)), (.int (0 : Int32))])
      refine W17.icY_eq me at_180 (by decide) (pc' := 185) (by decide) (by decide) ?_
      show Fi p e below s Z _ _ _ _ T17 (mkF m 185 #[.val (.int p0), .val (.int p1), .val (.int p2), .val (.int p3), .val (.int p4), .val (.int (1 : Int32)), .val (.ref a1), .val (.ref a13), .val (.int (0 : Int32)), .val (.ref d16), .val (.int (0 : Int32))] [])
      refine W17.iload me at_185 rfl ?_
      show Fi p e below s Z _ _ _ _ T17 (mkF m 187 #[.val (.int p0), .val (.int p1), .val (.int p2), .val (.int p3), .val (.int p4), .val (.int (1 : Int32)), .val (.ref a1), .val (.ref a13), .val (.int (0 : Int32)), .val (.ref d16), .val (.int (0 : Int32))] [(.int (0 : Int32))])
      refine W17.ifY_le me at_187 (by decide) (pc' := 208) (by decide) (by decide) ?_
      show Fi p e below s Z _ _ _ _ T17 (mkF m 208 #[.val (.int p0), .val (.int p1), .val (.int p2), .val (.int p3), .val (.int p4), .val (.int (1 : Int32)), .val (.ref a1), .val (.ref a13), .val (.int (0 : Int32)), .val (.ref d16), .val (.int (0 : Int32))] [])
      refine W17.iload me at_208 rfl ?_
      refine W17.iconst me at_210 (v := 1) rfl ?_
      show Fi p e below s Z _ _ _ _ T17 (mkF m 211 #[.val (.int p0), .val (.int p1), .val (.int p2), .val (.int p3), .val (.int p4), .val (.int (1 : Int32)), .val (.ref a1), .val (.ref a13), .val (.int (0 : Int32)), .val (.ref d16), .val (.int (0 : Int32))] [(.int (1 : Int32)), (.int (0 : Int32))])
      refine W17.icY_le me at_211 (by decide) (pc' := 232) (by decide) (by decide) ?_
      show Fi p e below s Z _ _ _ _ T17 (mkF m 232 #[.val (.int p0), .val (.int p1), .val (.int p2), .val (.int p3), .val (.int p4), .val (.int (1 : Int32)), .val (.ref a1), .val (.ref a13), .val (.int (0 : Int32)), .val (.ref d16), .val (.int (0 : Int32))] [])
      refine W17.iload me at_232 rfl ?_
      refine W17.iconst me at_234 (v := 2) rfl ?_
      show Fi p e below s Z _ _ _ _ T17 (mkF m 235 #[.val (.int p0), .val (.int p1), .val (.int p2), .val (.int p3), .val (.int p4), .val (.int (1 : Int32)), .val (.ref a1), .val (.ref a13), .val (.int (0 : Int32)), .val (.ref d16), .val (.int (0 : Int32))] [(.int (2 : Int32)), (.int (0 : Int32))])
      refine W17.icY_le me at_235 (by decide) (pc' := 256) (by decide) (by decide) ?_
      show Fi p e below s Z _ _ _ _ T17 (mkF m 256 #[.val (.int p0), .val (.int p1), .val (.int p2), .val (.int p3), .val (.int p4), .val (.int (1 : Int32)), .val (.ref a1), .val (.ref a13), .val (.int (0 : Int32)), .val (.ref d16), .val (.int (0 : Int32))] [])
      refine W17.iconst me at_256 (v := 1) rfl ?_
      show Fi p e below s Z _ _ _ _ T17 (mkF m 257 #[.val (.int p0), .val (.int p1), .val (.int p2), .val (.int p3), .val (.int p4), .val (.int (1 : Int32)), .val (.ref a1), .val (.ref a13), .val (.int (0 : Int32)), .val (.ref d16), .val (.int (0 : Int32))] [(.int (1 : Int32))])
      exact W17.retN hEL me (Or.inl rfl) at_257 rfl (by decide) (by decide)
  ·
    show Fi p e below s Z _ _ _ _ T9 (mkF m 46 #[.val (.int p0), .val (.int p1), .val (.int p2), .val (.int p3), .val (.int p4), .val (.int (2 : Int32)), .val (.ref a1), .unset, .unset, .unset, .unset] [])
    refine W9.iload me at_46 rfl ?_
    refine W9.aload me at_48 rfl rfl ?_
    refine W9.iconst me at_50 (v := 0) rfl ?_
    show Fi p e below s Z _ _ _ _ T9 (mkF m 51 #[.val (.int p0), .val (.int p1), .val (.int p2), .val (.int p3), .val (.int p4), .val (.int (2 : Int32)), .val (.ref a1), .unset, .unset, .unset, .unset] [(.int (0 : Int32)), (.ref a1), (.int (2 : Int32))])
    refine W9.caload me A9 at_51 (by decide) (v := .int c0) rfl ?_
    show Fi p e below s Z _ _ _ _ T9 (mkF m 52 #[.val (.int p0), .val (.int p1), .val (.int p2), .val (.int p3), .val (.int p4), .val (.int (2 : Int32)), .val (.ref a1), .unset, .unset, .unset, .unset] [(.int c0), (.int (2 : Int32))])
    refine W9.aload me at_52 rfl rfl ?_
    refine W9.iconst me at_54 (v := 1) rfl ?_
    show Fi p e below s Z _ _ _ _ T9 (mkF m 55 #[.val (.int p0), .val (.int p1), .val (.int p2), .val (.int p3), .val (.int p4), .val (.int (2 : Int32)), .val (.ref a1), .unset, .unset, .unset, .unset] [(.int (1 : Int32)), (.ref a1), (.int c0), (.int (2 : Int32))])
    refine W9.caload me A9 at_55 (by decide) (v := .int c1) rfl ?_
    show Fi p e below s Z _ _ _ _ T9 (mkF m 56 #[.val (.int p0), .val (.int p1), .val (.int p2), .val (.int p3), .val (.int p4), .val (.int (2 : Int32)), .val (.ref a1), .unset, .unset, .unset, .unset] [(.int c1), (.int c0), (.int (2 : Int32))])
    refine W9.aload me at_56 rfl rfl ?_
    refine W9.iconst me at_58 (v := 2) rfl ?_
    show Fi p e below s Z _ _ _ _ T9 (mkF m 59 #[.val (.int p0), .val (.int p1), .val (.int p2), .val (.int p3), .val (.int p4), .val (.int (2 : Int32)), .val (.ref a1), .unset, .unset, .unset, .unset] [(.int (2 : Int32)), (.ref a1), (.int c1), (.int c0), (.int (2 : Int32))])
    refine W9.caload me A9 at_59 (by decide) (v := .int c2) rfl ?_
    show Fi p e below s Z _ _ _ _ T9 (mkF m 60 #[.val (.int p0), .val (.int p1), .val (.int p2), .val (.int p3), .val (.int p4), .val (.int (2 : Int32)), .val (.ref a1), .unset, .unset, .unset, .unset] [(.int c2), (.int c1), (.int c0), (.int (2 : Int32))])
    refine W9.aload me at_60 rfl rfl ?_
    refine W9.iconst me at_62 (v := 3) rfl ?_
    show Fi p e below s Z _ _ _ _ T9 (mkF m 63 #[.val (.int p0), .val (.int p1), .val (.int p2), .val (.int p3), .val (.int p4), .val (.int (2 : Int32)), .val (.ref a1), .unset, .unset, .unset, .unset] [(.int (3 : Int32)), (.ref a1), (.int c2), (.int c1), (.int c0), (.int (2 : Int32))])
    refine W9.caload me A9 at_63 (by decide) (v := .int c3) rfl ?_
    show Fi p e below s Z _ _ _ _ T9 (mkF m 64 #[.val (.int p0), .val (.int p1), .val (.int p2), .val (.int p3), .val (.int p4), .val (.int (2 : Int32)), .val (.ref a1), .unset, .unset, .unset, .unset] [(.int c3), (.int c2), (.int c1), (.int c0), (.int (2 : Int32))])
    refine W9.callS me hEL (hw _ (List.mem_of_getElem? (i := 6) rfl)) (hw _ (List.mem_of_getElem? (i := 7) rfl)) (hw _ (List.mem_of_getElem? (i := 4) rfl)) (hw _ (List.mem_of_getElem? (i := 8) rfl)) (argsL := [(.int (2 : Int32)), (.int c0), (.int c1), (.int c2), (.int c3)]) (rest := []) (c_str2 (ss := []) g W9.old q0 q1 q2 q3) at_64 (by decide) (fun _ q => nomatch q) rfl (lenOf pd_23 rfl) (own_le rfl) (own_le rfl) (own_le rfl) (own_le rfl) rfl ?_
    intro T18 h18 v18 W18 z18 q18
    obtain ⟨_, rfl, E18, a18, rfl, L18⟩ := q18
    show Fi p e below s Z _ _ _ _ T18 (mkF m 67 #[.val (.int p0), .val (.int p1), .val (.int p2), .val (.int p3), .val (.int p4), .val (.int (2 : Int32)), .val (.ref a1), .unset, .unset, .unset, .unset] [(.ref a18)])
    replace A9 := A9.ext E18
    refine W18.astore me at_67 (l' := #[.val (.int p0), .val (.int p1), .val (.int p2), .val (.int p3), .val (.int p4), .val (.int (2 : Int32)), .val (.ref a1), .val (.ref a18), .unset, .unset, .unset]) rfl rfl ?_
    refine W18.iload me at_69 rfl ?_
    refine W18.istore me at_71 (l' := #[.val (.int p0), .val (.int p1), .val (.int p2), .val (.int p3), .val (.int p4), .val (.int (2 : Int32)), .val (.ref a1), .val (.ref a18), .val (.int (2 : Int32)), .unset, .unset]) rfl ?_
    refine W18.iload me at_73 rfl ?_
    refine W18.iconst me at_75 (v := 3) rfl ?_
    show Fi p e below s Z _ _ _ _ T18 (mkF m 76 #[.val (.int p0), .val (.int p1), .val (.int p2), .val (.int p3), .val (.int p4), .val (.int (2 : Int32)), .val (.ref a1), .val (.ref a18), .val (.int (2 : Int32)), .unset, .unset] [(.int (3 : Int32)), (.int (2 : Int32))])
    refine W18.icY_le me at_76 (by decide) (pc' := 91) (by decide) (by decide) ?_
    show Fi p e below s Z _ _ _ _ T18 (mkF m 91 #[.val (.int p0), .val (.int p1), .val (.int p2), .val (.int p3), .val (.int p4), .val (.int (2 : Int32)), .val (.ref a1), .val (.ref a18), .val (.int (2 : Int32)), .unset, .unset] [])
    refine W18.iload me at_91 rfl ?_
    refine W18.iconst me at_93 (v := 2) rfl ?_
    show Fi p e below s Z _ _ _ _ T18 (mkF m 94 #[.val (.int p0), .val (.int p1), .val (.int p2), .val (.int p3), .val (.int p4), .val (.int (2 : Int32)), .val (.ref a1), .val (.ref a18), .val (.int (2 : Int32)), .unset, .unset] [(.int (2 : Int32)), (.int (2 : Int32))])
    refine W18.icY_le me at_94 (by decide) (pc' := 109) (by decide) (by decide) ?_
    show Fi p e below s Z _ _ _ _ T18 (mkF m 109 #[.val (.int p0), .val (.int p1), .val (.int p2), .val (.int p3), .val (.int p4), .val (.int (2 : Int32)), .val (.ref a1), .val (.ref a18), .val (.int (2 : Int32)), .unset, .unset] [])
    refine W18.iload me at_109 rfl ?_
    refine W18.iconst me at_111 (v := 1) rfl ?_
    show Fi p e below s Z _ _ _ _ T18 (mkF m 112 #[.val (.int p0), .val (.int p1), .val (.int p2), .val (.int p3), .val (.int p4), .val (.int (2 : Int32)), .val (.ref a1), .val (.ref a18), .val (.int (2 : Int32)), .unset, .unset] [(.int (1 : Int32)), (.int (2 : Int32))])
    refine W18.icN_le me at_112 (by decide) ?_
    show Fi p e below s Z _ _ _ _ T18 (mkF m 115 #[.val (.int p0), .val (.int p1), .val (.int p2), .val (.int p3), .val (.int p4), .val (.int (2 : Int32)), .val (.ref a1), .val (.ref a18), .val (.int (2 : Int32)), .unset, .unset] [])
    refine W18.aload me at_115 rfl rfl ?_
    refine W18.iconst me at_117 (v := 1) rfl ?_
    show Fi p e below s Z _ _ _ _ T18 (mkF m 118 #[.val (.int p0), .val (.int p1), .val (.int p2), .val (.int p3), .val (.int p4), .val (.int (2 : Int32)), .val (.ref a1), .val (.ref a18), .val (.int (2 : Int32)), .unset, .unset] [(.int (1 : Int32)), (.ref a1)])
    refine W18.caload me A9 at_118 (by decide) (v := .int c1) rfl ?_
    show Fi p e below s Z _ _ _ _ T18 (mkF m 119 #[.val (.int p0), .val (.int p1), .val (.int p2), .val (.int p3), .val (.int p4), .val (.int (2 : Int32)), .val (.ref a1), .val (.ref a18), .val (.int (2 : Int32)), .unset, .unset] [(.int c1)])
    refine W18.bipush me at_119 (v := 35) rfl ?_
    show Fi p e below s Z _ _ _ _ T18 (mkF m 121 #[.val (.int p0), .val (.int p1), .val (.int p2), .val (.int p3), .val (.int p4), .val (.int (2 : Int32)), .val (.ref a1), .val (.ref a18), .val (.int (2 : Int32)), .unset, .unset] [(.int (35 : Int32)), (.int c1)])
    refine W18.ic_ne me at_121 (pc' := 127) (by decide) (by decide) (fun hh1 => ?_) (fun hh1 => ?_)
    ·
      show Fi p e below s Z _ _ _ _ T18 (mkF m 127 #[.val (.int p0), .val (.int p1), .val (.int p2), .val (.int p3), .val (.int p4), .val (.int (2 : Int32)), .val (.ref a1), .val (.ref a18), .val (.int (2 : Int32)), .unset, .unset] [])
      refine W18.iload me at_127 rfl ?_
      show Fi p e below s Z _ _ _ _ T18 (mkF m 129 #[.val (.int p0), .val (.int p1), .val (.int p2), .val (.int p3), .val (.int p4), .val (.int (2 : Int32)), .val (.ref a1), .val (.ref a18), .val (.int (2 : Int32)), .unset, .unset] [(.int (2 : Int32))])
      refine W18.ifN_le me at_129 (by decide) ?_
      show Fi p e below s Z _ _ _ _ T18 (mkF m 132 #[.val (.int p0), .val (.int p1), .val (.int p2), .val (.int p3), .val (.int p4), .val (.int (2 : Int32)), .val (.ref a1), .val (.ref a18), .val (.int (2 : Int32)), .unset, .unset] [])
      refine W18.aload me at_132 rfl rfl ?_
      refine W18.iconst me at_134 (v := 0) rfl ?_
      show Fi p e below s Z _ _ _ _ T18 (mkF m 135 #[.val (.int p0), .val (.int p1), .val (.int p2), .val (.int p3), .val (.int p4), .val (.int (2 : Int32)), .val (.ref a1), .val (.ref a18), .val (.int (2 : Int32)), .unset, .unset] [(.int (0 : Int32)), (.ref a1)])
      refine W18.caload me A9 at_135 (by decide) (v := .int c0) rfl ?_
      show Fi p e below s Z _ _ _ _ T18 (mkF m 136 #[.val (.int p0), .val (.int p1), .val (.int p2), .val (.int p3), .val (.int p4), .val (.int (2 : Int32)), .val (.ref a1), .val (.ref a18), .val (.int (2 : Int32)), .unset, .unset] [(.int c0)])
      refine W18.bipush me at_136 (v := 35) rfl ?_
      show Fi p e below s Z _ _ _ _ T18 (mkF m 138 #[.val (.int p0), .val (.int p1), .val (.int p2), .val (.int p3), .val (.int p4), .val (.int (2 : Int32)), .val (.ref a1), .val (.ref a18), .val (.int (2 : Int32)), .unset, .unset] [(.int (35 : Int32)), (.int c0)])
      refine W18.ic_ne me at_138 (pc' := 144) (by decide) (by decide) (fun hh0 => ?_) (fun hh0 => ?_)
      ·
        show Fi p e below s Z _ _ _ _ T18 (mkF m 144 #[.val (.int p0), .val (.int p1), .val (.int p2), .val (.int p3), .val (.int p4), .val (.int (2 : Int32)), .val (.ref a1), .val (.ref a18), .val (.int (2 : Int32)), .unset, .unset] [])
        refine W18.aload me at_144 rfl rfl ?_
        show Fi p e below s Z _ _ _ _ T18 (mkF m 146 #[.val (.int p0), .val (.int p1), .val (.int p2), .val (.int p3), .val (.int p4), .val (.int (2 : Int32)), .val (.ref a1), .val (.ref a18), .val (.int (2 : Int32)), .unset, .unset] [(.ref a18)])
        show Fi p e below s Z _ _ _ _ T18 (mkF m 146 #[.val (.int p0), .val (.int p1), .val (.int p2), .val (.int p3), .val (.int p4), .val (.int (2 : Int32)), .val (.ref a1), .val (.ref a18), .val (.int (2 : Int32)), .unset, .unset] [(.ref a18)])
        refine W18.callS me hEL (hw _ (List.mem_of_getElem? (i := 30) rfl)) (hw _ (List.mem_of_getElem? (i := 31) rfl)) (hw _ (List.mem_of_getElem? (i := 32) rfl)) (hw _ (List.mem_of_getElem? (i := 33) rfl)) (argsL := [(.ref a18)]) (rest := []) (c_fr0 (ss := []) g W18.old (cs := [c0, c1]) L18 (alS (alS al0 hh0) hh1)) at_146 (by decide) (fun _ q => nomatch q) rfl (lenOf pd_24 rfl) (own_le rfl) (own_le rfl) (own_le rfl) (own_le rfl) rfl ?_
        intro T19 h19 v19 W19 z19 q19
        obtain ⟨_, rfl, E19, d19, rfl, M19⟩ := q19
        show Fi p e below s Z _ _ _ _ T19 (mkF m 149 #[.val (.int p0), .val (.int p1), .val (.int p2), .val (.int p3), .val (.int p4), .val (.int (2 : Int32)), .val (.ref a1), .val (.ref a18), .val (.int (2 : Int32)), .unset, .unset] [(.ref d19)])
        refine W19.astore me at_149 (l' := #[.val (.int p0), .val (.int p1), .val (.int p2), .val (.int p3), .val (.int p4), .val (.int (2 : Int32)), .val (.ref a1), .val (.ref a18), .val (.int (2 : Int32)), .val (.ref d19), .unset]) rfl rfl ?_
        refine W19.iload me at_151 rfl ?_
        refine W19.iload me at_153 rfl ?_
        show Fi p e below s Z _ _ _ _ T19 (mkF m 155 #[.val (.int p0), .val (.int p1), .val (.int p2), .val (.int p3), .val (.int p4), .val (.int (2 : Int32)), .val (.ref a1), .val (.ref a18), .val (.int (2 : Int32)), .val (.ref d19), .unset] [(.int (2 : Int32)), (.int (2 : Int32))])
        refine W19.icN_ne me at_155 (by decide) ?_
        show Fi p e below s Z _ _ _ _ T19 (mkF m 158 #[.val (.int p0), .val (.int p1), .val (.int p2), .val (.int p3), .val (.int p4), .val (.int (2 : Int32)), .val (.ref a1), .val (.ref a18), .val (.int (2 : Int32)), .val (.ref d19), .unset] [])
        refine W19.aload me at_158 rfl rfl ?_
        show Fi p e below s Z _ _ _ _ T19 (mkF m 160 #[.val (.int p0), .val (.int p1), .val (.int p2), .val (.int p3), .val (.int p4), .val (.int (2 : Int32)), .val (.ref a1), .val (.ref a18), .val (.int (2 : Int32)), .val (.ref d19), .unset] [(.ref d19)])
        refine W19.callV me hEL (hw _ (List.mem_of_getElem? (i := 75) rfl)) (hw _ (List.mem_of_getElem? (i := 76) rfl)) (fun hZ' => notFace_of_selects (args := #[]) (mvT (s := s.setVm _) hZ' (hw _ (List.mem_of_getElem? (i := 78) rfl)))) (hw _ (List.mem_of_getElem? (i := 78) rfl)) (hw _ (List.mem_of_getElem? (i := 77) rfl)) (hw _ (List.mem_of_getElem? (i := 11) rfl)) (hw _ (List.mem_of_getElem? (i := 79) rfl)) (a := d19) (argsL := []) (rest := []) M19.exa (c_isempty (ss := []) g W19.old M19) at_160 (by decide) (fun _ q => nomatch q) rfl (lenOf pd_7 rfl) (own_le rfl) (own_le rfl) (own_le rfl) (own_le rfl) rfl ?_
        intro T20 h20 v20 W20 z20 q20
        obtain ⟨_, rfl, rfl, rfl⟩ := q20
        show Fi p e below s Z _ _ _ _ T20 (mkF m 163 #[.val (.int p0), .val (.int p1), .val (.int p2), .val (.int p3), .val (.int p4), .val (.int (2 : Int32)), .val (.ref a1), .val (.ref a18), .val (.int (2 : Int32)), .val (.ref d19), .unset] [(.int (1 : Int32))])
        exact W20.retN hEL me (Or.inl rfl) at_163 rfl (by decide) (by decide)
      ·
        show Fi p e below s Z _ _ _ _ T18 (mkF m 141 #[.val (.int p0), .val (.int p1), .val (.int p2), .val (.int p3), .val (.int p4), .val (.int (2 : Int32)), .val (.ref a1), .val (.ref a18), .val (.int (2 : Int32)), .unset, .unset] [])
        refine W18.iconst me at_141 (v := 0) rfl ?_
        refine W18.istore me at_142 (l' := #[.val (.int p0), .val (.int p1), .val (.int p2), .val (.int p3), .val (.int p4), .val (.int (2 : Int32)), .val (.ref a1), .val (.ref a18), .val (.int (0 : Int32)), .unset, .unset]) rfl ?_
        refine W18.aload me at_144 rfl rfl ?_
        show Fi p e below s Z _ _ _ _ T18 (mkF m 146 #[.val (.int p0), .val (.int p1), .val (.int p2), .val (.int p3), .val (.int p4), .val (.int (2 : Int32)), .val (.ref a1), .val (.ref a18), .val (.int (0 : Int32)), .unset, .unset] [(.ref a18)])
        show Fi p e below s Z _ _ _ _ T18 (mkF m 146 #[.val (.int p0), .val (.int p1), .val (.int p2), .val (.int p3), .val (.int p4), .val (.int (2 : Int32)), .val (.ref a1), .val (.ref a18), .val (.int (0 : Int32)), .unset, .unset] [(.ref a18)])
        refine W18.callS me hEL (hw _ (List.mem_of_getElem? (i := 30) rfl)) (hw _ (List.mem_of_getElem? (i := 31) rfl)) (hw _ (List.mem_of_getElem? (i := 32) rfl)) (hw _ (List.mem_of_getElem? (i := 33) rfl)) (argsL := [(.ref a18)]) (rest := []) (c_fr1 (ss := []) g W18.old (cs := [c0, c1]) L18 0 1 (own_le rfl) hh0 al0 (by decide) rfl) at_146 (by decide) (fun _ q => nomatch q) rfl (lenOf pd_24 rfl) (own_le rfl) (own_le rfl) (own_le rfl) (own_le rfl) rfl ?_
        intro T21 h21 v21 W21 z21 q21
        obtain ⟨_, rfl, E21, d21, rfl, M21⟩ := q21
        show Fi p e below s Z _ _ _ _ T21 (mkF m 149 #[.val (.int p0), .val (.int p1), .val (.int p2), .val (.int p3), .val (.int p4), .val (.int (2 : Int32)), .val (.ref a1), .val (.ref a18), .val (.int (0 : Int32)), .unset, .unset] [(.ref d21)])
        replace A9 := A9.ext E21
        replace L18 := L18.ext E21
        refine W21.astore me at_149 (l' := #[.val (.int p0), .val (.int p1), .val (.int p2), .val (.int p3), .val (.int p4), .val (.int (2 : Int32)), .val (.ref a1), .val (.ref a18), .val (.int (0 : Int32)), .val (.ref d21), .unset]) rfl rfl ?_
        refine W21.iload me at_151 rfl ?_
        refine W21.iload me at_153 rfl ?_
        show Fi p e below s Z _ _ _ _ T21 (mkF m 155 #[.val (.int p0), .val (.int p1), .val (.int p2), .val (.int p3), .val (.int p4), .val (.int (2 : Int32)), .val (.ref a1), .val (.ref a18), .val (.int (0 : Int32)), .val (.ref d21), .unset] [(.int (2 : Int32)), (.int (0 : Int32))])
        refine W21.icY_ne me at_155 (by decide) (pc' := 164) (by decide) (by decide) ?_
        show Fi p e below s Z _ _ _ _ T21 (mkF m 164 #[.val (.int p0), .val (.int p1), .val (.int p2), .val (.int p3), .val (.int p4), .val (.int (2 : Int32)), .val (.ref a1), .val (.ref a18), .val (.int (0 : Int32)), .val (.ref d21), .unset] [])
        refine W21.iload me at_164 rfl ?_
        refine W21.iload me at_166 rfl ?_
        refine W21.isub me at_168 ?_
        refine W21.iconst me at_169 (v := 1) rfl ?_
        refine W21.isub me at_170 ?_
        show Fi p e below s Z _ _ _ _ T21 (mkF m 171 #[.val (.int p0), .val (.int p1), .val (.int p2), .val (.int p3), .val (.int p4), .val (.int (2 : Int32)), .val (.ref a1), .val (.ref a18), .val (.int (0 : Int32)), .val (.ref d21), .unset] [(.int (((2 : Int32) - (0 : Int32)) - (1 : Int32)))])
        show Fi p e below s Z _ _ _ _ T21 (mkF m 171 #[.val (.int p0), .val (.int p1), .val (.int p2), .val (.int p3), .val (.int p4), .val (.int (2 : Int32)), .val (.ref a1), .val (.ref a18), .val (.int (0 : Int32)), .val (.ref d21), .unset] [(.int (1 : Int32))])
        refine W21.istore me at_171 (l' := #[.val (.int p0), .val (.int p1), .val (.int p2), .val (.int p3), .val (.int p4), .val (.int (2 : Int32)), .val (.ref a1), .val (.ref a18), .val (.int (0 : Int32)), .val (.ref d21), .val (.int (1 : Int32))]) rfl ?_
        refine W21.aload me at_173 rfl rfl ?_
        show Fi p e below s Z _ _ _ _ T21 (mkF m 175 #[.val (.int p0), .val (.int p1), .val (.int p2), .val (.int p3), .val (.int p4), .val (.int (2 : Int32)), .val (.ref a1), .val (.ref a18), .val (.int (0 : Int32)), .val (.ref d21), .val (.int (1 : Int32))] [(.ref d21)])
        refine W21.callV me hEL (hw _ (List.mem_of_getElem? (i := 133) rfl)) (hw _ (List.mem_of_getElem? (i := 51) rfl)) (fun hZ' => notFace_of_selects (args := #[]) (mvT (s := s.setVm _) hZ' (hw _ (List.mem_of_getElem? (i := 53) rfl)))) (hw _ (List.mem_of_getElem? (i := 53) rfl)) (hw _ (List.mem_of_getElem? (i := 52) rfl)) (hw _ (List.mem_of_getElem? (i := 11) rfl)) (hw _ (List.mem_of_getElem? (i := 54) rfl)) (a := d21) (argsL := []) (rest := []) M21.exa (c_length (ss := []) g W21.old (cs := [c1]) M21) at_175 (by decide) (fun _ q => nomatch q) rfl (lenOf pd_12 rfl) (own_le rfl) (own_le rfl) (own_le rfl) (own_le rfl) rfl ?_
        intro T22 h22 v22 W22 z22 q22
        obtain ⟨_, rfl, rfl, rfl⟩ := q22
        show Fi p e below s Z _ _ _ _ T22 (mkF m 178 #[.val (.int p0), .val (.int p1), .val (.int p2), .val (.int p3), .val (.int p4), .val (.int (2 : Int32)), .val (.ref a1), .val (.ref a18), .val (.int (0 : Int32)), .val (.ref d21), .val (.int (1 : Int32))] [(.int (1 : Int32))])
        refine W22.iload me at_178 rfl ?_
        show Fi p e below s Z _ _ _ _ T22 (mkF m 180 #[.val (.int p0), .val (.int p1), .val (.int p2), .val (.int p3), .val (.int p4), .val (.int (2 : Int32)), .val (.ref a1), .val (.ref a18), .val (.int (0 : Int32)), .val (.ref d21), .val (.int (1 : Int32))] [(.int (1 : Int32)), (.int (1 : Int32))])
        refine W22.icY_eq me at_180 (by decide) (pc' := 185) (by decide) (by decide) ?_
        show Fi p e below s Z _ _ _ _ T22 (mkF m 185 #[.val (.int p0), .val (.int p1), .val (.int p2), .val (.int p3), .val (.int p4), .val (.int (2 : Int32)), .val (.ref a1), .val (.ref a18), .val (.int (0 : Int32)), .val (.ref d21), .val (.int (1 : Int32))] [])
        refine W22.iload me at_185 rfl ?_
        show Fi p e below s Z _ _ _ _ T22 (mkF m 187 #[.val (.int p0), .val (.int p1), .val (.int p2), .val (.int p3), .val (.int p4), .val (.int (2 : Int32)), .val (.ref a1), .val (.ref a18), .val (.int (0 : Int32)), .val (.ref d21), .val (.int (1 : Int32))] [(.int (1 : Int32))])
        refine W22.ifN_le me at_187 (by decide) ?_
        show Fi p e below s Z _ _ _ _ T22 (mkF m 190 #[.val (.int p0), .val (.int p1), .val (.int p2), .val (.int p3), .val (.int p4), .val (.int (2 : Int32)), .val (.ref a1), .val (.ref a18), .val (.int (0 : Int32)), .val (.ref d21), .val (.int (1 : Int32))] [])
        refine W22.aload me at_190 rfl rfl ?_
        refine W22.iconst me at_192 (v := 0) rfl ?_
        show Fi p e below s Z _ _ _ _ T22 (mkF m 193 #[.val (.int p0), .val (.int p1), .val (.int p2), .val (.int p3), .val (.int p4), .val (.int (2 : Int32)), .val (.ref a1), .val (.ref a18), .val (.int (0 : Int32)), .val (.ref d21), .val (.int (1 : Int32))] [(.int (0 : Int32)), (.ref d21)])
        refine W22.callV me hEL (hw _ (List.mem_of_getElem? (i := 134) rfl)) (hw _ (List.mem_of_getElem? (i := 135) rfl)) (fun hZ' => notFace_of_selects (args := #[]) (mvT (s := s.setVm _) hZ' (hw _ (List.mem_of_getElem? (i := 137) rfl)))) (hw _ (List.mem_of_getElem? (i := 137) rfl)) (hw _ (List.mem_of_getElem? (i := 136) rfl)) (hw _ (List.mem_of_getElem? (i := 11) rfl)) (hw _ (List.mem_of_getElem? (i := 138) rfl)) (a := d21) (argsL := [(.int (0 : Int32))]) (rest := []) M21.exa (c_charat (ss := []) g W22.old (cs := [c1]) (i := 0) M21 (own_le rfl)) at_193 (by decide) (fun _ q => nomatch q) rfl (lenOf pd_22 rfl) (own_le rfl) (own_le rfl) (own_le rfl) (own_le rfl) rfl ?_
        intro T23 h23 v23 W23 z23 q23
        obtain ⟨_, rfl, rfl, rfl⟩ := q23
        show Fi p e below s Z _ _ _ _ T23 (mkF m 196 #[.val (.int p0), .val (.int p1), .val (.int p2), .val (.int p3), .val (.int p4), .val (.int (2 : Int32)), .val (.ref a1), .val (.ref a18), .val (.int (0 : Int32)), .val (.ref d21), .val (.int (1 : Int32))] [(.int c1)])
        refine W23.aload me at_196 rfl rfl ?_
        refine W23.iload me at_198 rfl ?_
        refine W23.iconst me at_200 (v := 1) rfl ?_
        refine W23.iadd me at_201 ?_
        show Fi p e below s Z _ _ _ _ T23 (mkF m 202 #[.val (.int p0), .val (.int p1), .val (.int p2), .val (.int p3), .val (.int p4), .val (.int (2 : Int32)), .val (.ref a1), .val (.ref a18), .val (.int (0 : Int32)), .val (.ref d21), .val (.int (1 : Int32))] [(.int ((0 : Int32) + (1 : Int32))), (.ref a1), (.int c1)])
        show Fi p e below s Z _ _ _ _ T23 (mkF m 202 #[.val (.int p0), .val (.int p1), .val (.int p2), .val (.int p3), .val (.int p4), .val (.int (2 : Int32)), .val (.ref a1), .val (.ref a18), .val (.int (0 : Int32)), .val (.ref d21), .val (.int (1 : Int32))] [(.int (1 : Int32)), (.ref a1), (.int c1)])
        refine W23.caload me A9 at_202 (by decide) (v := .int c1) rfl ?_
        show Fi p e below s Z _ _ _ _ T23 (mkF m 203 #[.val (.int p0), .val (.int p1), .val (.int p2), .val (.int p3), .val (.int p4), .val (.int (2 : Int32)), .val (.ref a1), .val (.ref a18), .val (.int (0 : Int32)), .val (.ref d21), .val (.int (1 : Int32))] [(.int c1), (.int c1)])
        refine W23.icY_eq me at_203 rfl (pc' := 208) (by decide) (by decide) ?_
        show Fi p e below s Z _ _ _ _ T23 (mkF m 208 #[.val (.int p0), .val (.int p1), .val (.int p2), .val (.int p3), .val (.int p4), .val (.int (2 : Int32)), .val (.ref a1), .val (.ref a18), .val (.int (0 : Int32)), .val (.ref d21), .val (.int (1 : Int32))] [])
        refine W23.iload me at_208 rfl ?_
        refine W23.iconst me at_210 (v := 1) rfl ?_
        show Fi p e below s Z _ _ _ _ T23 (mkF m 211 #[.val (.int p0), .val (.int p1), .val (.int p2), .val (.int p3), .val (.int p4), .val (.int (2 : Int32)), .val (.ref a1), .val (.ref a18), .val (.int (0 : Int32)), .val (.ref d21), .val (.int (1 : Int32))] [(.int (1 : Int32)), (.int (1 : Int32))])
        refine W23.icY_le me at_211 (by decide) (pc' := 232) (by decide) (by decide) ?_
        show Fi p e below s Z _ _ _ _ T23 (mkF m 232 #[.val (.int p0), .val (.int p1), .val (.int p2), .val (.int p3), .val (.int p4), .val (.int (2 : Int32)), .val (.ref a1), .val (.ref a18), .val (.int (0 : Int32)), .val (.ref d21), .val (.int (1 : Int32))] [])
        refine W23.iload me at_232 rfl ?_
        refine W23.iconst me at_234 (v := 2) rfl ?_
        show Fi p e below s Z _ _ _ _ T23 (mkF m 235 #[.val (.int p0), .val (.int p1), .val (.int p2), .val (.int p3), .val (.int p4), .val (.int (2 : Int32)), .val (.ref a1), .val (.ref a18), .val (.int (0 : Int32)), .val (.ref d21), .val (.int (1 : Int32))] [(.int (2 : Int32)), (.int (1 : Int32))])
        refine W23.icY_le me at_235 (by decide) (pc' := 256) (by decide) (by decide) ?_
        show Fi p e below s Z _ _ _ _ T23 (mkF m 256 #[.val (.int p0), .val (.int p1), .val (.int p2), .val (.int p3), .val (.int p4), .val (.int (2 : Int32)), .val (.ref a1), .val (.ref a18), .val (.int (0 : Int32)), .val (.ref d21), .val (.int (1 : Int32))] [])
        refine W23.iconst me at_256 (v := 1) rfl ?_
        show Fi p e below s Z _ _ _ _ T23 (mkF m 257 #[.val (.int p0), .val (.int p1), .val (.int p2), .val (.int p3), .val (.int p4), .val (.int (2 : Int32)), .val (.ref a1), .val (.ref a18), .val (.int (0 : Int32)), .val (.ref d21), .val (.int (1 : Int32))] [(.int (1 : Int32))])
        exact W23.retN hEL me (Or.inl rfl) at_257 rfl (by decide) (by decide)
    ·
      show Fi p e below s Z _ _ _ _ T18 (mkF m 124 #[.val (.int p0), .val (.int p1), .val (.int p2), .val (.int p3), .val (.int p4), .val (.int (2 : Int32)), .val (.ref a1), .val (.ref a18), .val (.int (2 : Int32)), .unset, .unset] [])
      refine W18.iconst me at_124 (v := 1) rfl ?_
      refine W18.istore me at_125 (l' := #[.val (.int p0), .val (.int p1), .val (.int p2), .val (.int p3), .val (.int p4), .val (.int (2 : Int32)), .val (.ref a1), .val (.ref a18), .val (.int (1 : Int32)), .unset, .unset]) rfl ?_
      refine W18.iload me at_127 rfl ?_
      show Fi p e below s Z _ _ _ _ T18 (mkF m 129 #[.val (.int p0), .val (.int p1), .val (.int p2), .val (.int p3), .val (.int p4), .val (.int (2 : Int32)), .val (.ref a1), .val (.ref a18), .val (.int (1 : Int32)), .unset, .unset] [(.int (2 : Int32))])
      refine W18.ifN_le me at_129 (by decide) ?_
      show Fi p e below s Z _ _ _ _ T18 (mkF m 132 #[.val (.int p0), .val (.int p1), .val (.int p2), .val (.int p3), .val (.int p4), .val (.int (2 : Int32)), .val (.ref a1), .val (.ref a18), .val (.int (1 : Int32)), .unset, .unset] [])
      refine W18.aload me at_132 rfl rfl ?_
      refine W18.iconst me at_134 (v := 0) rfl ?_
      show Fi p e below s Z _ _ _ _ T18 (mkF m 135 #[.val (.int p0), .val (.int p1), .val (.int p2), .val (.int p3), .val (.int p4), .val (.int (2 : Int32)), .val (.ref a1), .val (.ref a18), .val (.int (1 : Int32)), .unset, .unset] [(.int (0 : Int32)), (.ref a1)])
      refine W18.caload me A9 at_135 (by decide) (v := .int c0) rfl ?_
      show Fi p e below s Z _ _ _ _ T18 (mkF m 136 #[.val (.int p0), .val (.int p1), .val (.int p2), .val (.int p3), .val (.int p4), .val (.int (2 : Int32)), .val (.ref a1), .val (.ref a18), .val (.int (1 : Int32)), .unset, .unset] [(.int c0)])
      refine W18.bipush me at_136 (v := 35) rfl ?_
      show Fi p e below s Z _ _ _ _ T18 (mkF m 138 #[.val (.int p0), .val (.int p1), .val (.int p2), .val (.int p3), .val (.int p4), .val (.int (2 : Int32)), .val (.ref a1), .val (.ref a18), .val (.int (1 : Int32)), .unset, .unset] [(.int (35 : Int32)), (.int c0)])
      refine W18.ic_ne me at_138 (pc' := 144) (by decide) (by decide) (fun hh0 => ?_) (fun hh0 => ?_)
      ·
        show Fi p e below s Z _ _ _ _ T18 (mkF m 144 #[.val (.int p0), .val (.int p1), .val (.int p2), .val (.int p3), .val (.int p4), .val (.int (2 : Int32)), .val (.ref a1), .val (.ref a18), .val (.int (1 : Int32)), .unset, .unset] [])
        refine W18.aload me at_144 rfl rfl ?_
        show Fi p e below s Z _ _ _ _ T18 (mkF m 146 #[.val (.int p0), .val (.int p1), .val (.int p2), .val (.int p3), .val (.int p4), .val (.int (2 : Int32)), .val (.ref a1), .val (.ref a18), .val (.int (1 : Int32)), .unset, .unset] [(.ref a18)])
        show Fi p e below s Z _ _ _ _ T18 (mkF m 146 #[.val (.int p0), .val (.int p1), .val (.int p2), .val (.int p3), .val (.int p4), .val (.int (2 : Int32)), .val (.ref a1), .val (.ref a18), .val (.int (1 : Int32)), .unset, .unset] [(.ref a18)])
        refine W18.callS me hEL (hw _ (List.mem_of_getElem? (i := 30) rfl)) (hw _ (List.mem_of_getElem? (i := 31) rfl)) (hw _ (List.mem_of_getElem? (i := 32) rfl)) (hw _ (List.mem_of_getElem? (i := 33) rfl)) (argsL := [(.ref a18)]) (rest := []) (c_fr1 (ss := []) g W18.old (cs := [c0, c1]) L18 1 0 (own_le rfl) hh1 (alS al0 hh0) (by decide) rfl) at_146 (by decide) (fun _ q => nomatch q) rfl (lenOf pd_24 rfl) (own_le rfl) (own_le rfl) (own_le rfl) (own_le rfl) rfl ?_
        intro T24 h24 v24 W24 z24 q24
        obtain ⟨_, rfl, E24, d24, rfl, M24⟩ := q24
        show Fi p e below s Z _ _ _ _ T24 (mkF m 149 #[.val (.int p0), .val (.int p1), .val (.int p2), .val (.int p3), .val (.int p4), .val (.int (2 : Int32)), .val (.ref a1), .val (.ref a18), .val (.int (1 : Int32)), .unset, .unset] [(.ref d24)])
        replace A9 := A9.ext E24
        replace L18 := L18.ext E24
        refine W24.astore me at_149 (l' := #[.val (.int p0), .val (.int p1), .val (.int p2), .val (.int p3), .val (.int p4), .val (.int (2 : Int32)), .val (.ref a1), .val (.ref a18), .val (.int (1 : Int32)), .val (.ref d24), .unset]) rfl rfl ?_
        refine W24.iload me at_151 rfl ?_
        refine W24.iload me at_153 rfl ?_
        show Fi p e below s Z _ _ _ _ T24 (mkF m 155 #[.val (.int p0), .val (.int p1), .val (.int p2), .val (.int p3), .val (.int p4), .val (.int (2 : Int32)), .val (.ref a1), .val (.ref a18), .val (.int (1 : Int32)), .val (.ref d24), .unset] [(.int (2 : Int32)), (.int (1 : Int32))])
        refine W24.icY_ne me at_155 (by decide) (pc' := 164) (by decide) (by decide) ?_
        show Fi p e below s Z _ _ _ _ T24 (mkF m 164 #[.val (.int p0), .val (.int p1), .val (.int p2), .val (.int p3), .val (.int p4), .val (.int (2 : Int32)), .val (.ref a1), .val (.ref a18), .val (.int (1 : Int32)), .val (.ref d24), .unset] [])
        refine W24.iload me at_164 rfl ?_
        refine W24.iload me at_166 rfl ?_
        refine W24.isub me at_168 ?_
        refine W24.iconst me at_169 (v := 1) rfl ?_
        refine W24.isub me at_170 ?_
        show Fi p e below s Z _ _ _ _ T24 (mkF m 171 #[.val (.int p0), .val (.int p1), .val (.int p2), .val (.int p3), .val (.int p4), .val (.int (2 : Int32)), .val (.ref a1), .val (.ref a18), .val (.int (1 : Int32)), .val (.ref d24), .unset] [(.int (((2 : Int32) - (1 : Int32)) - (1 : Int32)))])
        show Fi p e below s Z _ _ _ _ T24 (mkF m 171 #[.val (.int p0), .val (.int p1), .val (.int p2), .val (.int p3), .val (.int p4), .val (.int (2 : Int32)), .val (.ref a1), .val (.ref a18), .val (.int (1 : Int32)), .val (.ref d24), .unset] [(.int (0 : Int32))])
        refine W24.istore me at_171 (l' := #[.val (.int p0), .val (.int p1), .val (.int p2), .val (.int p3), .val (.int p4), .val (.int (2 : Int32)), .val (.ref a1), .val (.ref a18), .val (.int (1 : Int32)), .val (.ref d24), .val (.int (0 : Int32))]) rfl ?_
        refine W24.aload me at_173 rfl rfl ?_
        show Fi p e below s Z _ _ _ _ T24 (mkF m 175 #[.val (.int p0), .val (.int p1), .val (.int p2), .val (.int p3), .val (.int p4), .val (.int (2 : Int32)), .val (.ref a1), .val (.ref a18), .val (.int (1 : Int32)), .val (.ref d24), .val (.int (0 : Int32))] [(.ref d24)])
        refine W24.callV me hEL (hw _ (List.mem_of_getElem? (i := 133) rfl)) (hw _ (List.mem_of_getElem? (i := 51) rfl)) (fun hZ' => notFace_of_selects (args := #[]) (mvT (s := s.setVm _) hZ' (hw _ (List.mem_of_getElem? (i := 53) rfl)))) (hw _ (List.mem_of_getElem? (i := 53) rfl)) (hw _ (List.mem_of_getElem? (i := 52) rfl)) (hw _ (List.mem_of_getElem? (i := 11) rfl)) (hw _ (List.mem_of_getElem? (i := 54) rfl)) (a := d24) (argsL := []) (rest := []) M24.exa (c_length (ss := []) g W24.old (cs := []) M24) at_175 (by decide) (fun _ q => nomatch q) rfl (lenOf pd_12 rfl) (own_le rfl) (own_le rfl) (own_le rfl) (own_le rfl) rfl ?_
        intro T25 h25 v25 W25 z25 q25
        obtain ⟨_, rfl, rfl, rfl⟩ := q25
        show Fi p e below s Z _ _ _ _ T25 (mkF m 178 #[.val (.int p0), .val (.int p1), .val (.int p2), .val (.int p3), .val (.int p4), .val (.int (2 : Int32)), .val (.ref a1), .val (.ref a18), .val (.int (1 : Int32)), .val (.ref d24), .val (.int (0 : Int32))] [(.int (0 : Int32))])
        refine W25.iload me at_178 rfl ?_
        show Fi p e below s Z _ _ _ _ T25 (mkF m 180 #[.val (.int p0), .val (.int p1), .val (.int p2), .val (.int p3), .val (.int p4), .val (.int (2 : Int32)), .val (.ref a1), .val (.ref a18), .val (.int (1 : Int32)), .val (.ref d24), .val (.int (0 : Int32))] [(.int (0 : Int32)), (.int (0 : Int32))])
        refine W25.icY_eq me at_180 (by decide) (pc' := 185) (by decide) (by decide) ?_
        show Fi p e below s Z _ _ _ _ T25 (mkF m 185 #[.val (.int p0), .val (.int p1), .val (.int p2), .val (.int p3), .val (.int p4), .val (.int (2 : Int32)), .val (.ref a1), .val (.ref a18), .val (.int (1 : Int32)), .val (.ref d24), .val (.int (0 : Int32))] [])
        refine W25.iload me at_185 rfl ?_
        show Fi p e below s Z _ _ _ _ T25 (mkF m 187 #[.val (.int p0), .val (.int p1), .val (.int p2), .val (.int p3), .val (.int p4), .val (.int (2 : Int32)), .val (.ref a1), .val (.ref a18), .val (.int (1 : Int32)), .val (.ref d24), .val (.int (0 : Int32))] [(.int (0 : Int32))])
        refine W25.ifY_le me at_187 (by decide) (pc' := 208) (by decide) (by decide) ?_
        show Fi p e below s Z _ _ _ _ T25 (mkF m 208 #[.val (.int p0), .val (.int p1), .val (.int p2), .val (.int p3), .val (.int p4), .val (.int (2 : Int32)), .val (.ref a1), .val (.ref a18), .val (.int (1 : Int32)), .val (.ref d24), .val (.int (0 : Int32))] [])
        refine W25.iload me at_208 rfl ?_
        refine W25.iconst me at_210 (v := 1) rfl ?_
        show Fi p e below s Z _ _ _ _ T25 (mkF m 211 #[.val (.int p0), .val (.int p1), .val (.int p2), .val (.int p3), .val (.int p4), .val (.int (2 : Int32)), .val (.ref a1), .val (.ref a18), .val (.int (1 : Int32)), .val (.ref d24), .val (.int (0 : Int32))] [(.int (1 : Int32)), (.int (0 : Int32))])
        refine W25.icY_le me at_211 (by decide) (pc' := 232) (by decide) (by decide) ?_
        show Fi p e below s Z _ _ _ _ T25 (mkF m 232 #[.val (.int p0), .val (.int p1), .val (.int p2), .val (.int p3), .val (.int p4), .val (.int (2 : Int32)), .val (.ref a1), .val (.ref a18), .val (.int (1 : Int32)), .val (.ref d24), .val (.int (0 : Int32))] [])
        refine W25.iload me at_232 rfl ?_
        refine W25.iconst me at_234 (v := 2) rfl ?_
        show Fi p e below s Z _ _ _ _ T25 (mkF m 235 #[.val (.int p0), .val (.int p1), .val (.int p2), .val (.int p3), .val (.int p4), .val (.int (2 : Int32)), .val (.ref a1), .val (.ref a18), .val (.int (1 : Int32)), .val (.ref d24), .val (.int (0 : Int32))] [(.int (2 : Int32)), (.int (0 : Int32))])
        refine W25.icY_le me at_235 (by decide) (pc' := 256) (by decide) (by decide) ?_
        show Fi p e below s Z _ _ _ _ T25 (mkF m 256 #[.val (.int p0), .val (.int p1), .val (.int p2), .val (.int p3), .val (.int p4), .val (.int (2 : Int32)), .val (.ref a1), .val (.ref a18), .val (.int (1 : Int32)), .val (.ref d24), .val (.int (0 : Int32))] [])
        refine W25.iconst me at_256 (v := 1) rfl ?_
        show Fi p e below s Z _ _ _ _ T25 (mkF m 257 #[.val (.int p0), .val (.int p1), .val (.int p2), .val (.int p3), .val (.int p4), .val (.int (2 : Int32)), .val (.ref a1), .val (.ref a18), .val (.int (1 : Int32)), .val (.ref d24), .val (.int (0 : Int32))] [(.int (1 : Int32))])
        exact W25.retN hEL me (Or.inl rfl) at_257 rfl (by decide) (by decide)
      ·
        show Fi p e below s Z _ _ _ _ T18 (mkF m 141 #[.val (.int p0), .val (.int p1), .val (.int p2), .val (.int p3), .val (.int p4), .val (.int (2 : Int32)), .val (.ref a1), .val (.ref a18), .val (.int (1 : Int32)), .unset, .unset] [])
        refine W18.iconst me at_141 (v := 0) rfl ?_
        refine W18.istore me at_142 (l' := #[.val (.int p0), .val (.int p1), .val (.int p2), .val (.int p3), .val (.int p4), .val (.int (2 : Int32)), .val (.ref a1), .val (.ref a18), .val (.int (0 : Int32)), .unset, .unset]) rfl ?_
        refine W18.aload me at_144 rfl rfl ?_
        show Fi p e below s Z _ _ _ _ T18 (mkF m 146 #[.val (.int p0), .val (.int p1), .val (.int p2), .val (.int p3), .val (.int p4), .val (.int (2 : Int32)), .val (.ref a1), .val (.ref a18), .val (.int (0 : Int32)), .unset, .unset] [(.ref a18)])
        show Fi p e below s Z _ _ _ _ T18 (mkF m 146 #[.val (.int p0), .val (.int p1), .val (.int p2), .val (.int p3), .val (.int p4), .val (.int (2 : Int32)), .val (.ref a1), .val (.ref a18), .val (.int (0 : Int32)), .unset, .unset] [(.ref a18)])
        refine W18.callS me hEL (hw _ (List.mem_of_getElem? (i := 30) rfl)) (hw _ (List.mem_of_getElem? (i := 31) rfl)) (hw _ (List.mem_of_getElem? (i := 32) rfl)) (hw _ (List.mem_of_getElem? (i := 33) rfl)) (argsL := [(.ref a18)]) (rest := []) (c_fr1 (ss := []) g W18.old (cs := [c0, c1]) L18 0 1 (own_le rfl) hh0 al0 (by decide) rfl) at_146 (by decide) (fun _ q => nomatch q) rfl (lenOf pd_24 rfl) (own_le rfl) (own_le rfl) (own_le rfl) (own_le rfl) rfl ?_
        intro T26 h26 v26 W26 z26 q26
        obtain ⟨_, rfl, E26, d26, rfl, M26⟩ := q26
        show Fi p e below s Z _ _ _ _ T26 (mkF m 149 #[.val (.int p0), .val (.int p1), .val (.int p2), .val (.int p3), .val (.int p4), .val (.int (2 : Int32)), .val (.ref a1), .val (.ref a18), .val (.int (0 : Int32)), .unset, .unset] [(.ref d26)])
        replace A9 := A9.ext E26
        replace L18 := L18.ext E26
        refine W26.astore me at_149 (l' := #[.val (.int p0), .val (.int p1), .val (.int p2), .val (.int p3), .val (.int p4), .val (.int (2 : Int32)), .val (.ref a1), .val (.ref a18), .val (.int (0 : Int32)), .val (.ref d26), .unset]) rfl rfl ?_
        refine W26.iload me at_151 rfl ?_
        refine W26.iload me at_153 rfl ?_
        show Fi p e below s Z _ _ _ _ T26 (mkF m 155 #[.val (.int p0), .val (.int p1), .val (.int p2), .val (.int p3), .val (.int p4), .val (.int (2 : Int32)), .val (.ref a1), .val (.ref a18), .val (.int (0 : Int32)), .val (.ref d26), .unset] [(.int (2 : Int32)), (.int (0 : Int32))])
        refine W26.icY_ne me at_155 (by decide) (pc' := 164) (by decide) (by decide) ?_
        show Fi p e below s Z _ _ _ _ T26 (mkF m 164 #[.val (.int p0), .val (.int p1), .val (.int p2), .val (.int p3), .val (.int p4), .val (.int (2 : Int32)), .val (.ref a1), .val (.ref a18), .val (.int (0 : Int32)), .val (.ref d26), .unset] [])
        refine W26.iload me at_164 rfl ?_
        refine W26.iload me at_166 rfl ?_
        refine W26.isub me at_168 ?_
        refine W26.iconst me at_169 (v := 1) rfl ?_
        refine W26.isub me at_170 ?_
        show Fi p e below s Z _ _ _ _ T26 (mkF m 171 #[.val (.int p0), .val (.int p1), .val (.int p2), .val (.int p3), .val (.int p4), .val (.int (2 : Int32)), .val (.ref a1), .val (.ref a18), .val (.int (0 : Int32)), .val (.ref d26), .unset] [(.int (((2 : Int32) - (0 : Int32)) - (1 : Int32)))])
        show Fi p e below s Z _ _ _ _ T26 (mkF m 171 #[.val (.int p0), .val (.int p1), .val (.int p2), .val (.int p3), .val (.int p4), .val (.int (2 : Int32)), .val (.ref a1), .val (.ref a18), .val (.int (0 : Int32)), .val (.ref d26), .unset] [(.int (1 : Int32))])
        refine W26.istore me at_171 (l' := #[.val (.int p0), .val (.int p1), .val (.int p2), .val (.int p3), .val (.int p4), .val (.int (2 : Int32)), .val (.ref a1), .val (.ref a18), .val (.int (0 : Int32)), .val (.ref d26), .val (.int (1 : Int32))]) rfl ?_
        refine W26.aload me at_173 rfl rfl ?_
        show Fi p e below s Z _ _ _ _ T26 (mkF m 175 #[.val (.int p0), .val (.int p1), .val (.int p2), .val (.int p3), .val (.int p4), .val (.int (2 : Int32)), .val (.ref a1), .val (.ref a18), .val (.int (0 : Int32)), .val (.ref d26), .val (.int (1 : Int32))] [(.ref d26)])
        refine W26.callV me hEL (hw _ (List.mem_of_getElem? (i := 133) rfl)) (hw _ (List.mem_of_getElem? (i := 51) rfl)) (fun hZ' => notFace_of_selects (args := #[]) (mvT (s := s.setVm _) hZ' (hw _ (List.mem_of_getElem? (i := 53) rfl)))) (hw _ (List.mem_of_getElem? (i := 53) rfl)) (hw _ (List.mem_of_getElem? (i := 52) rfl)) (hw _ (List.mem_of_getElem? (i := 11) rfl)) (hw _ (List.mem_of_getElem? (i := 54) rfl)) (a := d26) (argsL := []) (rest := []) M26.exa (c_length (ss := []) g W26.old (cs := [c1]) M26) at_175 (by decide) (fun _ q => nomatch q) rfl (lenOf pd_12 rfl) (own_le rfl) (own_le rfl) (own_le rfl) (own_le rfl) rfl ?_
        intro T27 h27 v27 W27 z27 q27
        obtain ⟨_, rfl, rfl, rfl⟩ := q27
        show Fi p e below s Z _ _ _ _ T27 (mkF m 178 #[.val (.int p0), .val (.int p1), .val (.int p2), .val (.int p3), .val (.int p4), .val (.int (2 : Int32)), .val (.ref a1), .val (.ref a18), .val (.int (0 : Int32)), .val (.ref d26), .val (.int (1 : Int32))] [(.int (1 : Int32))])
        refine W27.iload me at_178 rfl ?_
        show Fi p e below s Z _ _ _ _ T27 (mkF m 180 #[.val (.int p0), .val (.int p1), .val (.int p2), .val (.int p3), .val (.int p4), .val (.int (2 : Int32)), .val (.ref a1), .val (.ref a18), .val (.int (0 : Int32)), .val (.ref d26), .val (.int (1 : Int32))] [(.int (1 : Int32)), (.int (1 : Int32))])
        refine W27.icY_eq me at_180 (by decide) (pc' := 185) (by decide) (by decide) ?_
        show Fi p e below s Z _ _ _ _ T27 (mkF m 185 #[.val (.int p0), .val (.int p1), .val (.int p2), .val (.int p3), .val (.int p4), .val (.int (2 : Int32)), .val (.ref a1), .val (.ref a18), .val (.int (0 : Int32)), .val (.ref d26), .val (.int (1 : Int32))] [])
        refine W27.iload me at_185 rfl ?_
        show Fi p e below s Z _ _ _ _ T27 (mkF m 187 #[.val (.int p0), .val (.int p1), .val (.int p2), .val (.int p3), .val (.int p4), .val (.int (2 : Int32)), .val (.ref a1), .val (.ref a18), .val (.int (0 : Int32)), .val (.ref d26), .val (.int (1 : Int32))] [(.int (1 : Int32))])
        refine W27.ifN_le me at_187 (by decide) ?_
        show Fi p e below s Z _ _ _ _ T27 (mkF m 190 #[.val (.int p0), .val (.int p1), .val (.int p2), .val (.int p3), .val (.int p4), .val (.int (2 : Int32)), .val (.ref a1), .val (.ref a18), .val (.int (0 : Int32)), .val (.ref d26), .val (.int (1 : Int32))] [])
        refine W27.aload me at_190 rfl rfl ?_
        refine W27.iconst me at_192 (v := 0) rfl ?_
        show Fi p e below s Z _ _ _ _ T27 (mkF m 193 #[.val (.int p0), .val (.int p1), .val (.int p2), .val (.int p3), .val (.int p4), .val (.int (2 : Int32)), .val (.ref a1), .val (.ref a18), .val (.int (0 : Int32)), .val (.ref d26), .val (.int (1 : Int32))] [(.int (0 : Int32)), (.ref d26)])
        refine W27.callV me hEL (hw _ (List.mem_of_getElem? (i := 134) rfl)) (hw _ (List.mem_of_getElem? (i := 135) rfl)) (fun hZ' => notFace_of_selects (args := #[]) (mvT (s := s.setVm _) hZ' (hw _ (List.mem_of_getElem? (i := 137) rfl)))) (hw _ (List.mem_of_getElem? (i := 137) rfl)) (hw _ (List.mem_of_getElem? (i := 136) rfl)) (hw _ (List.mem_of_getElem? (i := 11) rfl)) (hw _ (List.mem_of_getElem? (i := 138) rfl)) (a := d26) (argsL := [(.int (0 : Int32))]) (rest := []) M26.exa (c_charat (ss := []) g W27.old (cs := [c1]) (i := 0) M26 (own_le rfl)) at_193 (by decide) (fun _ q => nomatch q) rfl (lenOf pd_22 rfl) (own_le rfl) (own_le rfl) (own_le rfl) (own_le rfl) rfl ?_
        intro T28 h28 v28 W28 z28 q28
        obtain ⟨_, rfl, rfl, rfl⟩ := q28
        show Fi p e below s Z _ _ _ _ T28 (mkF m 196 #[.val (.int p0), .val (.int p1), .val (.int p2), .val (.int p3), .val (.int p4), .val (.int (2 : Int32)), .val (.ref a1), .val (.ref a18), .val (.int (0 : Int32)), .val (.ref d26), .val (.int (1 : Int32))] [(.int c1)])
        refine W28.aload me at_196 rfl rfl ?_
        refine W28.iload me at_198 rfl ?_
        refine W28.iconst me at_200 (v := 1) rfl ?_
        refine W28.iadd me at_201 ?_
        show Fi p e below s Z _ _ _ _ T28 (mkF m 202 #[.val (.int p0), .val (.int p1), .val (.int p2), .val (.int p3), .val (.int p4), .val (.int (2 : Int32)), .val (.ref a1), .val (.ref a18), .val (.int (0 : Int32)), .val (.ref d26), .val (.int (1 : Int32))] [(.int ((0 : Int32) + (1 : Int32))), (.ref a1), (.int c1)])
        show Fi p e below s Z _ _ _ _ T28 (mkF m 202 #[.val (.int p0), .val (.int p1), .val (.int p2), .val (.int p3), .val (.int p4), .val (.int (2 : Int32)), .val (.ref a1), .val (.ref a18), .val (.int (0 : Int32)), .val (.ref d26), .val (.int (1 : Int32))] [(.int (1 : Int32)), (.ref a1), (.int c1)])
        refine W28.caload me A9 at_202 (by decide) (v := .int c1) rfl ?_
        show Fi p e below s Z _ _ _ _ T28 (mkF m 203 #[.val (.int p0), .val (.int p1), .val (.int p2), .val (.int p3), .val (.int p4), .val (.int (2 : Int32)), .val (.ref a1), .val (.ref a18), .val (.int (0 : Int32)), .val (.ref d26), .val (.int (1 : Int32))] [(.int c1), (.int c1)])
        refine W28.icY_eq me at_203 rfl (pc' := 208) (by decide) (by decide) ?_
        show Fi p e below s Z _ _ _ _ T28 (mkF m 208 #[.val (.int p0), .val (.int p1), .val (.int p2), .val (.int p3), .val (.int p4), .val (.int (2 : Int32)), .val (.ref a1), .val (.ref a18), .val (.int (0 : Int32)), .val (.ref d26), .val (.int (1 : Int32))] [])
        refine W28.iload me at_208 rfl ?_
        refine W28.iconst me at_210 (v := 1) rfl ?_
        show Fi p e below s Z _ _ _ _ T28 (mkF m 211 #[.val (.int p0), .val (.int p1), .val (.int p2), .val (.int p3), .val (.int p4), .val (.int (2 : Int32)), .val (.ref a1), .val (.ref a18), .val (.int (0 : Int32)), .val (.ref d26), .val (.int (1 : Int32))] [(.int (1 : Int32)), (.int (1 : Int32))])
        refine W28.icY_le me at_211 (by decide) (pc' := 232) (by decide) (by decide) ?_
        show Fi p e below s Z _ _ _ _ T28 (mkF m 232 #[.val (.int p0), .val (.int p1), .val (.int p2), .val (.int p3), .val (.int p4), .val (.int (2 : Int32)), .val (.ref a1), .val (.ref a18), .val (.int (0 : Int32)), .val (.ref d26), .val (.int (1 : Int32))] [])
        refine W28.iload me at_232 rfl ?_
        refine W28.iconst me at_234 (v := 2) rfl ?_
        show Fi p e below s Z _ _ _ _ T28 (mkF m 235 #[.val (.int p0), .val (.int p1), .val (.int p2), .val (.int p3), .val (.int p4), .val (.int (2 : Int32)), .val (.ref a1), .val (.ref a18), .val (.int (0 : Int32)), .val (.ref d26), .val (.int (1 : Int32))] [(.int (2 : Int32)), (.int (1 : Int32))])
        refine W28.icY_le me at_235 (by decide) (pc' := 256) (by decide) (by decide) ?_
        show Fi p e below s Z _ _ _ _ T28 (mkF m 256 #[.val (.int p0), .val (.int p1), .val (.int p2), .val (.int p3), .val (.int p4), .val (.int (2 : Int32)), .val (.ref a1), .val (.ref a18), .val (.int (0 : Int32)), .val (.ref d26), .val (.int (1 : Int32))] [])
        refine W28.iconst me at_256 (v := 1) rfl ?_
        show Fi p e below s Z _ _ _ _ T28 (mkF m 257 #[.val (.int p0), .val (.int p1), .val (.int p2), .val (.int p3), .val (.int p4), .val (.int (2 : Int32)), .val (.ref a1), .val (.ref a18), .val (.int (0 : Int32)), .val (.ref d26), .val (.int (1 : Int32))] [(.int (1 : Int32))])
        exact W28.retN hEL me (Or.inl rfl) at_257 rfl (by decide) (by decide)
  ·
    show Fi p e below s Z _ _ _ _ T9 (mkF m 46 #[.val (.int p0), .val (.int p1), .val (.int p2), .val (.int p3), .val (.int p4), .val (.int (3 : Int32)), .val (.ref a1), .unset, .unset, .unset, .unset] [])
    refine W9.iload me at_46 rfl ?_
    refine W9.aload me at_48 rfl rfl ?_
    refine W9.iconst me at_50 (v := 0) rfl ?_
    show Fi p e below s Z _ _ _ _ T9 (mkF m 51 #[.val (.int p0), .val (.int p1), .val (.int p2), .val (.int p3), .val (.int p4), .val (.int (3 : Int32)), .val (.ref a1), .unset, .unset, .unset, .unset] [(.int (0 : Int32)), (.ref a1), (.int (3 : Int32))])
    refine W9.caload me A9 at_51 (by decide) (v := .int c0) rfl ?_
    show Fi p e below s Z _ _ _ _ T9 (mkF m 52 #[.val (.int p0), .val (.int p1), .val (.int p2), .val (.int p3), .val (.int p4), .val (.int (3 : Int32)), .val (.ref a1), .unset, .unset, .unset, .unset] [(.int c0), (.int (3 : Int32))])
    refine W9.aload me at_52 rfl rfl ?_
    refine W9.iconst me at_54 (v := 1) rfl ?_
    show Fi p e below s Z _ _ _ _ T9 (mkF m 55 #[.val (.int p0), .val (.int p1), .val (.int p2), .val (.int p3), .val (.int p4), .val (.int (3 : Int32)), .val (.ref a1), .unset, .unset, .unset, .unset] [(.int (1 : Int32)), (.ref a1), (.int c0), (.int (3 : Int32))])
    refine W9.caload me A9 at_55 (by decide) (v := .int c1) rfl ?_
    show Fi p e below s Z _ _ _ _ T9 (mkF m 56 #[.val (.int p0), .val (.int p1), .val (.int p2), .val (.int p3), .val (.int p4), .val (.int (3 : Int32)), .val (.ref a1), .unset, .unset, .unset, .unset] [(.int c1), (.int c0), (.int (3 : Int32))])
    refine W9.aload me at_56 rfl rfl ?_
    refine W9.iconst me at_58 (v := 2) rfl ?_
    show Fi p e below s Z _ _ _ _ T9 (mkF m 59 #[.val (.int p0), .val (.int p1), .val (.int p2), .val (.int p3), .val (.int p4), .val (.int (3 : Int32)), .val (.ref a1), .unset, .unset, .unset, .unset] [(.int (2 : Int32)), (.ref a1), (.int c1), (.int c0), (.int (3 : Int32))])
    refine W9.caload me A9 at_59 (by decide) (v := .int c2) rfl ?_
    show Fi p e below s Z _ _ _ _ T9 (mkF m 60 #[.val (.int p0), .val (.int p1), .val (.int p2), .val (.int p3), .val (.int p4), .val (.int (3 : Int32)), .val (.ref a1), .unset, .unset, .unset, .unset] [(.int c2), (.int c1), (.int c0), (.int (3 : Int32))])
    refine W9.aload me at_60 rfl rfl ?_
    refine W9.iconst me at_62 (v := 3) rfl ?_
    show Fi p e below s Z _ _ _ _ T9 (mkF m 63 #[.val (.int p0), .val (.int p1), .val (.int p2), .val (.int p3), .val (.int p4), .val (.int (3 : Int32)), .val (.ref a1), .unset, .unset, .unset, .unset] [(.int (3 : Int32)), (.ref a1), (.int c2), (.int c1), (.int c0), (.int (3 : Int32))])
    refine W9.caload me A9 at_63 (by decide) (v := .int c3) rfl ?_
    show Fi p e below s Z _ _ _ _ T9 (mkF m 64 #[.val (.int p0), .val (.int p1), .val (.int p2), .val (.int p3), .val (.int p4), .val (.int (3 : Int32)), .val (.ref a1), .unset, .unset, .unset, .unset] [(.int c3), (.int c2), (.int c1), (.int c0), (.int (3 : Int32))])
    refine W9.callS me hEL (hw _ (List.mem_of_getElem? (i := 6) rfl)) (hw _ (List.mem_of_getElem? (i := 7) rfl)) (hw _ (List.mem_of_getElem? (i := 4) rfl)) (hw _ (List.mem_of_getElem? (i := 8) rfl)) (argsL := [(.int (3 : Int32)), (.int c0), (.int c1), (.int c2), (.int c3)]) (rest := []) (c_str3 (ss := []) g W9.old q0 q1 q2 q3) at_64 (by decide) (fun _ q => nomatch q) rfl (lenOf pd_23 rfl) (own_le rfl) (own_le rfl) (own_le rfl) (own_le rfl) rfl ?_
    intro T29 h29 v29 W29 z29 q29
    obtain ⟨_, rfl, E29, a29, rfl, L29⟩ := q29
    show Fi p e below s Z _ _ _ _ T29 (mkF m 67 #[.val (.int p0), .val (.int p1), .val (.int p2), .val (.int p3), .val (.int p4), .val (.int (3 : Int32)), .val (.ref a1), .unset, .unset, .unset, .unset] [(.ref a29)])
    replace A9 := A9.ext E29
    refine W29.astore me at_67 (l' := #[.val (.int p0), .val (.int p1), .val (.int p2), .val (.int p3), .val (.int p4), .val (.int (3 : Int32)), .val (.ref a1), .val (.ref a29), .unset, .unset, .unset]) rfl rfl ?_
    refine W29.iload me at_69 rfl ?_
    refine W29.istore me at_71 (l' := #[.val (.int p0), .val (.int p1), .val (.int p2), .val (.int p3), .val (.int p4), .val (.int (3 : Int32)), .val (.ref a1), .val (.ref a29), .val (.int (3 : Int32)), .unset, .unset]) rfl ?_
    refine W29.iload me at_73 rfl ?_
    refine W29.iconst me at_75 (v := 3) rfl ?_
    show Fi p e below s Z _ _ _ _ T29 (mkF m 76 #[.val (.int p0), .val (.int p1), .val (.int p2), .val (.int p3), .val (.int p4), .val (.int (3 : Int32)), .val (.ref a1), .val (.ref a29), .val (.int (3 : Int32)), .unset, .unset] [(.int (3 : Int32)), (.int (3 : Int32))])
    refine W29.icY_le me at_76 (by decide) (pc' := 91) (by decide) (by decide) ?_
    show Fi p e below s Z _ _ _ _ T29 (mkF m 91 #[.val (.int p0), .val (.int p1), .val (.int p2), .val (.int p3), .val (.int p4), .val (.int (3 : Int32)), .val (.ref a1), .val (.ref a29), .val (.int (3 : Int32)), .unset, .unset] [])
    refine W29.iload me at_91 rfl ?_
    refine W29.iconst me at_93 (v := 2) rfl ?_
    show Fi p e below s Z _ _ _ _ T29 (mkF m 94 #[.val (.int p0), .val (.int p1), .val (.int p2), .val (.int p3), .val (.int p4), .val (.int (3 : Int32)), .val (.ref a1), .val (.ref a29), .val (.int (3 : Int32)), .unset, .unset] [(.int (2 : Int32)), (.int (3 : Int32))])
    refine W29.icN_le me at_94 (by decide) ?_
    show Fi p e below s Z _ _ _ _ T29 (mkF m 97 #[.val (.int p0), .val (.int p1), .val (.int p2), .val (.int p3), .val (.int p4), .val (.int (3 : Int32)), .val (.ref a1), .val (.ref a29), .val (.int (3 : Int32)), .unset, .unset] [])
    refine W29.aload me at_97 rfl rfl ?_
    refine W29.iconst me at_99 (v := 2) rfl ?_
    show Fi p e below s Z _ _ _ _ T29 (mkF m 100 #[.val (.int p0), .val (.int p1), .val (.int p2), .val (.int p3), .val (.int p4), .val (.int (3 : Int32)), .val (.ref a1), .val (.ref a29), .val (.int (3 : Int32)), .unset, .unset] [(.int (2 : Int32)), (.ref a1)])
    refine W29.caload me A9 at_100 (by decide) (v := .int c2) rfl ?_
    show Fi p e below s Z _ _ _ _ T29 (mkF m 101 #[.val (.int p0), .val (.int p1), .val (.int p2), .val (.int p3), .val (.int p4), .val (.int (3 : Int32)), .val (.ref a1), .val (.ref a29), .val (.int (3 : Int32)), .unset, .unset] [(.int c2)])
    refine W29.bipush me at_101 (v := 35) rfl ?_
    show Fi p e below s Z _ _ _ _ T29 (mkF m 103 #[.val (.int p0), .val (.int p1), .val (.int p2), .val (.int p3), .val (.int p4), .val (.int (3 : Int32)), .val (.ref a1), .val (.ref a29), .val (.int (3 : Int32)), .unset, .unset] [(.int (35 : Int32)), (.int c2)])
    refine W29.ic_ne me at_103 (pc' := 109) (by decide) (by decide) (fun hh2 => ?_) (fun hh2 => ?_)
    ·
      show Fi p e below s Z _ _ _ _ T29 (mkF m 109 #[.val (.int p0), .val (.int p1), .val (.int p2), .val (.int p3), .val (.int p4), .val (.int (3 : Int32)), .val (.ref a1), .val (.ref a29), .val (.int (3 : Int32)), .unset, .unset] [])
      refine W29.iload me at_109 rfl ?_
      refine W29.iconst me at_111 (v := 1) rfl ?_
      show Fi p e below s Z _ _ _ _ T29 (mkF m 112 #[.val (.int p0), .val (.int p1), .val (.int p2), .val (.int p3), .val (.int p4), .val (.int (3 : Int32)), .val (.ref a1), .val (.ref a29), .val (.int (3 : Int32)), .unset, .unset] [(.int (1 : Int32)), (.int (3 : Int32))])
      refine W29.icN_le me at_112 (by decide) ?_
      show Fi p e below s Z _ _ _ _ T29 (mkF m 115 #[.val (.int p0), .val (.int p1), .val (.int p2), .val (.int p3), .val (.int p4), .val (.int (3 : Int32)), .val (.ref a1), .val (.ref a29), .val (.int (3 : Int32)), .unset, .unset] [])
      refine W29.aload me at_115 rfl rfl ?_
      refine W29.iconst me at_117 (v := 1) rfl ?_
      show Fi p e below s Z _ _ _ _ T29 (mkF m 118 #[.val (.int p0), .val (.int p1), .val (.int p2), .val (.int p3), .val (.int p4), .val (.int (3 : Int32)), .val (.ref a1), .val (.ref a29), .val (.int (3 : Int32)), .unset, .unset] [(.int (1 : Int32)), (.ref a1)])
      refine W29.caload me A9 at_118 (by decide) (v := .int c1) rfl ?_
      show Fi p e below s Z _ _ _ _ T29 (mkF m 119 #[.val (.int p0), .val (.int p1), .val (.int p2), .val (.int p3), .val (.int p4), .val (.int (3 : Int32)), .val (.ref a1), .val (.ref a29), .val (.int (3 : Int32)), .unset, .unset] [(.int c1)])
      refine W29.bipush me at_119 (v := 35) rfl ?_
      show Fi p e below s Z _ _ _ _ T29 (mkF m 121 #[.val (.int p0), .val (.int p1), .val (.int p2), .val (.int p3), .val (.int p4), .val (.int (3 : Int32)), .val (.ref a1), .val (.ref a29), .val (.int (3 : Int32)), .unset, .unset] [(.int (35 : Int32)), (.int c1)])
      refine W29.ic_ne me at_121 (pc' := 127) (by decide) (by decide) (fun hh1 => ?_) (fun hh1 => ?_)
      ·
        show Fi p e below s Z _ _ _ _ T29 (mkF m 127 #[.val (.int p0), .val (.int p1), .val (.int p2), .val (.int p3), .val (.int p4), .val (.int (3 : Int32)), .val (.ref a1), .val (.ref a29), .val (.int (3 : Int32)), .unset, .unset] [])
        refine W29.iload me at_127 rfl ?_
        show Fi p e below s Z _ _ _ _ T29 (mkF m 129 #[.val (.int p0), .val (.int p1), .val (.int p2), .val (.int p3), .val (.int p4), .val (.int (3 : Int32)), .val (.ref a1), .val (.ref a29), .val (.int (3 : Int32)), .unset, .unset] [(.int (3 : Int32))])
        refine W29.ifN_le me at_129 (by decide) ?_
        show Fi p e below s Z _ _ _ _ T29 (mkF m 132 #[.val (.int p0), .val (.int p1), .val (.int p2), .val (.int p3), .val (.int p4), .val (.int (3 : Int32)), .val (.ref a1), .val (.ref a29), .val (.int (3 : Int32)), .unset, .unset] [])
        refine W29.aload me at_132 rfl rfl ?_
        refine W29.iconst me at_134 (v := 0) rfl ?_
        show Fi p e below s Z _ _ _ _ T29 (mkF m 135 #[.val (.int p0), .val (.int p1), .val (.int p2), .val (.int p3), .val (.int p4), .val (.int (3 : Int32)), .val (.ref a1), .val (.ref a29), .val (.int (3 : Int32)), .unset, .unset] [(.int (0 : Int32)), (.ref a1)])
        refine W29.caload me A9 at_135 (by decide) (v := .int c0) rfl ?_
        show Fi p e below s Z _ _ _ _ T29 (mkF m 136 #[.val (.int p0), .val (.int p1), .val (.int p2), .val (.int p3), .val (.int p4), .val (.int (3 : Int32)), .val (.ref a1), .val (.ref a29), .val (.int (3 : Int32)), .unset, .unset] [(.int c0)])
        refine W29.bipush me at_136 (v := 35) rfl ?_
        show Fi p e below s Z _ _ _ _ T29 (mkF m 138 #[.val (.int p0), .val (.int p1), .val (.int p2), .val (.int p3), .val (.int p4), .val (.int (3 : Int32)), .val (.ref a1), .val (.ref a29), .val (.int (3 : Int32)), .unset, .unset] [(.int (35 : Int32)), (.int c0)])
        refine W29.ic_ne me at_138 (pc' := 144) (by decide) (by decide) (fun hh0 => ?_) (fun hh0 => ?_)
        ·
          show Fi p e below s Z _ _ _ _ T29 (mkF m 144 #[.val (.int p0), .val (.int p1), .val (.int p2), .val (.int p3), .val (.int p4), .val (.int (3 : Int32)), .val (.ref a1), .val (.ref a29), .val (.int (3 : Int32)), .unset, .unset] [])
          refine W29.aload me at_144 rfl rfl ?_
          show Fi p e below s Z _ _ _ _ T29 (mkF m 146 #[.val (.int p0), .val (.int p1), .val (.int p2), .val (.int p3), .val (.int p4), .val (.int (3 : Int32)), .val (.ref a1), .val (.ref a29), .val (.int (3 : Int32)), .unset, .unset] [(.ref a29)])
          show Fi p e below s Z _ _ _ _ T29 (mkF m 146 #[.val (.int p0), .val (.int p1), .val (.int p2), .val (.int p3), .val (.int p4), .val (.int (3 : Int32)), .val (.ref a1), .val (.ref a29), .val (.int (3 : Int32)), .unset, .unset] [(.ref a29)])
          refine W29.callS me hEL (hw _ (List.mem_of_getElem? (i := 30) rfl)) (hw _ (List.mem_of_getElem? (i := 31) rfl)) (hw _ (List.mem_of_getElem? (i := 32) rfl)) (hw _ (List.mem_of_getElem? (i := 33) rfl)) (argsL := [(.ref a29)]) (rest := []) (c_fr0 (ss := []) g W29.old (cs := [c0, c1, c2]) L29 (alS (alS (alS al0 hh0) hh1) hh2)) at_146 (by decide) (fun _ q => nomatch q) rfl (lenOf pd_24 rfl) (own_le rfl) (own_le rfl) (own_le rfl) (own_le rfl) rfl ?_
          intro T30 h30 v30 W30 z30 q30
          obtain ⟨_, rfl, E30, d30, rfl, M30⟩ := q30
          show Fi p e below s Z _ _ _ _ T30 (mkF m 149 #[.val (.int p0), .val (.int p1), .val (.int p2), .val (.int p3), .val (.int p4), .val (.int (3 : Int32)), .val (.ref a1), .val (.ref a29), .val (.int (3 : Int32)), .unset, .unset] [(.ref d30)])
          refine W30.astore me at_149 (l' := #[.val (.int p0), .val (.int p1), .val (.int p2), .val (.int p3), .val (.int p4), .val (.int (3 : Int32)), .val (.ref a1), .val (.ref a29), .val (.int (3 : Int32)), .val (.ref d30), .unset]) rfl rfl ?_
          refine W30.iload me at_151 rfl ?_
          refine W30.iload me at_153 rfl ?_
          show Fi p e below s Z _ _ _ _ T30 (mkF m 155 #[.val (.int p0), .val (.int p1), .val (.int p2), .val (.int p3), .val (.int p4), .val (.int (3 : Int32)), .val (.ref a1), .val (.ref a29), .val (.int (3 : Int32)), .val (.ref d30), .unset] [(.int (3 : Int32)), (.int (3 : Int32))])
          refine W30.icN_ne me at_155 (by decide) ?_
          show Fi p e below s Z _ _ _ _ T30 (mkF m 158 #[.val (.int p0), .val (.int p1), .val (.int p2), .val (.int p3), .val (.int p4), .val (.int (3 : Int32)), .val (.ref a1), .val (.ref a29), .val (.int (3 : Int32)), .val (.ref d30), .unset] [])
          refine W30.aload me at_158 rfl rfl ?_
          show Fi p e below s Z _ _ _ _ T30 (mkF m 160 #[.val (.int p0), .val (.int p1), .val (.int p2), .val (.int p3), .val (.int p4), .val (.int (3 : Int32)), .val (.ref a1), .val (.ref a29), .val (.int (3 : Int32)), .val (.ref d30), .unset] [(.ref d30)])
          refine W30.callV me hEL (hw _ (List.mem_of_getElem? (i := 75) rfl)) (hw _ (List.mem_of_getElem? (i := 76) rfl)) (fun hZ' => notFace_of_selects (args := #[]) (mvT (s := s.setVm _) hZ' (hw _ (List.mem_of_getElem? (i := 78) rfl)))) (hw _ (List.mem_of_getElem? (i := 78) rfl)) (hw _ (List.mem_of_getElem? (i := 77) rfl)) (hw _ (List.mem_of_getElem? (i := 11) rfl)) (hw _ (List.mem_of_getElem? (i := 79) rfl)) (a := d30) (argsL := []) (rest := []) M30.exa (c_isempty (ss := []) g W30.old M30) at_160 (by decide) (fun _ q => nomatch q) rfl (lenOf pd_7 rfl) (own_le rfl) (own_le rfl) (own_le rfl) (own_le rfl) rfl ?_
          intro T31 h31 v31 W31 z31 q31
          obtain ⟨_, rfl, rfl, rfl⟩ := q31
          show Fi p e below s Z _ _ _ _ T31 (mkF m 163 #[.val (.int p0), .val (.int p1), .val (.int p2), .val (.int p3), .val (.int p4), .val (.int (3 : Int32)), .val (.ref a1), .val (.ref a29), .val (.int (3 : Int32)), .val (.ref d30), .unset] [(.int (1 : Int32))])
          exact W31.retN hEL me (Or.inl rfl) at_163 rfl (by decide) (by decide)
        ·
          show Fi p e below s Z _ _ _ _ T29 (mkF m 141 #[.val (.int p0), .val (.int p1), .val (.int p2), .val (.int p3), .val (.int p4), .val (.int (3 : Int32)), .val (.ref a1), .val (.ref a29), .val (.int (3 : Int32)), .unset, .unset] [])
          refine W29.iconst me at_141 (v := 0) rfl ?_
          refine W29.istore me at_142 (l' := #[.val (.int p0), .val (.int p1), .val (.int p2), .val (.int p3), .val (.int p4), .val (.int (3 : Int32)), .val (.ref a1), .val (.ref a29), .val (.int (0 : Int32)), .unset, .unset]) rfl ?_
          refine W29.aload me at_144 rfl rfl ?_
          show Fi p e below s Z _ _ _ _ T29 (mkF m 146 #[.val (.int p0), .val (.int p1), .val (.int p2), .val (.int p3), .val (.int p4), .val (.int (3 : Int32)), .val (.ref a1), .val (.ref a29), .val (.int (0 : Int32)), .unset, .unset] [(.ref a29)])
          show Fi p e below s Z _ _ _ _ T29 (mkF m 146 #[.val (.int p0), .val (.int p1), .val (.int p2), .val (.int p3), .val (.int p4), .val (.int (3 : Int32)), .val (.ref a1), .val (.ref a29), .val (.int (0 : Int32)), .unset, .unset] [(.ref a29)])
          refine W29.callS me hEL (hw _ (List.mem_of_getElem? (i := 30) rfl)) (hw _ (List.mem_of_getElem? (i := 31) rfl)) (hw _ (List.mem_of_getElem? (i := 32) rfl)) (hw _ (List.mem_of_getElem? (i := 33) rfl)) (argsL := [(.ref a29)]) (rest := []) (c_fr1 (ss := []) g W29.old (cs := [c0, c1, c2]) L29 0 2 (own_le rfl) hh0 al0 (by decide) rfl) at_146 (by decide) (fun _ q => nomatch q) rfl (lenOf pd_24 rfl) (own_le rfl) (own_le rfl) (own_le rfl) (own_le rfl) rfl ?_
          intro T32 h32 v32 W32 z32 q32
          obtain ⟨_, rfl, E32, d32, rfl, M32⟩ := q32
          show Fi p e below s Z _ _ _ _ T32 (mkF m 149 #[.val (.int p0), .val (.int p1), .val (.int p2), .val (.int p3), .val (.int p4), .val (.int (3 : Int32)), .val (.ref a1), .val (.ref a29), .val (.int (0 : Int32)), .unset, .unset] [(.ref d32)])
          replace A9 := A9.ext E32
          replace L29 := L29.ext E32
          refine W32.astore me at_149 (l' := #[.val (.int p0), .val (.int p1), .val (.int p2), .val (.int p3), .val (.int p4), .val (.int (3 : Int32)), .val (.ref a1), .val (.ref a29), .val (.int (0 : Int32)), .val (.ref d32), .unset]) rfl rfl ?_
          refine W32.iload me at_151 rfl ?_
          refine W32.iload me at_153 rfl ?_
          show Fi p e below s Z _ _ _ _ T32 (mkF m 155 #[.val (.int p0), .val (.int p1), .val (.int p2), .val (.int p3), .val (.int p4), .val (.int (3 : Int32)), .val (.ref a1), .val (.ref a29), .val (.int (0 : Int32)), .val (.ref d32), .unset] [(.int (3 : Int32)), (.int (0 : Int32))])
          refine W32.icY_ne me at_155 (by decide) (pc' := 164) (by decide) (by decide) ?_
          show Fi p e below s Z _ _ _ _ T32 (mkF m 164 #[.val (.int p0), .val (.int p1), .val (.int p2), .val (.int p3), .val (.int p4), .val (.int (3 : Int32)), .val (.ref a1), .val (.ref a29), .val (.int (0 : Int32)), .val (.ref d32), .unset] [])
          refine W32.iload me at_164 rfl ?_
          refine W32.iload me at_166 rfl ?_
          refine W32.isub me at_168 ?_
          refine W32.iconst me at_169 (v := 1) rfl ?_
          refine W32.isub me at_170 ?_
          show Fi p e below s Z _ _ _ _ T32 (mkF m 171 #[.val (.int p0), .val (.int p1), .val (.int p2), .val (.int p3), .val (.int p4), .val (.int (3 : Int32)), .val (.ref a1), .val (.ref a29), .val (.int (0 : Int32)), .val (.ref d32), .unset] [(.int (((3 : Int32) - (0 : Int32)) - (1 : Int32)))])
          show Fi p e below s Z _ _ _ _ T32 (mkF m 171 #[.val (.int p0), .val (.int p1), .val (.int p2), .val (.int p3), .val (.int p4), .val (.int (3 : Int32)), .val (.ref a1), .val (.ref a29), .val (.int (0 : Int32)), .val (.ref d32), .unset] [(.int (2 : Int32))])
          refine W32.istore me at_171 (l' := #[.val (.int p0), .val (.int p1), .val (.int p2), .val (.int p3), .val (.int p4), .val (.int (3 : Int32)), .val (.ref a1), .val (.ref a29), .val (.int (0 : Int32)), .val (.ref d32), .val (.int (2 : Int32))]) rfl ?_
          refine W32.aload me at_173 rfl rfl ?_
          show Fi p e below s Z _ _ _ _ T32 (mkF m 175 #[.val (.int p0), .val (.int p1), .val (.int p2), .val (.int p3), .val (.int p4), .val (.int (3 : Int32)), .val (.ref a1), .val (.ref a29), .val (.int (0 : Int32)), .val (.ref d32), .val (.int (2 : Int32))] [(.ref d32)])
          refine W32.callV me hEL (hw _ (List.mem_of_getElem? (i := 133) rfl)) (hw _ (List.mem_of_getElem? (i := 51) rfl)) (fun hZ' => notFace_of_selects (args := #[]) (mvT (s := s.setVm _) hZ' (hw _ (List.mem_of_getElem? (i := 53) rfl)))) (hw _ (List.mem_of_getElem? (i := 53) rfl)) (hw _ (List.mem_of_getElem? (i := 52) rfl)) (hw _ (List.mem_of_getElem? (i := 11) rfl)) (hw _ (List.mem_of_getElem? (i := 54) rfl)) (a := d32) (argsL := []) (rest := []) M32.exa (c_length (ss := []) g W32.old (cs := [c1, c2]) M32) at_175 (by decide) (fun _ q => nomatch q) rfl (lenOf pd_12 rfl) (own_le rfl) (own_le rfl) (own_le rfl) (own_le rfl) rfl ?_
          intro T33 h33 v33 W33 z33 q33
          obtain ⟨_, rfl, rfl, rfl⟩ := q33
          show Fi p e below s Z _ _ _ _ T33 (mkF m 178 #[.val (.int p0), .val (.int p1), .val (.int p2), .val (.int p3), .val (.int p4), .val (.int (3 : Int32)), .val (.ref a1), .val (.ref a29), .val (.int (0 : Int32)), .val (.ref d32), .val (.int (2 : Int32))] [(.int (2 : Int32))])
          refine W33.iload me at_178 rfl ?_
          show Fi p e below s Z _ _ _ _ T33 (mkF m 180 #[.val (.int p0), .val (.int p1), .val (.int p2), .val (.int p3), .val (.int p4), .val (.int (3 : Int32)), .val (.ref a1), .val (.ref a29), .val (.int (0 : Int32)), .val (.ref d32), .val (.int (2 : Int32))] [(.int (2 : Int32)), (.int (2 : Int32))])
          refine W33.icY_eq me at_180 (by decide) (pc' := 185) (by decide) (by decide) ?_
          show Fi p e below s Z _ _ _ _ T33 (mkF m 185 #[.val (.int p0), .val (.int p1), .val (.int p2), .val (.int p3), .val (.int p4), .val (.int (3 : Int32)), .val (.ref a1), .val (.ref a29), .val (.int (0 : Int32)), .val (.ref d32), .val (.int (2 : Int32))] [])
          refine W33.iload me at_185 rfl ?_
          show Fi p e below s Z _ _ _ _ T33 (mkF m 187 #[.val (.int p0), .val (.int p1), .val (.int p2), .val (.int p3), .val (.int p4), .val (.int (3 : Int32)), .val (.ref a1), .val (.ref a29), .val (.int (0 : Int32)), .val (.ref d32), .val (.int (2 : Int32))] [(.int (2 : Int32))])
          refine W33.ifN_le me at_187 (by decide) ?_
          show Fi p e below s Z _ _ _ _ T33 (mkF m 190 #[.val (.int p0), .val (.int p1), .val (.int p2), .val (.int p3), .val (.int p4), .val (.int (3 : Int32)), .val (.ref a1), .val (.ref a29), .val (.int (0 : Int32)), .val (.ref d32), .val (.int (2 : Int32))] [])
          refine W33.aload me at_190 rfl rfl ?_
          refine W33.iconst me at_192 (v := 0) rfl ?_
          show Fi p e below s Z _ _ _ _ T33 (mkF m 193 #[.val (.int p0), .val (.int p1), .val (.int p2), .val (.int p3), .val (.int p4), .val (.int (3 : Int32)), .val (.ref a1), .val (.ref a29), .val (.int (0 : Int32)), .val (.ref d32), .val (.int (2 : Int32))] [(.int (0 : Int32)), (.ref d32)])
          refine W33.callV me hEL (hw _ (List.mem_of_getElem? (i := 134) rfl)) (hw _ (List.mem_of_getElem? (i := 135) rfl)) (fun hZ' => notFace_of_selects (args := #[]) (mvT (s := s.setVm _) hZ' (hw _ (List.mem_of_getElem? (i := 137) rfl)))) (hw _ (List.mem_of_getElem? (i := 137) rfl)) (hw _ (List.mem_of_getElem? (i := 136) rfl)) (hw _ (List.mem_of_getElem? (i := 11) rfl)) (hw _ (List.mem_of_getElem? (i := 138) rfl)) (a := d32) (argsL := [(.int (0 : Int32))]) (rest := []) M32.exa (c_charat (ss := []) g W33.old (cs := [c1, c2]) (i := 0) M32 (own_le rfl)) at_193 (by decide) (fun _ q => nomatch q) rfl (lenOf pd_22 rfl) (own_le rfl) (own_le rfl) (own_le rfl) (own_le rfl) rfl ?_
          intro T34 h34 v34 W34 z34 q34
          obtain ⟨_, rfl, rfl, rfl⟩ := q34
          show Fi p e below s Z _ _ _ _ T34 (mkF m 196 #[.val (.int p0), .val (.int p1), .val (.int p2), .val (.int p3), .val (.int p4), .val (.int (3 : Int32)), .val (.ref a1), .val (.ref a29), .val (.int (0 : Int32)), .val (.ref d32), .val (.int (2 : Int32))] [(.int c1)])
          refine W34.aload me at_196 rfl rfl ?_
          refine W34.iload me at_198 rfl ?_
          refine W34.iconst me at_200 (v := 1) rfl ?_
          refine W34.iadd me at_201 ?_
          show Fi p e below s Z _ _ _ _ T34 (mkF m 202 #[.val (.int p0), .val (.int p1), .val (.int p2), .val (.int p3), .val (.int p4), .val (.int (3 : Int32)), .val (.ref a1), .val (.ref a29), .val (.int (0 : Int32)), .val (.ref d32), .val (.int (2 : Int32))] [(.int ((0 : Int32) + (1 : Int32))), (.ref a1), (.int c1)])
          show Fi p e below s Z _ _ _ _ T34 (mkF m 202 #[.val (.int p0), .val (.int p1), .val (.int p2), .val (.int p3), .val (.int p4), .val (.int (3 : Int32)), .val (.ref a1), .val (.ref a29), .val (.int (0 : Int32)), .val (.ref d32), .val (.int (2 : Int32))] [(.int (1 : Int32)), (.ref a1), (.int c1)])
          refine W34.caload me A9 at_202 (by decide) (v := .int c1) rfl ?_
          show Fi p e below s Z _ _ _ _ T34 (mkF m 203 #[.val (.int p0), .val (.int p1), .val (.int p2), .val (.int p3), .val (.int p4), .val (.int (3 : Int32)), .val (.ref a1), .val (.ref a29), .val (.int (0 : Int32)), .val (.ref d32), .val (.int (2 : Int32))] [(.int c1), (.int c1)])
          refine W34.icY_eq me at_203 rfl (pc' := 208) (by decide) (by decide) ?_
          show Fi p e below s Z _ _ _ _ T34 (mkF m 208 #[.val (.int p0), .val (.int p1), .val (.int p2), .val (.int p3), .val (.int p4), .val (.int (3 : Int32)), .val (.ref a1), .val (.ref a29), .val (.int (0 : Int32)), .val (.ref d32), .val (.int (2 : Int32))] [])
          refine W34.iload me at_208 rfl ?_
          refine W34.iconst me at_210 (v := 1) rfl ?_
          show Fi p e below s Z _ _ _ _ T34 (mkF m 211 #[.val (.int p0), .val (.int p1), .val (.int p2), .val (.int p3), .val (.int p4), .val (.int (3 : Int32)), .val (.ref a1), .val (.ref a29), .val (.int (0 : Int32)), .val (.ref d32), .val (.int (2 : Int32))] [(.int (1 : Int32)), (.int (2 : Int32))])
          refine W34.icN_le me at_211 (by decide) ?_
          show Fi p e below s Z _ _ _ _ T34 (mkF m 214 #[.val (.int p0), .val (.int p1), .val (.int p2), .val (.int p3), .val (.int p4), .val (.int (3 : Int32)), .val (.ref a1), .val (.ref a29), .val (.int (0 : Int32)), .val (.ref d32), .val (.int (2 : Int32))] [])
          refine W34.aload me at_214 rfl rfl ?_
          refine W34.iconst me at_216 (v := 1) rfl ?_
          show Fi p e below s Z _ _ _ _ T34 (mkF m 217 #[.val (.int p0), .val (.int p1), .val (.int p2), .val (.int p3), .val (.int p4), .val (.int (3 : Int32)), .val (.ref a1), .val (.ref a29), .val (.int (0 : Int32)), .val (.ref d32), .val (.int (2 : Int32))] [(.int (1 : Int32)), (.ref d32)])
          refine W34.callV me hEL (hw _ (List.mem_of_getElem? (i := 134) rfl)) (hw _ (List.mem_of_getElem? (i := 135) rfl)) (fun hZ' => notFace_of_selects (args := #[]) (mvT (s := s.setVm _) hZ' (hw _ (List.mem_of_getElem? (i := 137) rfl)))) (hw _ (List.mem_of_getElem? (i := 137) rfl)) (hw _ (List.mem_of_getElem? (i := 136) rfl)) (hw _ (List.mem_of_getElem? (i := 11) rfl)) (hw _ (List.mem_of_getElem? (i := 138) rfl)) (a := d32) (argsL := [(.int (1 : Int32))]) (rest := []) M32.exa (c_charat (ss := []) g W34.old (cs := [c1, c2]) (i := 1) M32 (own_le rfl)) at_217 (by decide) (fun _ q => nomatch q) rfl (lenOf pd_22 rfl) (own_le rfl) (own_le rfl) (own_le rfl) (own_le rfl) rfl ?_
          intro T35 h35 v35 W35 z35 q35
          obtain ⟨_, rfl, rfl, rfl⟩ := q35
          show Fi p e below s Z _ _ _ _ T35 (mkF m 220 #[.val (.int p0), .val (.int p1), .val (.int p2), .val (.int p3), .val (.int p4), .val (.int (3 : Int32)), .val (.ref a1), .val (.ref a29), .val (.int (0 : Int32)), .val (.ref d32), .val (.int (2 : Int32))] [(.int c2)])
          refine W35.aload me at_220 rfl rfl ?_
          refine W35.iload me at_222 rfl ?_
          refine W35.iconst me at_224 (v := 2) rfl ?_
          refine W35.iadd me at_225 ?_
          show Fi p e below s Z _ _ _ _ T35 (mkF m 226 #[.val (.int p0), .val (.int p1), .val (.int p2), .val (.int p3), .val (.int p4), .val (.int (3 : Int32)), .val (.ref a1), .val (.ref a29), .val (.int (0 : Int32)), .val (.ref d32), .val (.int (2 : Int32))] [(.int ((0 : Int32) + (2 : Int32))), (.ref a1), (.int c2)])
          show Fi p e below s Z _ _ _ _ T35 (mkF m 226 #[.val (.int p0), .val (.int p1), .val (.int p2), .val (.int p3), .val (.int p4), .val (.int (3 : Int32)), .val (.ref a1), .val (.ref a29), .val (.int (0 : Int32)), .val (.ref d32), .val (.int (2 : Int32))] [(.int (2 : Int32)), (.ref a1), (.int c2)])
          refine W35.caload me A9 at_226 (by decide) (v := .int c2) rfl ?_
          show Fi p e below s Z _ _ _ _ T35 (mkF m 227 #[.val (.int p0), .val (.int p1), .val (.int p2), .val (.int p3), .val (.int p4), .val (.int (3 : Int32)), .val (.ref a1), .val (.ref a29), .val (.int (0 : Int32)), .val (.ref d32), .val (.int (2 : Int32))] [(.int c2), (.int c2)])
          refine W35.icY_eq me at_227 rfl (pc' := 232) (by decide) (by decide) ?_
          show Fi p e below s Z _ _ _ _ T35 (mkF m 232 #[.val (.int p0), .val (.int p1), .val (.int p2), .val (.int p3), .val (.int p4), .val (.int (3 : Int32)), .val (.ref a1), .val (.ref a29), .val (.int (0 : Int32)), .val (.ref d32), .val (.int (2 : Int32))] [])
          refine W35.iload me at_232 rfl ?_
          refine W35.iconst me at_234 (v := 2) rfl ?_
          show Fi p e below s Z _ _ _ _ T35 (mkF m 235 #[.val (.int p0), .val (.int p1), .val (.int p2), .val (.int p3), .val (.int p4), .val (.int (3 : Int32)), .val (.ref a1), .val (.ref a29), .val (.int (0 : Int32)), .val (.ref d32), .val (.int (2 : Int32))] [(.int (2 : Int32)), (.int (2 : Int32))])
          refine W35.icY_le me at_235 (by decide) (pc' := 256) (by decide) (by decide) ?_
          show Fi p e below s Z _ _ _ _ T35 (mkF m 256 #[.val (.int p0), .val (.int p1), .val (.int p2), .val (.int p3), .val (.int p4), .val (.int (3 : Int32)), .val (.ref a1), .val (.ref a29), .val (.int (0 : Int32)), .val (.ref d32), .val (.int (2 : Int32))] [])
          refine W35.iconst me at_256 (v := 1) rfl ?_
          show Fi p e below s Z _ _ _ _ T35 (mkF m 257 #[.val (.int p0), .val (.int p1), .val (.int p2), .val (.int p3), .val (.int p4), .val (.int (3 : Int32)), .val (.ref a1), .val (.ref a29), .val (.int (0 : Int32)), .val (.ref d32), .val (.int (2 : Int32))] [(.int (1 : Int32))])
          exact W35.retN hEL me (Or.inl rfl) at_257 rfl (by decide) (by decide)
      ·
        show Fi p e below s Z _ _ _ _ T29 (mkF m 124 #[.val (.int p0), .val (.int p1), .val (.int p2), .val (.int p3), .val (.int p4), .val (.int (3 : Int32)), .val (.ref a1), .val (.ref a29), .val (.int (3 : Int32)), .unset, .unset] [])
        refine W29.iconst me at_124 (v := 1) rfl ?_
        refine W29.istore me at_125 (l' := #[.val (.int p0), .val (.int p1), .val (.int p2), .val (.int p3), .val (.int p4), .val (.int (3 : Int32)), .val (.ref a1), .val (.ref a29), .val (.int (1 : Int32)), .unset, .unset]) rfl ?_
        refine W29.iload me at_127 rfl ?_
        show Fi p e below s Z _ _ _ _ T29 (mkF m 129 #[.val (.int p0), .val (.int p1), .val (.int p2), .val (.int p3), .val (.int p4), .val (.int (3 : Int32)), .val (.ref a1), .val (.ref a29), .val (.int (1 : Int32)), .unset, .unset] [(.int (3 : Int32))])
        refine W29.ifN_le me at_129 (by decide) ?_
        show Fi p e below s Z _ _ _ _ T29 (mkF m 132 #[.val (.int p0), .val (.int p1), .val (.int p2), .val (.int p3), .val (.int p4), .val (.int (3 : Int32)), .val (.ref a1), .val (.ref a29), .val (.int (1 : Int32)), .unset, .unset] [])
        refine W29.aload me at_132 rfl rfl ?_
        refine W29.iconst me at_134 (v := 0) rfl ?_
        show Fi p e below s Z _ _ _ _ T29 (mkF m 135 #[.val (.int p0), .val (.int p1), .val (.int p2), .val (.int p3), .val (.int p4), .val (.int (3 : Int32)), .val (.ref a1), .val (.ref a29), .val (.int (1 : Int32)), .unset, .unset] [(.int (0 : Int32)), (.ref a1)])
        refine W29.caload me A9 at_135 (by decide) (v := .int c0) rfl ?_
        show Fi p e below s Z _ _ _ _ T29 (mkF m 136 #[.val (.int p0), .val (.int p1), .val (.int p2), .val (.int p3), .val (.int p4), .val (.int (3 : Int32)), .val (.ref a1), .val (.ref a29), .val (.int (1 : Int32)), .unset, .unset] [(.int c0)])
        refine W29.bipush me at_136 (v := 35) rfl ?_
        show Fi p e below s Z _ _ _ _ T29 (mkF m 138 #[.val (.int p0), .val (.int p1), .val (.int p2), .val (.int p3), .val (.int p4), .val (.int (3 : Int32)), .val (.ref a1), .val (.ref a29), .val (.int (1 : Int32)), .unset, .unset] [(.int (35 : Int32)), (.int c0)])
        refine W29.ic_ne me at_138 (pc' := 144) (by decide) (by decide) (fun hh0 => ?_) (fun hh0 => ?_)
        ·
          show Fi p e below s Z _ _ _ _ T29 (mkF m 144 #[.val (.int p0), .val (.int p1), .val (.int p2), .val (.int p3), .val (.int p4), .val (.int (3 : Int32)), .val (.ref a1), .val (.ref a29), .val (.int (1 : Int32)), .unset, .unset] [])
          refine W29.aload me at_144 rfl rfl ?_
          show Fi p e below s Z _ _ _ _ T29 (mkF m 146 #[.val (.int p0), .val (.int p1), .val (.int p2), .val (.int p3), .val (.int p4), .val (.int (3 : Int32)), .val (.ref a1), .val (.ref a29), .val (.int (1 : Int32)), .unset, .unset] [(.ref a29)])
          show Fi p e below s Z _ _ _ _ T29 (mkF m 146 #[.val (.int p0), .val (.int p1), .val (.int p2), .val (.int p3), .val (.int p4), .val (.int (3 : Int32)), .val (.ref a1), .val (.ref a29), .val (.int (1 : Int32)), .unset, .unset] [(.ref a29)])
          refine W29.callS me hEL (hw _ (List.mem_of_getElem? (i := 30) rfl)) (hw _ (List.mem_of_getElem? (i := 31) rfl)) (hw _ (List.mem_of_getElem? (i := 32) rfl)) (hw _ (List.mem_of_getElem? (i := 33) rfl)) (argsL := [(.ref a29)]) (rest := []) (c_fr1 (ss := []) g W29.old (cs := [c0, c1, c2]) L29 1 1 (own_le rfl) hh1 (alS al0 hh0) (by decide) rfl) at_146 (by decide) (fun _ q => nomatch q) rfl (lenOf pd_24 rfl) (own_le rfl) (own_le rfl) (own_le rfl) (own_le rfl) rfl ?_
          intro T36 h36 v36 W36 z36 q36
          obtain ⟨_, rfl, E36, d36, rfl, M36⟩ := q36
          show Fi p e below s Z _ _ _ _ T36 (mkF m 149 #[.val (.int p0), .val (.int p1), .val (.int p2), .val (.int p3), .val (.int p4), .val (.int (3 : Int32)), .val (.ref a1), .val (.ref a29), .val (.int (1 : Int32)), .unset, .unset] [(.ref d36)])
          replace A9 := A9.ext E36
          replace L29 := L29.ext E36
          refine W36.astore me at_149 (l' := #[.val (.int p0), .val (.int p1), .val (.int p2), .val (.int p3), .val (.int p4), .val (.int (3 : Int32)), .val (.ref a1), .val (.ref a29), .val (.int (1 : Int32)), .val (.ref d36), .unset]) rfl rfl ?_
          refine W36.iload me at_151 rfl ?_
          refine W36.iload me at_153 rfl ?_
          show Fi p e below s Z _ _ _ _ T36 (mkF m 155 #[.val (.int p0), .val (.int p1), .val (.int p2), .val (.int p3), .val (.int p4), .val (.int (3 : Int32)), .val (.ref a1), .val (.ref a29), .val (.int (1 : Int32)), .val (.ref d36), .unset] [(.int (3 : Int32)), (.int (1 : Int32))])
          refine W36.icY_ne me at_155 (by decide) (pc' := 164) (by decide) (by decide) ?_
          show Fi p e below s Z _ _ _ _ T36 (mkF m 164 #[.val (.int p0), .val (.int p1), .val (.int p2), .val (.int p3), .val (.int p4), .val (.int (3 : Int32)), .val (.ref a1), .val (.ref a29), .val (.int (1 : Int32)), .val (.ref d36), .unset] [])
          refine W36.iload me at_164 rfl ?_
          refine W36.iload me at_166 rfl ?_
          refine W36.isub me at_168 ?_
          refine W36.iconst me at_169 (v := 1) rfl ?_
          refine W36.isub me at_170 ?_
          show Fi p e below s Z _ _ _ _ T36 (mkF m 171 #[.val (.int p0), .val (.int p1), .val (.int p2), .val (.int p3), .val (.int p4), .val (.int (3 : Int32)), .val (.ref a1), .val (.ref a29), .val (.int (1 : Int32)), .val (.ref d36), .unset] [(.int (((3 : Int32) - (1 : Int32)) - (1 : Int32)))])
          show Fi p e below s Z _ _ _ _ T36 (mkF m 171 #[.val (.int p0), .val (.int p1), .val (.int p2), .val (.int p3), .val (.int p4), .val (.int (3 : Int32)), .val (.ref a1), .val (.ref a29), .val (.int (1 : Int32)), .val (.ref d36), .unset] [(.int (1 : Int32))])
          refine W36.istore me at_171 (l' := #[.val (.int p0), .val (.int p1), .val (.int p2), .val (.int p3), .val (.int p4), .val (.int (3 : Int32)), .val (.ref a1), .val (.ref a29), .val (.int (1 : Int32)), .val (.ref d36), .val (.int (1 : Int32))]) rfl ?_
          refine W36.aload me at_173 rfl rfl ?_
          show Fi p e below s Z _ _ _ _ T36 (mkF m 175 #[.val (.int p0), .val (.int p1), .val (.int p2), .val (.int p3), .val (.int p4), .val (.int (3 : Int32)), .val (.ref a1), .val (.ref a29), .val (.int (1 : Int32)), .val (.ref d36), .val (.int (1 : Int32))] [(.ref d36)])
          refine W36.callV me hEL (hw _ (List.mem_of_getElem? (i := 133) rfl)) (hw _ (List.mem_of_getElem? (i := 51) rfl)) (fun hZ' => notFace_of_selects (args := #[]) (mvT (s := s.setVm _) hZ' (hw _ (List.mem_of_getElem? (i := 53) rfl)))) (hw _ (List.mem_of_getElem? (i := 53) rfl)) (hw _ (List.mem_of_getElem? (i := 52) rfl)) (hw _ (List.mem_of_getElem? (i := 11) rfl)) (hw _ (List.mem_of_getElem? (i := 54) rfl)) (a := d36) (argsL := []) (rest := []) M36.exa (c_length (ss := []) g W36.old (cs := [c2]) M36) at_175 (by decide) (fun _ q => nomatch q) rfl (lenOf pd_12 rfl) (own_le rfl) (own_le rfl) (own_le rfl) (own_le rfl) rfl ?_
          intro T37 h37 v37 W37 z37 q37
          obtain ⟨_, rfl, rfl, rfl⟩ := q37
          show Fi p e below s Z _ _ _ _ T37 (mkF m 178 #[.val (.int p0), .val (.int p1), .val (.int p2), .val (.int p3), .val (.int p4), .val (.int (3 : Int32)), .val (.ref a1), .val (.ref a29), .val (.int (1 : Int32)), .val (.ref d36), .val (.int (1 : Int32))] [(.int (1 : Int32))])
          refine W37.iload me at_178 rfl ?_
          show Fi p e below s Z _ _ _ _ T37 (mkF m 180 #[.val (.int p0), .val (.int p1), .val (.int p2), .val (.int p3), .val (.int p4), .val (.int (3 : Int32)), .val (.ref a1), .val (.ref a29), .val (.int (1 : Int32)), .val (.ref d36), .val (.int (1 : Int32))] [(.int (1 : Int32)), (.int (1 : Int32))])
          refine W37.icY_eq me at_180 (by decide) (pc' := 185) (by decide) (by decide) ?_
          show Fi p e below s Z _ _ _ _ T37 (mkF m 185 #[.val (.int p0), .val (.int p1), .val (.int p2), .val (.int p3), .val (.int p4), .val (.int (3 : Int32)), .val (.ref a1), .val (.ref a29), .val (.int (1 : Int32)), .val (.ref d36), .val (.int (1 : Int32))] [])
          refine W37.iload me at_185 rfl ?_
          show Fi p e below s Z _ _ _ _ T37 (mkF m 187 #[.val (.int p0), .val (.int p1), .val (.int p2), .val (.int p3), .val (.int p4), .val (.int (3 : Int32)), .val (.ref a1), .val (.ref a29), .val (.int (1 : Int32)), .val (.ref d36), .val (.int (1 : Int32))] [(.int (1 : Int32))])
          refine W37.ifN_le me at_187 (by decide) ?_
          show Fi p e below s Z _ _ _ _ T37 (mkF m 190 #[.val (.int p0), .val (.int p1), .val (.int p2), .val (.int p3), .val (.int p4), .val (.int (3 : Int32)), .val (.ref a1), .val (.ref a29), .val (.int (1 : Int32)), .val (.ref d36), .val (.int (1 : Int32))] [])
          refine W37.aload me at_190 rfl rfl ?_
          refine W37.iconst me at_192 (v := 0) rfl ?_
          show Fi p e below s Z _ _ _ _ T37 (mkF m 193 #[.val (.int p0), .val (.int p1), .val (.int p2), .val (.int p3), .val (.int p4), .val (.int (3 : Int32)), .val (.ref a1), .val (.ref a29), .val (.int (1 : Int32)), .val (.ref d36), .val (.int (1 : Int32))] [(.int (0 : Int32)), (.ref d36)])
          refine W37.callV me hEL (hw _ (List.mem_of_getElem? (i := 134) rfl)) (hw _ (List.mem_of_getElem? (i := 135) rfl)) (fun hZ' => notFace_of_selects (args := #[]) (mvT (s := s.setVm _) hZ' (hw _ (List.mem_of_getElem? (i := 137) rfl)))) (hw _ (List.mem_of_getElem? (i := 137) rfl)) (hw _ (List.mem_of_getElem? (i := 136) rfl)) (hw _ (List.mem_of_getElem? (i := 11) rfl)) (hw _ (List.mem_of_getElem? (i := 138) rfl)) (a := d36) (argsL := [(.int (0 : Int32))]) (rest := []) M36.exa (c_charat (ss := []) g W37.old (cs := [c2]) (i := 0) M36 (own_le rfl)) at_193 (by decide) (fun _ q => nomatch q) rfl (lenOf pd_22 rfl) (own_le rfl) (own_le rfl) (own_le rfl) (own_le rfl) rfl ?_
          intro T38 h38 v38 W38 z38 q38
          obtain ⟨_, rfl, rfl, rfl⟩ := q38
          show Fi p e below s Z _ _ _ _ T38 (mkF m 196 #[.val (.int p0), .val (.int p1), .val (.int p2), .val (.int p3), .val (.int p4), .val (.int (3 : Int32)), .val (.ref a1), .val (.ref a29), .val (.int (1 : Int32)), .val (.ref d36), .val (.int (1 : Int32))] [(.int c2)])
          refine W38.aload me at_196 rfl rfl ?_
          refine W38.iload me at_198 rfl ?_
          refine W38.iconst me at_200 (v := 1) rfl ?_
          refine W38.iadd me at_201 ?_
          show Fi p e below s Z _ _ _ _ T38 (mkF m 202 #[.val (.int p0), .val (.int p1), .val (.int p2), .val (.int p3), .val (.int p4), .val (.int (3 : Int32)), .val (.ref a1), .val (.ref a29), .val (.int (1 : Int32)), .val (.ref d36), .val (.int (1 : Int32))] [(.int ((1 : Int32) + (1 : Int32))), (.ref a1), (.int c2)])
          show Fi p e below s Z _ _ _ _ T38 (mkF m 202 #[.val (.int p0), .val (.int p1), .val (.int p2), .val (.int p3), .val (.int p4), .val (.int (3 : Int32)), .val (.ref a1), .val (.ref a29), .val (.int (1 : Int32)), .val (.ref d36), .val (.int (1 : Int32))] [(.int (2 : Int32)), (.ref a1), (.int c2)])
          refine W38.caload me A9 at_202 (by decide) (v := .int c2) rfl ?_
          show Fi p e below s Z _ _ _ _ T38 (mkF m 203 #[.val (.int p0), .val (.int p1), .val (.int p2), .val (.int p3), .val (.int p4), .val (.int (3 : Int32)), .val (.ref a1), .val (.ref a29), .val (.int (1 : Int32)), .val (.ref d36), .val (.int (1 : Int32))] [(.int c2), (.int c2)])
          refine W38.icY_eq me at_203 rfl (pc' := 208) (by decide) (by decide) ?_
          show Fi p e below s Z _ _ _ _ T38 (mkF m 208 #[.val (.int p0), .val (.int p1), .val (.int p2), .val (.int p3), .val (.int p4), .val (.int (3 : Int32)), .val (.ref a1), .val (.ref a29), .val (.int (1 : Int32)), .val (.ref d36), .val (.int (1 : Int32))] [])
          refine W38.iload me at_208 rfl ?_
          refine W38.iconst me at_210 (v := 1) rfl ?_
          show Fi p e below s Z _ _ _ _ T38 (mkF m 211 #[.val (.int p0), .val (.int p1), .val (.int p2), .val (.int p3), .val (.int p4), .val (.int (3 : Int32)), .val (.ref a1), .val (.ref a29), .val (.int (1 : Int32)), .val (.ref d36), .val (.int (1 : Int32))] [(.int (1 : Int32)), (.int (1 : Int32))])
          refine W38.icY_le me at_211 (by decide) (pc' := 232) (by decide) (by decide) ?_
          show Fi p e below s Z _ _ _ _ T38 (mkF m 232 #[.val (.int p0), .val (.int p1), .val (.int p2), .val (.int p3), .val (.int p4), .val (.int (3 : Int32)), .val (.ref a1), .val (.ref a29), .val (.int (1 : Int32)), .val (.ref d36), .val (.int (1 : Int32))] [])
          refine W38.iload me at_232 rfl ?_
          refine W38.iconst me at_234 (v := 2) rfl ?_
          show Fi p e below s Z _ _ _ _ T38 (mkF m 235 #[.val (.int p0), .val (.int p1), .val (.int p2), .val (.int p3), .val (.int p4), .val (.int (3 : Int32)), .val (.ref a1), .val (.ref a29), .val (.int (1 : Int32)), .val (.ref d36), .val (.int (1 : Int32))] [(.int (2 : Int32)), (.int (1 : Int32))])
          refine W38.icY_le me at_235 (by decide) (pc' := 256) (by decide) (by decide) ?_
          show Fi p e below s Z _ _ _ _ T38 (mkF m 256 #[.val (.int p0), .val (.int p1), .val (.int p2), .val (.int p3), .val (.int p4), .val (.int (3 : Int32)), .val (.ref a1), .val (.ref a29), .val (.int (1 : Int32)), .val (.ref d36), .val (.int (1 : Int32))] [])
          refine W38.iconst me at_256 (v := 1) rfl ?_
          show Fi p e below s Z _ _ _ _ T38 (mkF m 257 #[.val (.int p0), .val (.int p1), .val (.int p2), .val (.int p3), .val (.int p4), .val (.int (3 : Int32)), .val (.ref a1), .val (.ref a29), .val (.int (1 : Int32)), .val (.ref d36), .val (.int (1 : Int32))] [(.int (1 : Int32))])
          exact W38.retN hEL me (Or.inl rfl) at_257 rfl (by decide) (by decide)
        ·
          show Fi p e below s Z _ _ _ _ T29 (mkF m 141 #[.val (.int p0), .val (.int p1), .val (.int p2), .val (.int p3), .val (.int p4), .val (.int (3 : Int32)), .val (.ref a1), .val (.ref a29), .val (.int (1 : Int32)), .unset, .unset] [])
          refine W29.iconst me at_141 (v := 0) rfl ?_
          refine W29.istore me at_142 (l' := #[.val (.int p0), .val (.int p1), .val (.int p2), .val (.int p3), .val (.int p4), .val (.int (3 : Int32)), .val (.ref a1), .val (.ref a29), .val (.int (0 : Int32)), .unset, .unset]) rfl ?_
          refine W29.aload me at_144 rfl rfl ?_
          show Fi p e below s Z _ _ _ _ T29 (mkF m 146 #[.val (.int p0), .val (.int p1), .val (.int p2), .val (.int p3), .val (.int p4), .val (.int (3 : Int32)), .val (.ref a1), .val (.ref a29), .val (.int (0 : Int32)), .unset, .unset] [(.ref a29)])
          show Fi p e below s Z _ _ _ _ T29 (mkF m 146 #[.val (.int p0), .val (.int p1), .val (.int p2), .val (.int p3), .val (.int p4), .val (.int (3 : Int32)), .val (.ref a1), .val (.ref a29), .val (.int (0 : Int32)), .unset, .unset] [(.ref a29)])
          refine W29.callS me hEL (hw _ (List.mem_of_getElem? (i := 30) rfl)) (hw _ (List.mem_of_getElem? (i := 31) rfl)) (hw _ (List.mem_of_getElem? (i := 32) rfl)) (hw _ (List.mem_of_getElem? (i := 33) rfl)) (argsL := [(.ref a29)]) (rest := []) (c_fr1 (ss := []) g W29.old (cs := [c0, c1, c2]) L29 0 2 (own_le rfl) hh0 al0 (by decide) rfl) at_146 (by decide) (fun _ q => nomatch q) rfl (lenOf pd_24 rfl) (own_le rfl) (own_le rfl) (own_le rfl) (own_le rfl) rfl ?_
          intro T39 h39 v39 W39 z39 q39
          obtain ⟨_, rfl, E39, d39, rfl, M39⟩ := q39
          show Fi p e below s Z _ _ _ _ T39 (mkF m 149 #[.val (.int p0), .val (.int p1), .val (.int p2), .val (.int p3), .val (.int p4), .val (.int (3 : Int32)), .val (.ref a1), .val (.ref a29), .val (.int (0 : Int32)), .unset, .unset] [(.ref d39)])
          replace A9 := A9.ext E39
          replace L29 := L29.ext E39
          refine W39.astore me at_149 (l' := #[.val (.int p0), .val (.int p1), .val (.int p2), .val (.int p3), .val (.int p4), .val (.int (3 : Int32)), .val (.ref a1), .val (.ref a29), .val (.int (0 : Int32)), .val (.ref d39), .unset]) rfl rfl ?_
          refine W39.iload me at_151 rfl ?_
          refine W39.iload me at_153 rfl ?_
          show Fi p e below s Z _ _ _ _ T39 (mkF m 155 #[.val (.int p0), .val (.int p1), .val (.int p2), .val (.int p3), .val (.int p4), .val (.int (3 : Int32)), .val (.ref a1), .val (.ref a29), .val (.int (0 : Int32)), .val (.ref d39), .unset] [(.int (3 : Int32)), (.int (0 : Int32))])
          refine W39.icY_ne me at_155 (by decide) (pc' := 164) (by decide) (by decide) ?_
          show Fi p e below s Z _ _ _ _ T39 (mkF m 164 #[.val (.int p0), .val (.int p1), .val (.int p2), .val (.int p3), .val (.int p4), .val (.int (3 : Int32)), .val (.ref a1), .val (.ref a29), .val (.int (0 : Int32)), .val (.ref d39), .unset] [])
          refine W39.iload me at_164 rfl ?_
          refine W39.iload me at_166 rfl ?_
          refine W39.isub me at_168 ?_
          refine W39.iconst me at_169 (v := 1) rfl ?_
          refine W39.isub me at_170 ?_
          show Fi p e below s Z _ _ _ _ T39 (mkF m 171 #[.val (.int p0), .val (.int p1), .val (.int p2), .val (.int p3), .val (.int p4), .val (.int (3 : Int32)), .val (.ref a1), .val (.ref a29), .val (.int (0 : Int32)), .val (.ref d39), .unset] [(.int (((3 : Int32) - (0 : Int32)) - (1 : Int32)))])
          show Fi p e below s Z _ _ _ _ T39 (mkF m 171 #[.val (.int p0), .val (.int p1), .val (.int p2), .val (.int p3), .val (.int p4), .val (.int (3 : Int32)), .val (.ref a1), .val (.ref a29), .val (.int (0 : Int32)), .val (.ref d39), .unset] [(.int (2 : Int32))])
          refine W39.istore me at_171 (l' := #[.val (.int p0), .val (.int p1), .val (.int p2), .val (.int p3), .val (.int p4), .val (.int (3 : Int32)), .val (.ref a1), .val (.ref a29), .val (.int (0 : Int32)), .val (.ref d39), .val (.int (2 : Int32))]) rfl ?_
          refine W39.aload me at_173 rfl rfl ?_
          show Fi p e below s Z _ _ _ _ T39 (mkF m 175 #[.val (.int p0), .val (.int p1), .val (.int p2), .val (.int p3), .val (.int p4), .val (.int (3 : Int32)), .val (.ref a1), .val (.ref a29), .val (.int (0 : Int32)), .val (.ref d39), .val (.int (2 : Int32))] [(.ref d39)])
          refine W39.callV me hEL (hw _ (List.mem_of_getElem? (i := 133) rfl)) (hw _ (List.mem_of_getElem? (i := 51) rfl)) (fun hZ' => notFace_of_selects (args := #[]) (mvT (s := s.setVm _) hZ' (hw _ (List.mem_of_getElem? (i := 53) rfl)))) (hw _ (List.mem_of_getElem? (i := 53) rfl)) (hw _ (List.mem_of_getElem? (i := 52) rfl)) (hw _ (List.mem_of_getElem? (i := 11) rfl)) (hw _ (List.mem_of_getElem? (i := 54) rfl)) (a := d39) (argsL := []) (rest := []) M39.exa (c_length (ss := []) g W39.old (cs := [c1, c2]) M39) at_175 (by decide) (fun _ q => nomatch q) rfl (lenOf pd_12 rfl) (own_le rfl) (own_le rfl) (own_le rfl) (own_le rfl) rfl ?_
          intro T40 h40 v40 W40 z40 q40
          obtain ⟨_, rfl, rfl, rfl⟩ := q40
          show Fi p e below s Z _ _ _ _ T40 (mkF m 178 #[.val (.int p0), .val (.int p1), .val (.int p2), .val (.int p3), .val (.int p4), .val (.int (3 : Int32)), .val (.ref a1), .val (.ref a29), .val (.int (0 : Int32)), .val (.ref d39), .val (.int (2 : Int32))] [(.int (2 : Int32))])
          refine W40.iload me at_178 rfl ?_
          show Fi p e below s Z _ _ _ _ T40 (mkF m 180 #[.val (.int p0), .val (.int p1), .val (.int p2), .val (.int p3), .val (.int p4), .val (.int (3 : Int32)), .val (.ref a1), .val (.ref a29), .val (.int (0 : Int32)), .val (.ref d39), .val (.int (2 : Int32))] [(.int (2 : Int32)), (.int (2 : Int32))])
          refine W40.icY_eq me at_180 (by decide) (pc' := 185) (by decide) (by decide) ?_
          show Fi p e below s Z _ _ _ _ T40 (mkF m 185 #[.val (.int p0), .val (.int p1), .val (.int p2), .val (.int p3), .val (.int p4), .val (.int (3 : Int32)), .val (.ref a1), .val (.ref a29), .val (.int (0 : Int32)), .val (.ref d39), .val (.int (2 : Int32))] [])
          refine W40.iload me at_185 rfl ?_
          show Fi p e below s Z _ _ _ _ T40 (mkF m 187 #[.val (.int p0), .val (.int p1), .val (.int p2), .val (.int p3), .val (.int p4), .val (.int (3 : Int32)), .val (.ref a1), .val (.ref a29), .val (.int (0 : Int32)), .val (.ref d39), .val (.int (2 : Int32))] [(.int (2 : Int32))])
          refine W40.ifN_le me at_187 (by decide) ?_
          show Fi p e below s Z _ _ _ _ T40 (mkF m 190 #[.val (.int p0), .val (.int p1), .val (.int p2), .val (.int p3), .val (.int p4), .val (.int (3 : Int32)), .val (.ref a1), .val (.ref a29), .val (.int (0 : Int32)), .val (.ref d39), .val (.int (2 : Int32))] [])
          refine W40.aload me at_190 rfl rfl ?_
          refine W40.iconst me at_192 (v := 0) rfl ?_
          show Fi p e below s Z _ _ _ _ T40 (mkF m 193 #[.val (.int p0), .val (.int p1), .val (.int p2), .val (.int p3), .val (.int p4), .val (.int (3 : Int32)), .val (.ref a1), .val (.ref a29), .val (.int (0 : Int32)), .val (.ref d39), .val (.int (2 : Int32))] [(.int (0 : Int32)), (.ref d39)])
          refine W40.callV me hEL (hw _ (List.mem_of_getElem? (i := 134) rfl)) (hw _ (List.mem_of_getElem? (i := 135) rfl)) (fun hZ' => notFace_of_selects (args := #[]) (mvT (s := s.setVm _) hZ' (hw _ (List.mem_of_getElem? (i := 137) rfl)))) (hw _ (List.mem_of_getElem? (i := 137) rfl)) (hw _ (List.mem_of_getElem? (i := 136) rfl)) (hw _ (List.mem_of_getElem? (i := 11) rfl)) (hw _ (List.mem_of_getElem? (i := 138) rfl)) (a := d39) (argsL := [(.int (0 : Int32))]) (rest := []) M39.exa (c_charat (ss := []) g W40.old (cs := [c1, c2]) (i := 0) M39 (own_le rfl)) at_193 (by decide) (fun _ q => nomatch q) rfl (lenOf pd_22 rfl) (own_le rfl) (own_le rfl) (own_le rfl) (own_le rfl) rfl ?_
          intro T41 h41 v41 W41 z41 q41
          obtain ⟨_, rfl, rfl, rfl⟩ := q41
          show Fi p e below s Z _ _ _ _ T41 (mkF m 196 #[.val (.int p0), .val (.int p1), .val (.int p2), .val (.int p3), .val (.int p4), .val (.int (3 : Int32)), .val (.ref a1), .val (.ref a29), .val (.int (0 : Int32)), .val (.ref d39), .val (.int (2 : Int32))] [(.int c1)])
          refine W41.aload me at_196 rfl rfl ?_
          refine W41.iload me at_198 rfl ?_
          refine W41.iconst me at_200 (v := 1) rfl ?_
          refine W41.iadd me at_201 ?_
          show Fi p e below s Z _ _ _ _ T41 (mkF m 202 #[.val (.int p0), .val (.int p1), .val (.int p2), .val (.int p3), .val (.int p4), .val (.int (3 : Int32)), .val (.ref a1), .val (.ref a29), .val (.int (0 : Int32)), .val (.ref d39), .val (.int (2 : Int32))] [(.int ((0 : Int32) + (1 : Int32))), (.ref a1), (.int c1)])
          show Fi p e below s Z _ _ _ _ T41 (mkF m 202 #[.val (.int p0), .val (.int p1), .val (.int p2), .val (.int p3), .val (.int p4), .val (.int (3 : Int32)), .val (.ref a1), .val (.ref a29), .val (.int (0 : Int32)), .val (.ref d39), .val (.int (2 : Int32))] [(.int (1 : Int32)), (.ref a1), (.int c1)])
          refine W41.caload me A9 at_202 (by decide) (v := .int c1) rfl ?_
          show Fi p e below s Z _ _ _ _ T41 (mkF m 203 #[.val (.int p0), .val (.int p1), .val (.int p2), .val (.int p3), .val (.int p4), .val (.int (3 : Int32)), .val (.ref a1), .val (.ref a29), .val (.int (0 : Int32)), .val (.ref d39), .val (.int (2 : Int32))] [(.int c1), (.int c1)])
          refine W41.icY_eq me at_203 rfl (pc' := 208) (by decide) (by decide) ?_
          show Fi p e below s Z _ _ _ _ T41 (mkF m 208 #[.val (.int p0), .val (.int p1), .val (.int p2), .val (.int p3), .val (.int p4), .val (.int (3 : Int32)), .val (.ref a1), .val (.ref a29), .val (.int (0 : Int32)), .val (.ref d39), .val (.int (2 : Int32))] [])
          refine W41.iload me at_208 rfl ?_
          refine W41.iconst me at_210 (v := 1) rfl ?_
          show Fi p e below s Z _ _ _ _ T41 (mkF m 211 #[.val (.int p0), .val (.int p1), .val (.int p2), .val (.int p3), .val (.int p4), .val (.int (3 : Int32)), .val (.ref a1), .val (.ref a29), .val (.int (0 : Int32)), .val (.ref d39), .val (.int (2 : Int32))] [(.int (1 : Int32)), (.int (2 : Int32))])
          refine W41.icN_le me at_211 (by decide) ?_
          show Fi p e below s Z _ _ _ _ T41 (mkF m 214 #[.val (.int p0), .val (.int p1), .val (.int p2), .val (.int p3), .val (.int p4), .val (.int (3 : Int32)), .val (.ref a1), .val (.ref a29), .val (.int (0 : Int32)), .val (.ref d39), .val (.int (2 : Int32))] [])
          refine W41.aload me at_214 rfl rfl ?_
          refine W41.iconst me at_216 (v := 1) rfl ?_
          show Fi p e below s Z _ _ _ _ T41 (mkF m 217 #[.val (.int p0), .val (.int p1), .val (.int p2), .val (.int p3), .val (.int p4), .val (.int (3 : Int32)), .val (.ref a1), .val (.ref a29), .val (.int (0 : Int32)), .val (.ref d39), .val (.int (2 : Int32))] [(.int (1 : Int32)), (.ref d39)])
          refine W41.callV me hEL (hw _ (List.mem_of_getElem? (i := 134) rfl)) (hw _ (List.mem_of_getElem? (i := 135) rfl)) (fun hZ' => notFace_of_selects (args := #[]) (mvT (s := s.setVm _) hZ' (hw _ (List.mem_of_getElem? (i := 137) rfl)))) (hw _ (List.mem_of_getElem? (i := 137) rfl)) (hw _ (List.mem_of_getElem? (i := 136) rfl)) (hw _ (List.mem_of_getElem? (i := 11) rfl)) (hw _ (List.mem_of_getElem? (i := 138) rfl)) (a := d39) (argsL := [(.int (1 : Int32))]) (rest := []) M39.exa (c_charat (ss := []) g W41.old (cs := [c1, c2]) (i := 1) M39 (own_le rfl)) at_217 (by decide) (fun _ q => nomatch q) rfl (lenOf pd_22 rfl) (own_le rfl) (own_le rfl) (own_le rfl) (own_le rfl) rfl ?_
          intro T42 h42 v42 W42 z42 q42
          obtain ⟨_, rfl, rfl, rfl⟩ := q42
          show Fi p e below s Z _ _ _ _ T42 (mkF m 220 #[.val (.int p0), .val (.int p1), .val (.int p2), .val (.int p3), .val (.int p4), .val (.int (3 : Int32)), .val (.ref a1), .val (.ref a29), .val (.int (0 : Int32)), .val (.ref d39), .val (.int (2 : Int32))] [(.int c2)])
          refine W42.aload me at_220 rfl rfl ?_
          refine W42.iload me at_222 rfl ?_
          refine W42.iconst me at_224 (v := 2) rfl ?_
          refine W42.iadd me at_225 ?_
          show Fi p e below s Z _ _ _ _ T42 (mkF m 226 #[.val (.int p0), .val (.int p1), .val (.int p2), .val (.int p3), .val (.int p4), .val (.int (3 : Int32)), .val (.ref a1), .val (.ref a29), .val (.int (0 : Int32)), .val (.ref d39), .val (.int (2 : Int32))] [(.int ((0 : Int32) + (2 : Int32))), (.ref a1), (.int c2)])
          show Fi p e below s Z _ _ _ _ T42 (mkF m 226 #[.val (.int p0), .val (.int p1), .val (.int p2), .val (.int p3), .val (.int p4), .val (.int (3 : Int32)), .val (.ref a1), .val (.ref a29), .val (.int (0 : Int32)), .val (.ref d39), .val (.int (2 : Int32))] [(.int (2 : Int32)), (.ref a1), (.int c2)])
          refine W42.caload me A9 at_226 (by decide) (v := .int c2) rfl ?_
          show Fi p e below s Z _ _ _ _ T42 (mkF m 227 #[.val (.int p0), .val (.int p1), .val (.int p2), .val (.int p3), .val (.int p4), .val (.int (3 : Int32)), .val (.ref a1), .val (.ref a29), .val (.int (0 : Int32)), .val (.ref d39), .val (.int (2 : Int32))] [(.int c2), (.int c2)])
          refine W42.icY_eq me at_227 rfl (pc' := 232) (by decide) (by decide) ?_
          show Fi p e below s Z _ _ _ _ T42 (mkF m 232 #[.val (.int p0), .val (.int p1), .val (.int p2), .val (.int p3), .val (.int p4), .val (.int (3 : Int32)), .val (.ref a1), .val (.ref a29), .val (.int (0 : Int32)), .val (.ref d39), .val (.int (2 : Int32))] [])
          refine W42.iload me at_232 rfl ?_
          refine W42.iconst me at_234 (v := 2) rfl ?_
          show Fi p e below s Z _ _ _ _ T42 (mkF m 235 #[.val (.int p0), .val (.int p1), .val (.int p2), .val (.int p3), .val (.int p4), .val (.int (3 : Int32)), .val (.ref a1), .val (.ref a29), .val (.int (0 : Int32)), .val (.ref d39), .val (.int (2 : Int32))] [(.int (2 : Int32)), (.int (2 : Int32))])
          refine W42.icY_le me at_235 (by decide) (pc' := 256) (by decide) (by decide) ?_
          show Fi p e below s Z _ _ _ _ T42 (mkF m 256 #[.val (.int p0), .val (.int p1), .val (.int p2), .val (.int p3), .val (.int p4), .val (.int (3 : Int32)), .val (.ref a1), .val (.ref a29), .val (.int (0 : Int32)), .val (.ref d39), .val (.int (2 : Int32))] [])
          refine W42.iconst me at_256 (v := 1) rfl ?_
          show Fi p e below s Z _ _ _ _ T42 (mkF m 257 #[.val (.int p0), .val (.int p1), .val (.int p2), .val (.int p3), .val (.int p4), .val (.int (3 : Int32)), .val (.ref a1), .val (.ref a29), .val (.int (0 : Int32)), .val (.ref d39), .val (.int (2 : Int32))] [(.int (1 : Int32))])
          exact W42.retN hEL me (Or.inl rfl) at_257 rfl (by decide) (by decide)
    ·
      show Fi p e below s Z _ _ _ _ T29 (mkF m 106 #[.val (.int p0), .val (.int p1), .val (.int p2), .val (.int p3), .val (.int p4), .val (.int (3 : Int32)), .val (.ref a1), .val (.ref a29), .val (.int (3 : Int32)), .unset, .unset] [])
      refine W29.iconst me at_106 (v := 2) rfl ?_
      refine W29.istore me at_107 (l' := #[.val (.int p0), .val (.int p1), .val (.int p2), .val (.int p3), .val (.int p4), .val (.int (3 : Int32)), .val (.ref a1), .val (.ref a29), .val (.int (2 : Int32)), .unset, .unset]) rfl ?_
      refine W29.iload me at_109 rfl ?_
      refine W29.iconst me at_111 (v := 1) rfl ?_
      show Fi p e below s Z _ _ _ _ T29 (mkF m 112 #[.val (.int p0), .val (.int p1), .val (.int p2), .val (.int p3), .val (.int p4), .val (.int (3 : Int32)), .val (.ref a1), .val (.ref a29), .val (.int (2 : Int32)), .unset, .unset] [(.int (1 : Int32)), (.int (3 : Int32))])
      refine W29.icN_le me at_112 (by decide) ?_
      show Fi p e below s Z _ _ _ _ T29 (mkF m 115 #[.val (.int p0), .val (.int p1), .val (.int p2), .val (.int p3), .val (.int p4), .val (.int (3 : Int32)), .val (.ref a1), .val (.ref a29), .val (.int (2 : Int32)), .unset, .unset] [])
      refine W29.aload me at_115 rfl rfl ?_
      refine W29.iconst me at_117 (v := 1) rfl ?_
      show Fi p e below s Z _ _ _ _ T29 (mkF m 118 #[.val (.int p0), .val (.int p1), .val (.int p2), .val (.int p3), .val (.int p4), .val (.int (3 : Int32)), .val (.ref a1), .val (.ref a29), .val (.int (2 : Int32)), .unset, .unset] [(.int (1 : Int32)), (.ref a1)])
      refine W29.caload me A9 at_118 (by decide) (v := .int c1) rfl ?_
      show Fi p e below s Z _ _ _ _ T29 (mkF m 119 #[.val (.int p0), .val (.int p1), .val (.int p2), .val (.int p3), .val (.int p4), .val (.int (3 : Int32)), .val (.ref a1), .val (.ref a29), .val (.int (2 : Int32)), .unset, .unset] [(.int c1)])
      refine W29.bipush me at_119 (v := 35) rfl ?_
      show Fi p e below s Z _ _ _ _ T29 (mkF m 121 #[.val (.int p0), .val (.int p1), .val (.int p2), .val (.int p3), .val (.int p4), .val (.int (3 : Int32)), .val (.ref a1), .val (.ref a29), .val (.int (2 : Int32)), .unset, .unset] [(.int (35 : Int32)), (.int c1)])
      refine W29.ic_ne me at_121 (pc' := 127) (by decide) (by decide) (fun hh1 => ?_) (fun hh1 => ?_)
      ·
        show Fi p e below s Z _ _ _ _ T29 (mkF m 127 #[.val (.int p0), .val (.int p1), .val (.int p2), .val (.int p3), .val (.int p4), .val (.int (3 : Int32)), .val (.ref a1), .val (.ref a29), .val (.int (2 : Int32)), .unset, .unset] [])
        refine W29.iload me at_127 rfl ?_
        show Fi p e below s Z _ _ _ _ T29 (mkF m 129 #[.val (.int p0), .val (.int p1), .val (.int p2), .val (.int p3), .val (.int p4), .val (.int (3 : Int32)), .val (.ref a1), .val (.ref a29), .val (.int (2 : Int32)), .unset, .unset] [(.int (3 : Int32))])
        refine W29.ifN_le me at_129 (by decide) ?_
        show Fi p e below s Z _ _ _ _ T29 (mkF m 132 #[.val (.int p0), .val (.int p1), .val (.int p2), .val (.int p3), .val (.int p4), .val (.int (3 : Int32)), .val (.ref a1), .val (.ref a29), .val (.int (2 : Int32)), .unset, .unset] [])
        refine W29.aload me at_132 rfl rfl ?_
        refine W29.iconst me at_134 (v := 0) rfl ?_
        show Fi p e below s Z _ _ _ _ T29 (mkF m 135 #[.val (.int p0), .val (.int p1), .val (.int p2), .val (.int p3), .val (.int p4), .val (.int (3 : Int32)), .val (.ref a1), .val (.ref a29), .val (.int (2 : Int32)), .unset, .unset] [(.int (0 : Int32)), (.ref a1)])
        refine W29.caload me A9 at_135 (by decide) (v := .int c0) rfl ?_
        show Fi p e below s Z _ _ _ _ T29 (mkF m 136 #[.val (.int p0), .val (.int p1), .val (.int p2), .val (.int p3), .val (.int p4), .val (.int (3 : Int32)), .val (.ref a1), .val (.ref a29), .val (.int (2 : Int32)), .unset, .unset] [(.int c0)])
        refine W29.bipush me at_136 (v := 35) rfl ?_
        show Fi p e below s Z _ _ _ _ T29 (mkF m 138 #[.val (.int p0), .val (.int p1), .val (.int p2), .val (.int p3), .val (.int p4), .val (.int (3 : Int32)), .val (.ref a1), .val (.ref a29), .val (.int (2 : Int32)), .unset, .unset] [(.int (35 : Int32)), (.int c0)])
        refine W29.ic_ne me at_138 (pc' := 144) (by decide) (by decide) (fun hh0 => ?_) (fun hh0 => ?_)
        ·
          show Fi p e below s Z _ _ _ _ T29 (mkF m 144 #[.val (.int p0), .val (.int p1), .val (.int p2), .val (.int p3), .val (.int p4), .val (.int (3 : Int32)), .val (.ref a1), .val (.ref a29), .val (.int (2 : Int32)), .unset, .unset] [])
          refine W29.aload me at_144 rfl rfl ?_
          show Fi p e below s Z _ _ _ _ T29 (mkF m 146 #[.val (.int p0), .val (.int p1), .val (.int p2), .val (.int p3), .val (.int p4), .val (.int (3 : Int32)), .val (.ref a1), .val (.ref a29), .val (.int (2 : Int32)), .unset, .unset] [(.ref a29)])
          show Fi p e below s Z _ _ _ _ T29 (mkF m 146 #[.val (.int p0), .val (.int p1), .val (.int p2), .val (.int p3), .val (.int p4), .val (.int (3 : Int32)), .val (.ref a1), .val (.ref a29), .val (.int (2 : Int32)), .unset, .unset] [(.ref a29)])
          refine W29.callS me hEL (hw _ (List.mem_of_getElem? (i := 30) rfl)) (hw _ (List.mem_of_getElem? (i := 31) rfl)) (hw _ (List.mem_of_getElem? (i := 32) rfl)) (hw _ (List.mem_of_getElem? (i := 33) rfl)) (argsL := [(.ref a29)]) (rest := []) (c_fr1 (ss := []) g W29.old (cs := [c0, c1, c2]) L29 2 0 (own_le rfl) hh2 (alS (alS al0 hh0) hh1) (by decide) rfl) at_146 (by decide) (fun _ q => nomatch q) rfl (lenOf pd_24 rfl) (own_le rfl) (own_le rfl) (own_le rfl) (own_le rfl) rfl ?_
          intro T43 h43 v43 W43 z43 q43
          obtain ⟨_, rfl, E43, d43, rfl, M43⟩ := q43
          show Fi p e below s Z _ _ _ _ T43 (mkF m 149 #[.val (.int p0), .val (.int p1), .val (.int p2), .val (.int p3), .val (.int p4), .val (.int (3 : Int32)), .val (.ref a1), .val (.ref a29), .val (.int (2 : Int32)), .unset, .unset] [(.ref d43)])
          replace A9 := A9.ext E43
          replace L29 := L29.ext E43
          refine W43.astore me at_149 (l' := #[.val (.int p0), .val (.int p1), .val (.int p2), .val (.int p3), .val (.int p4), .val (.int (3 : Int32)), .val (.ref a1), .val (.ref a29), .val (.int (2 : Int32)), .val (.ref d43), .unset]) rfl rfl ?_
          refine W43.iload me at_151 rfl ?_
          refine W43.iload me at_153 rfl ?_
          show Fi p e below s Z _ _ _ _ T43 (mkF m 155 #[.val (.int p0), .val (.int p1), .val (.int p2), .val (.int p3), .val (.int p4), .val (.int (3 : Int32)), .val (.ref a1), .val (.ref a29), .val (.int (2 : Int32)), .val (.ref d43), .unset] [(.int (3 : Int32)), (.int (2 : Int32))])
          refine W43.icY_ne me at_155 (by decide) (pc' := 164) (by decide) (by decide) ?_
          show Fi p e below s Z _ _ _ _ T43 (mkF m 164 #[.val (.int p0), .val (.int p1), .val (.int p2), .val (.int p3), .val (.int p4), .val (.int (3 : Int32)), .val (.ref a1), .val (.ref a29), .val (.int (2 : Int32)), .val (.ref d43), .unset] [])
          refine W43.iload me at_164 rfl ?_
          refine W43.iload me at_166 rfl ?_
          refine W43.isub me at_168 ?_
          refine W43.iconst me at_169 (v := 1) rfl ?_
          refine W43.isub me at_170 ?_
          show Fi p e below s Z _ _ _ _ T43 (mkF m 171 #[.val (.int p0), .val (.int p1), .val (.int p2), .val (.int p3), .val (.int p4), .val (.int (3 : Int32)), .val (.ref a1), .val (.ref a29), .val (.int (2 : Int32)), .val (.ref d43), .unset] [(.int (((3 : Int32) - (2 : Int32)) - (1 : Int32)))])
          show Fi p e below s Z _ _ _ _ T43 (mkF m 171 #[.val (.int p0), .val (.int p1), .val (.int p2), .val (.int p3), .val (.int p4), .val (.int (3 : Int32)), .val (.ref a1), .val (.ref a29), .val (.int (2 : Int32)), .val (.ref d43), .unset] [(.int (0 : Int32))])
          refine W43.istore me at_171 (l' := #[.val (.int p0), .val (.int p1), .val (.int p2), .val (.int p3), .val (.int p4), .val (.int (3 : Int32)), .val (.ref a1), .val (.ref a29), .val (.int (2 : Int32)), .val (.ref d43), .val (.int (0 : Int32))]) rfl ?_
          refine W43.aload me at_173 rfl rfl ?_
          show Fi p e below s Z _ _ _ _ T43 (mkF m 175 #[.val (.int p0), .val (.int p1), .val (.int p2), .val (.int p3), .val (.int p4), .val (.int (3 : Int32)), .val (.ref a1), .val (.ref a29), .val (.int (2 : Int32)), .val (.ref d43), .val (.int (0 : Int32))] [(.ref d43)])
          refine W43.callV me hEL (hw _ (List.mem_of_getElem? (i := 133) rfl)) (hw _ (List.mem_of_getElem? (i := 51) rfl)) (fun hZ' => notFace_of_selects (args := #[]) (mvT (s := s.setVm _) hZ' (hw _ (List.mem_of_getElem? (i := 53) rfl)))) (hw _ (List.mem_of_getElem? (i := 53) rfl)) (hw _ (List.mem_of_getElem? (i := 52) rfl)) (hw _ (List.mem_of_getElem? (i := 11) rfl)) (hw _ (List.mem_of_getElem? (i := 54) rfl)) (a := d43) (argsL := []) (rest := []) M43.exa (c_length (ss := []) g W43.old (cs := []) M43) at_175 (by decide) (fun _ q => nomatch q) rfl (lenOf pd_12 rfl) (own_le rfl) (own_le rfl) (own_le rfl) (own_le rfl) rfl ?_
          intro T44 h44 v44 W44 z44 q44
          obtain ⟨_, rfl, rfl, rfl⟩ := q44
          show Fi p e below s Z _ _ _ _ T44 (mkF m 178 #[.val (.int p0), .val (.int p1), .val (.int p2), .val (.int p3), .val (.int p4), .val (.int (3 : Int32)), .val (.ref a1), .val (.ref a29), .val (.int (2 : Int32)), .val (.ref d43), .val (.int (0 : Int32))] [(.int (0 : Int32))])
          refine W44.iload me at_178 rfl ?_
          show Fi p e below s Z _ _ _ _ T44 (mkF m 180 #[.val (.int p0), .val (.int p1), .val (.int p2), .val (.int p3), .val (.int p4), .val (.int (3 : Int32)), .val (.ref a1), .val (.ref a29), .val (.int (2 : Int32)), .val (.ref d43), .val (.int (0 : Int32))] [(.int (0 : Int32)), (.int (0 : Int32))])
          refine W44.icY_eq me at_180 (by decide) (pc' := 185) (by decide) (by decide) ?_
          show Fi p e below s Z _ _ _ _ T44 (mkF m 185 #[.val (.int p0), .val (.int p1), .val (.int p2), .val (.int p3), .val (.int p4), .val (.int (3 : Int32)), .val (.ref a1), .val (.ref a29), .val (.int (2 : Int32)), .val (.ref d43), .val (.int (0 : Int32))] [])
          refine W44.iload me at_185 rfl ?_
          show Fi p e below s Z _ _ _ _ T44 (mkF m 187 #[.val (.int p0), .val (.int p1), .val (.int p2), .val (.int p3), .val (.int p4), .val (.int (3 : Int32)), .val (.ref a1), .val (.ref a29), .val (.int (2 : Int32)), .val (.ref d43), .val (.int (0 : Int32))] [(.int (0 : Int32))])
          refine W44.ifY_le me at_187 (by decide) (pc' := 208) (by decide) (by decide) ?_
          show Fi p e below s Z _ _ _ _ T44 (mkF m 208 #[.val (.int p0), .val (.int p1), .val (.int p2), .val (.int p3), .val (.int p4), .val (.int (3 : Int32)), .val (.ref a1), .val (.ref a29), .val (.int (2 : Int32)), .val (.ref d43), .val (.int (0 : Int32))] [])
          refine W44.iload me at_208 rfl ?_
          refine W44.iconst me at_210 (v := 1) rfl ?_
          show Fi p e below s Z _ _ _ _ T44 (mkF m 211 #[.val (.int p0), .val (.int p1), .val (.int p2), .val (.int p3), .val (.int p4), .val (.int (3 : Int32)), .val (.ref a1), .val (.ref a29), .val (.int (2 : Int32)), .val (.ref d43), .val (.int (0 : Int32))] [(.int (1 : Int32)), (.int (0 : Int32))])
          refine W44.icY_le me at_211 (by decide) (pc' := 232) (by decide) (by decide) ?_
          show Fi p e below s Z _ _ _ _ T44 (mkF m 232 #[.val (.int p0), .val (.int p1), .val (.int p2), .val (.int p3), .val (.int p4), .val (.int (3 : Int32)), .val (.ref a1), .val (.ref a29), .val (.int (2 : Int32)), .val (.ref d43), .val (.int (0 : Int32))] [])
          refine W44.iload me at_232 rfl ?_
          refine W44.iconst me at_234 (v := 2) rfl ?_
          show Fi p e below s Z _ _ _ _ T44 (mkF m 235 #[.val (.int p0), .val (.int p1), .val (.int p2), .val (.int p3), .val (.int p4), .val (.int (3 : Int32)), .val (.ref a1), .val (.ref a29), .val (.int (2 : Int32)), .val (.ref d43), .val (.int (0 : Int32))] [(.int (2 : Int32)), (.int (0 : Int32))])
          refine W44.icY_le me at_235 (by decide) (pc' := 256) (by decide) (by decide) ?_
          show Fi p e below s Z _ _ _ _ T44 (mkF m 256 #[.val (.int p0), .val (.int p1), .val (.int p2), .val (.int p3), .val (.int p4), .val (.int (3 : Int32)), .val (.ref a1), .val (.ref a29), .val (.int (2 : Int32)), .val (.ref d43), .val (.int (0 : Int32))] [])
          refine W44.iconst me at_256 (v := 1) rfl ?_
          show Fi p e below s Z _ _ _ _ T44 (mkF m 257 #[.val (.int p0), .val (.int p1), .val (.int p2), .val (.int p3), .val (.int p4), .val (.int (3 : Int32)), .val (.ref a1), .val (.ref a29), .val (.int (2 : Int32)), .val (.ref d43), .val (.int (0 : Int32))] [(.int (1 : Int32))])
          exact W44.retN hEL me (Or.inl rfl) at_257 rfl (by decide) (by decide)
        ·
          show Fi p e below s Z _ _ _ _ T29 (mkF m 141 #[.val (.int p0), .val (.int p1), .val (.int p2), .val (.int p3), .val (.int p4), .val (.int (3 : Int32)), .val (.ref a1), .val (.ref a29), .val (.int (2 : Int32)), .unset, .unset] [])
          refine W29.iconst me at_141 (v := 0) rfl ?_
          refine W29.istore me at_142 (l' := #[.val (.int p0), .val (.int p1), .val (.int p2), .val (.int p3), .val (.int p4), .val (.int (3 : Int32)), .val (.ref a1), .val (.ref a29), .val (.int (0 : Int32)), .unset, .unset]) rfl ?_
          refine W29.aload me at_144 rfl rfl ?_
          show Fi p e below s Z _ _ _ _ T29 (mkF m 146 #[.val (.int p0), .val (.int p1), .val (.int p2), .val (.int p3), .val (.int p4), .val (.int (3 : Int32)), .val (.ref a1), .val (.ref a29), .val (.int (0 : Int32)), .unset, .unset] [(.ref a29)])
          show Fi p e below s Z _ _ _ _ T29 (mkF m 146 #[.val (.int p0), .val (.int p1), .val (.int p2), .val (.int p3), .val (.int p4), .val (.int (3 : Int32)), .val (.ref a1), .val (.ref a29), .val (.int (0 : Int32)), .unset, .unset] [(.ref a29)])
          refine W29.callS me hEL (hw _ (List.mem_of_getElem? (i := 30) rfl)) (hw _ (List.mem_of_getElem? (i := 31) rfl)) (hw _ (List.mem_of_getElem? (i := 32) rfl)) (hw _ (List.mem_of_getElem? (i := 33) rfl)) (argsL := [(.ref a29)]) (rest := []) (c_fr1 (ss := []) g W29.old (cs := [c0, c1, c2]) L29 0 2 (own_le rfl) hh0 al0 (by decide) rfl) at_146 (by decide) (fun _ q => nomatch q) rfl (lenOf pd_24 rfl) (own_le rfl) (own_le rfl) (own_le rfl) (own_le rfl) rfl ?_
          intro T45 h45 v45 W45 z45 q45
          obtain ⟨_, rfl, E45, d45, rfl, M45⟩ := q45
          show Fi p e below s Z _ _ _ _ T45 (mkF m 149 #[.val (.int p0), .val (.int p1), .val (.int p2), .val (.int p3), .val (.int p4), .val (.int (3 : Int32)), .val (.ref a1), .val (.ref a29), .val (.int (0 : Int32)), .unset, .unset] [(.ref d45)])
          replace A9 := A9.ext E45
          replace L29 := L29.ext E45
          refine W45.astore me at_149 (l' := #[.val (.int p0), .val (.int p1), .val (.int p2), .val (.int p3), .val (.int p4), .val (.int (3 : Int32)), .val (.ref a1), .val (.ref a29), .val (.int (0 : Int32)), .val (.ref d45), .unset]) rfl rfl ?_
          refine W45.iload me at_151 rfl ?_
          refine W45.iload me at_153 rfl ?_
          show Fi p e below s Z _ _ _ _ T45 (mkF m 155 #[.val (.int p0), .val (.int p1), .val (.int p2), .val (.int p3), .val (.int p4), .val (.int (3 : Int32)), .val (.ref a1), .val (.ref a29), .val (.int (0 : Int32)), .val (.ref d45), .unset] [(.int (3 : Int32)), (.int (0 : Int32))])
          refine W45.icY_ne me at_155 (by decide) (pc' := 164) (by decide) (by decide) ?_
          show Fi p e below s Z _ _ _ _ T45 (mkF m 164 #[.val (.int p0), .val (.int p1), .val (.int p2), .val (.int p3), .val (.int p4), .val (.int (3 : Int32)), .val (.ref a1), .val (.ref a29), .val (.int (0 : Int32)), .val (.ref d45), .unset] [])
          refine W45.iload me at_164 rfl ?_
          refine W45.iload me at_166 rfl ?_
          refine W45.isub me at_168 ?_
          refine W45.iconst me at_169 (v := 1) rfl ?_
          refine W45.isub me at_170 ?_
          show Fi p e below s Z _ _ _ _ T45 (mkF m 171 #[.val (.int p0), .val (.int p1), .val (.int p2), .val (.int p3), .val (.int p4), .val (.int (3 : Int32)), .val (.ref a1), .val (.ref a29), .val (.int (0 : Int32)), .val (.ref d45), .unset] [(.int (((3 : Int32) - (0 : Int32)) - (1 : Int32)))])
          show Fi p e below s Z _ _ _ _ T45 (mkF m 171 #[.val (.int p0), .val (.int p1), .val (.int p2), .val (.int p3), .val (.int p4), .val (.int (3 : Int32)), .val (.ref a1), .val (.ref a29), .val (.int (0 : Int32)), .val (.ref d45), .unset] [(.int (2 : Int32))])
          refine W45.istore me at_171 (l' := #[.val (.int p0), .val (.int p1), .val (.int p2), .val (.int p3), .val (.int p4), .val (.int (3 : Int32)), .val (.ref a1), .val (.ref a29), .val (.int (0 : Int32)), .val (.ref d45), .val (.int (2 : Int32))]) rfl ?_
          refine W45.aload me at_173 rfl rfl ?_
          show Fi p e below s Z _ _ _ _ T45 (mkF m 175 #[.val (.int p0), .val (.int p1), .val (.int p2), .val (.int p3), .val (.int p4), .val (.int (3 : Int32)), .val (.ref a1), .val (.ref a29), .val (.int (0 : Int32)), .val (.ref d45), .val (.int (2 : Int32))] [(.ref d45)])
          refine W45.callV me hEL (hw _ (List.mem_of_getElem? (i := 133) rfl)) (hw _ (List.mem_of_getElem? (i := 51) rfl)) (fun hZ' => notFace_of_selects (args := #[]) (mvT (s := s.setVm _) hZ' (hw _ (List.mem_of_getElem? (i := 53) rfl)))) (hw _ (List.mem_of_getElem? (i := 53) rfl)) (hw _ (List.mem_of_getElem? (i := 52) rfl)) (hw _ (List.mem_of_getElem? (i := 11) rfl)) (hw _ (List.mem_of_getElem? (i := 54) rfl)) (a := d45) (argsL := []) (rest := []) M45.exa (c_length (ss := []) g W45.old (cs := [c1, c2]) M45) at_175 (by decide) (fun _ q => nomatch q) rfl (lenOf pd_12 rfl) (own_le rfl) (own_le rfl) (own_le rfl) (own_le rfl) rfl ?_
          intro T46 h46 v46 W46 z46 q46
          obtain ⟨_, rfl, rfl, rfl⟩ := q46
          show Fi p e below s Z _ _ _ _ T46 (mkF m 178 #[.val (.int p0), .val (.int p1), .val (.int p2), .val (.int p3), .val (.int p4), .val (.int (3 : Int32)), .val (.ref a1), .val (.ref a29), .val (.int (0 : Int32)), .val (.ref d45), .val (.int (2 : Int32))] [(.int (2 : Int32))])
          refine W46.iload me at_178 rfl ?_
          show Fi p e below s Z _ _ _ _ T46 (mkF m 180 #[.val (.int p0), .val (.int p1), .val (.int p2), .val (.int p3), .val (.int p4), .val (.int (3 : Int32)), .val (.ref a1), .val (.ref a29), .val (.int (0 : Int32)), .val (.ref d45), .val (.int (2 : Int32))] [(.int (2 : Int32)), (.int (2 : Int32))])
          refine W46.icY_eq me at_180 (by decide) (pc' := 185) (by decide) (by decide) ?_
          show Fi p e below s Z _ _ _ _ T46 (mkF m 185 #[.val (.int p0), .val (.int p1), .val (.int p2), .val (.int p3), .val (.int p4), .val (.int (3 : Int32)), .val (.ref a1), .val (.ref a29), .val (.int (0 : Int32)), .val (.ref d45), .val (.int (2 : Int32))] [])
          refine W46.iload me at_185 rfl ?_
          show Fi p e below s Z _ _ _ _ T46 (mkF m 187 #[.val (.int p0), .val (.int p1), .val (.int p2), .val (.int p3), .val (.int p4), .val (.int (3 : Int32)), .val (.ref a1), .val (.ref a29), .val (.int (0 : Int32)), .val (.ref d45), .val (.int (2 : Int32))] [(.int (2 : Int32))])
          refine W46.ifN_le me at_187 (by decide) ?_
          show Fi p e below s Z _ _ _ _ T46 (mkF m 190 #[.val (.int p0), .val (.int p1), .val (.int p2), .val (.int p3), .val (.int p4), .val (.int (3 : Int32)), .val (.ref a1), .val (.ref a29), .val (.int (0 : Int32)), .val (.ref d45), .val (.int (2 : Int32))] [])
          refine W46.aload me at_190 rfl rfl ?_
          refine W46.iconst me at_192 (v := 0) rfl ?_
          show Fi p e below s Z _ _ _ _ T46 (mkF m 193 #[.val (.int p0), .val (.int p1), .val (.int p2), .val (.int p3), .val (.int p4), .val (.int (3 : Int32)), .val (.ref a1), .val (.ref a29), .val (.int (0 : Int32)), .val (.ref d45), .val (.int (2 : Int32))] [(.int (0 : Int32)), (.ref d45)])
          refine W46.callV me hEL (hw _ (List.mem_of_getElem? (i := 134) rfl)) (hw _ (List.mem_of_getElem? (i := 135) rfl)) (fun hZ' => notFace_of_selects (args := #[]) (mvT (s := s.setVm _) hZ' (hw _ (List.mem_of_getElem? (i := 137) rfl)))) (hw _ (List.mem_of_getElem? (i := 137) rfl)) (hw _ (List.mem_of_getElem? (i := 136) rfl)) (hw _ (List.mem_of_getElem? (i := 11) rfl)) (hw _ (List.mem_of_getElem? (i := 138) rfl)) (a := d45) (argsL := [(.int (0 : Int32))]) (rest := []) M45.exa (c_charat (ss := []) g W46.old (cs := [c1, c2]) (i := 0) M45 (own_le rfl)) at_193 (by decide) (fun _ q => nomatch q) rfl (lenOf pd_22 rfl) (own_le rfl) (own_le rfl) (own_le rfl) (own_le rfl) rfl ?_
          intro T47 h47 v47 W47 z47 q47
          obtain ⟨_, rfl, rfl, rfl⟩ := q47
          show Fi p e below s Z _ _ _ _ T47 (mkF m 196 #[.val (.int p0), .val (.int p1), .val (.int p2), .val (.int p3), .val (.int p4), .val (.int (3 : Int32)), .val (.ref a1), .val (.ref a29), .val (.int (0 : Int32)), .val (.ref d45), .val (.int (2 : Int32))] [(.int c1)])
          refine W47.aload me at_196 rfl rfl ?_
          refine W47.iload me at_198 rfl ?_
          refine W47.iconst me at_200 (v := 1) rfl ?_
          refine W47.iadd me at_201 ?_
          show Fi p e below s Z _ _ _ _ T47 (mkF m 202 #[.val (.int p0), .val (.int p1), .val (.int p2), .val (.int p3), .val (.int p4), .val (.int (3 : Int32)), .val (.ref a1), .val (.ref a29), .val (.int (0 : Int32)), .val (.ref d45), .val (.int (2 : Int32))] [(.int ((0 : Int32) + (1 : Int32))), (.ref a1), (.int c1)])
          show Fi p e below s Z _ _ _ _ T47 (mkF m 202 #[.val (.int p0), .val (.int p1), .val (.int p2), .val (.int p3), .val (.int p4), .val (.int (3 : Int32)), .val (.ref a1), .val (.ref a29), .val (.int (0 : Int32)), .val (.ref d45), .val (.int (2 : Int32))] [(.int (1 : Int32)), (.ref a1), (.int c1)])
          refine W47.caload me A9 at_202 (by decide) (v := .int c1) rfl ?_
          show Fi p e below s Z _ _ _ _ T47 (mkF m 203 #[.val (.int p0), .val (.int p1), .val (.int p2), .val (.int p3), .val (.int p4), .val (.int (3 : Int32)), .val (.ref a1), .val (.ref a29), .val (.int (0 : Int32)), .val (.ref d45), .val (.int (2 : Int32))] [(.int c1), (.int c1)])
          refine W47.icY_eq me at_203 rfl (pc' := 208) (by decide) (by decide) ?_
          show Fi p e below s Z _ _ _ _ T47 (mkF m 208 #[.val (.int p0), .val (.int p1), .val (.int p2), .val (.int p3), .val (.int p4), .val (.int (3 : Int32)), .val (.ref a1), .val (.ref a29), .val (.int (0 : Int32)), .val (.ref d45), .val (.int (2 : Int32))] [])
          refine W47.iload me at_208 rfl ?_
          refine W47.iconst me at_210 (v := 1) rfl ?_
          show Fi p e below s Z _ _ _ _ T47 (mkF m 211 #[.val (.int p0), .val (.int p1), .val (.int p2), .val (.int p3), .val (.int p4), .val (.int (3 : Int32)), .val (.ref a1), .val (.ref a29), .val (.int (0 : Int32)), .val (.ref d45), .val (.int (2 : Int32))] [(.int (1 : Int32)), (.int (2 : Int32))])
          refine W47.icN_le me at_211 (by decide) ?_
          show Fi p e below s Z _ _ _ _ T47 (mkF m 214 #[.val (.int p0), .val (.int p1), .val (.int p2), .val (.int p3), .val (.int p4), .val (.int (3 : Int32)), .val (.ref a1), .val (.ref a29), .val (.int (0 : Int32)), .val (.ref d45), .val (.int (2 : Int32))] [])
          refine W47.aload me at_214 rfl rfl ?_
          refine W47.iconst me at_216 (v := 1) rfl ?_
          show Fi p e below s Z _ _ _ _ T47 (mkF m 217 #[.val (.int p0), .val (.int p1), .val (.int p2), .val (.int p3), .val (.int p4), .val (.int (3 : Int32)), .val (.ref a1), .val (.ref a29), .val (.int (0 : Int32)), .val (.ref d45), .val (.int (2 : Int32))] [(.int (1 : Int32)), (.ref d45)])
          refine W47.callV me hEL (hw _ (List.mem_of_getElem? (i := 134) rfl)) (hw _ (List.mem_of_getElem? (i := 135) rfl)) (fun hZ' => notFace_of_selects (args := #[]) (mvT (s := s.setVm _) hZ' (hw _ (List.mem_of_getElem? (i := 137) rfl)))) (hw _ (List.mem_of_getElem? (i := 137) rfl)) (hw _ (List.mem_of_getElem? (i := 136) rfl)) (hw _ (List.mem_of_getElem? (i := 11) rfl)) (hw _ (List.mem_of_getElem? (i := 138) rfl)) (a := d45) (argsL := [(.int (1 : Int32))]) (rest := []) M45.exa (c_charat (ss := []) g W47.old (cs := [c1, c2]) (i := 1) M45 (own_le rfl)) at_217 (by decide) (fun _ q => nomatch q) rfl (lenOf pd_22 rfl) (own_le rfl) (own_le rfl) (own_le rfl) (own_le rfl) rfl ?_
          intro T48 h48 v48 W48 z48 q48
          obtain ⟨_, rfl, rfl, rfl⟩ := q48
          show Fi p e below s Z _ _ _ _ T48 (mkF m 220 #[.val (.int p0), .val (.int p1), .val (.int p2), .val (.int p3), .val (.int p4), .val (.int (3 : Int32)), .val (.ref a1), .val (.ref a29), .val (.int (0 : Int32)), .val (.ref d45), .val (.int (2 : Int32))] [(.int c2)])
          refine W48.aload me at_220 rfl rfl ?_
          refine W48.iload me at_222 rfl ?_
          refine W48.iconst me at_224 (v := 2) rfl ?_
          refine W48.iadd me at_225 ?_
          show Fi p e below s Z _ _ _ _ T48 (mkF m 226 #[.val (.int p0), .val (.int p1), .val (.int p2), .val (.int p3), .val (.int p4), .val (.int (3 : Int32)), .val (.ref a1), .val (.ref a29), .val (.int (0 : Int32)), .val (.ref d45), .val (.int (2 : Int32))] [(.int ((0 : Int32) + (2 : Int32))), (.ref a1), (.int c2)])
          show Fi p e below s Z _ _ _ _ T48 (mkF m 226 #[.val (.int p0), .val (.int p1), .val (.int p2), .val (.int p3), .val (.int p4), .val (.int (3 : Int32)), .val (.ref a1), .val (.ref a29), .val (.int (0 : Int32)), .val (.ref d45), .val (.int (2 : Int32))] [(.int (2 : Int32)), (.ref a1), (.int c2)])
          refine W48.caload me A9 at_226 (by decide) (v := .int c2) rfl ?_
          show Fi p e below s Z _ _ _ _ T48 (mkF m 227 #[.val (.int p0), .val (.int p1), .val (.int p2), .val (.int p3), .val (.int p4), .val (.int (3 : Int32)), .val (.ref a1), .val (.ref a29), .val (.int (0 : Int32)), .val (.ref d45), .val (.int (2 : Int32))] [(.int c2), (.int c2)])
          refine W48.icY_eq me at_227 rfl (pc' := 232) (by decide) (by decide) ?_
          show Fi p e below s Z _ _ _ _ T48 (mkF m 232 #[.val (.int p0), .val (.int p1), .val (.int p2), .val (.int p3), .val (.int p4), .val (.int (3 : Int32)), .val (.ref a1), .val (.ref a29), .val (.int (0 : Int32)), .val (.ref d45), .val (.int (2 : Int32))] [])
          refine W48.iload me at_232 rfl ?_
          refine W48.iconst me at_234 (v := 2) rfl ?_
          show Fi p e below s Z _ _ _ _ T48 (mkF m 235 #[.val (.int p0), .val (.int p1), .val (.int p2), .val (.int p3), .val (.int p4), .val (.int (3 : Int32)), .val (.ref a1), .val (.ref a29), .val (.int (0 : Int32)), .val (.ref d45), .val (.int (2 : Int32))] [(.int (2 : Int32)), (.int (2 : Int32))])
          refine W48.icY_le me at_235 (by decide) (pc' := 256) (by decide) (by decide) ?_
          show Fi p e below s Z _ _ _ _ T48 (mkF m 256 #[.val (.int p0), .val (.int p1), .val (.int p2), .val (.int p3), .val (.int p4), .val (.int (3 : Int32)), .val (.ref a1), .val (.ref a29), .val (.int (0 : Int32)), .val (.ref d45), .val (.int (2 : Int32))] [])
          refine W48.iconst me at_256 (v := 1) rfl ?_
          show Fi p e below s Z _ _ _ _ T48 (mkF m 257 #[.val (.int p0), .val (.int p1), .val (.int p2), .val (.int p3), .val (.int p4), .val (.int (3 : Int32)), .val (.ref a1), .val (.ref a29), .val (.int (0 : Int32)), .val (.ref d45), .val (.int (2 : Int32))] [(.int (1 : Int32))])
          exact W48.retN hEL me (Or.inl rfl) at_257 rfl (by decide) (by decide)
      ·
        show Fi p e below s Z _ _ _ _ T29 (mkF m 124 #[.val (.int p0), .val (.int p1), .val (.int p2), .val (.int p3), .val (.int p4), .val (.int (3 : Int32)), .val (.ref a1), .val (.ref a29), .val (.int (2 : Int32)), .unset, .unset] [])
        refine W29.iconst me at_124 (v := 1) rfl ?_
        refine W29.istore me at_125 (l' := #[.val (.int p0), .val (.int p1), .val (.int p2), .val (.int p3), .val (.int p4), .val (.int (3 : Int32)), .val (.ref a1), .val (.ref a29), .val (.int (1 : Int32)), .unset, .unset]) rfl ?_
        refine W29.iload me at_127 rfl ?_
        show Fi p e below s Z _ _ _ _ T29 (mkF m 129 #[.val (.int p0), .val (.int p1), .val (.int p2), .val (.int p3), .val (.int p4), .val (.int (3 : Int32)), .val (.ref a1), .val (.ref a29), .val (.int (1 : Int32)), .unset, .unset] [(.int (3 : Int32))])
        refine W29.ifN_le me at_129 (by decide) ?_
        show Fi p e below s Z _ _ _ _ T29 (mkF m 132 #[.val (.int p0), .val (.int p1), .val (.int p2), .val (.int p3), .val (.int p4), .val (.int (3 : Int32)), .val (.ref a1), .val (.ref a29), .val (.int (1 : Int32)), .unset, .unset] [])
        refine W29.aload me at_132 rfl rfl ?_
        refine W29.iconst me at_134 (v := 0) rfl ?_
        show Fi p e below s Z _ _ _ _ T29 (mkF m 135 #[.val (.int p0), .val (.int p1), .val (.int p2), .val (.int p3), .val (.int p4), .val (.int (3 : Int32)), .val (.ref a1), .val (.ref a29), .val (.int (1 : Int32)), .unset, .unset] [(.int (0 : Int32)), (.ref a1)])
        refine W29.caload me A9 at_135 (by decide) (v := .int c0) rfl ?_
        show Fi p e below s Z _ _ _ _ T29 (mkF m 136 #[.val (.int p0), .val (.int p1), .val (.int p2), .val (.int p3), .val (.int p4), .val (.int (3 : Int32)), .val (.ref a1), .val (.ref a29), .val (.int (1 : Int32)), .unset, .unset] [(.int c0)])
        refine W29.bipush me at_136 (v := 35) rfl ?_
        show Fi p e below s Z _ _ _ _ T29 (mkF m 138 #[.val (.int p0), .val (.int p1), .val (.int p2), .val (.int p3), .val (.int p4), .val (.int (3 : Int32)), .val (.ref a1), .val (.ref a29), .val (.int (1 : Int32)), .unset, .unset] [(.int (35 : Int32)), (.int c0)])
        refine W29.ic_ne me at_138 (pc' := 144) (by decide) (by decide) (fun hh0 => ?_) (fun hh0 => ?_)
        ·
          show Fi p e below s Z _ _ _ _ T29 (mkF m 144 #[.val (.int p0), .val (.int p1), .val (.int p2), .val (.int p3), .val (.int p4), .val (.int (3 : Int32)), .val (.ref a1), .val (.ref a29), .val (.int (1 : Int32)), .unset, .unset] [])
          refine W29.aload me at_144 rfl rfl ?_
          show Fi p e below s Z _ _ _ _ T29 (mkF m 146 #[.val (.int p0), .val (.int p1), .val (.int p2), .val (.int p3), .val (.int p4), .val (.int (3 : Int32)), .val (.ref a1), .val (.ref a29), .val (.int (1 : Int32)), .unset, .unset] [(.ref a29)])
          show Fi p e below s Z _ _ _ _ T29 (mkF m 146 #[.val (.int p0), .val (.int p1), .val (.int p2), .val (.int p3), .val (.int p4), .val (.int (3 : Int32)), .val (.ref a1), .val (.ref a29), .val (.int (1 : Int32)), .unset, .unset] [(.ref a29)])
          refine W29.callS me hEL (hw _ (List.mem_of_getElem? (i := 30) rfl)) (hw _ (List.mem_of_getElem? (i := 31) rfl)) (hw _ (List.mem_of_getElem? (i := 32) rfl)) (hw _ (List.mem_of_getElem? (i := 33) rfl)) (argsL := [(.ref a29)]) (rest := []) (c_fr1 (ss := []) g W29.old (cs := [c0, c1, c2]) L29 1 1 (own_le rfl) hh1 (alS al0 hh0) (by decide) rfl) at_146 (by decide) (fun _ q => nomatch q) rfl (lenOf pd_24 rfl) (own_le rfl) (own_le rfl) (own_le rfl) (own_le rfl) rfl ?_
          intro T49 h49 v49 W49 z49 q49
          obtain ⟨_, rfl, E49, d49, rfl, M49⟩ := q49
          show Fi p e below s Z _ _ _ _ T49 (mkF m 149 #[.val (.int p0), .val (.int p1), .val (.int p2), .val (.int p3), .val (.int p4), .val (.int (3 : Int32)), .val (.ref a1), .val (.ref a29), .val (.int (1 : Int32)), .unset, .unset] [(.ref d49)])
          replace A9 := A9.ext E49
          replace L29 := L29.ext E49
          refine W49.astore me at_149 (l' := #[.val (.int p0), .val (.int p1), .val (.int p2), .val (.int p3), .val (.int p4), .val (.int (3 : Int32)), .val (.ref a1), .val (.ref a29), .val (.int (1 : Int32)), .val (.ref d49), .unset]) rfl rfl ?_
          refine W49.iload me at_151 rfl ?_
          refine W49.iload me at_153 rfl ?_
          show Fi p e below s Z _ _ _ _ T49 (mkF m 155 #[.val (.int p0), .val (.int p1), .val (.int p2), .val (.int p3), .val (.int p4), .val (.int (3 : Int32)), .val (.ref a1), .val (.ref a29), .val (.int (1 : Int32)), .val (.ref d49), .unset] [(.int (3 : Int32)), (.int (1 : Int32))])
          refine W49.icY_ne me at_155 (by decide) (pc' := 164) (by decide) (by decide) ?_
          show Fi p e below s Z _ _ _ _ T49 (mkF m 164 #[.val (.int p0), .val (.int p1), .val (.int p2), .val (.int p3), .val (.int p4), .val (.int (3 : Int32)), .val (.ref a1), .val (.ref a29), .val (.int (1 : Int32)), .val (.ref d49), .unset] [])
          refine W49.iload me at_164 rfl ?_
          refine W49.iload me at_166 rfl ?_
          refine W49.isub me at_168 ?_
          refine W49.iconst me at_169 (v := 1) rfl ?_
          refine W49.isub me at_170 ?_
          show Fi p e below s Z _ _ _ _ T49 (mkF m 171 #[.val (.int p0), .val (.int p1), .val (.int p2), .val (.int p3), .val (.int p4), .val (.int (3 : Int32)), .val (.ref a1), .val (.ref a29), .val (.int (1 : Int32)), .val (.ref d49), .unset] [(.int (((3 : Int32) - (1 : Int32)) - (1 : Int32)))])
          show Fi p e below s Z _ _ _ _ T49 (mkF m 171 #[.val (.int p0), .val (.int p1), .val (.int p2), .val (.int p3), .val (.int p4), .val (.int (3 : Int32)), .val (.ref a1), .val (.ref a29), .val (.int (1 : Int32)), .val (.ref d49), .unset] [(.int (1 : Int32))])
          refine W49.istore me at_171 (l' := #[.val (.int p0), .val (.int p1), .val (.int p2), .val (.int p3), .val (.int p4), .val (.int (3 : Int32)), .val (.ref a1), .val (.ref a29), .val (.int (1 : Int32)), .val (.ref d49), .val (.int (1 : Int32))]) rfl ?_
          refine W49.aload me at_173 rfl rfl ?_
          show Fi p e below s Z _ _ _ _ T49 (mkF m 175 #[.val (.int p0), .val (.int p1), .val (.int p2), .val (.int p3), .val (.int p4), .val (.int (3 : Int32)), .val (.ref a1), .val (.ref a29), .val (.int (1 : Int32)), .val (.ref d49), .val (.int (1 : Int32))] [(.ref d49)])
          refine W49.callV me hEL (hw _ (List.mem_of_getElem? (i := 133) rfl)) (hw _ (List.mem_of_getElem? (i := 51) rfl)) (fun hZ' => notFace_of_selects (args := #[]) (mvT (s := s.setVm _) hZ' (hw _ (List.mem_of_getElem? (i := 53) rfl)))) (hw _ (List.mem_of_getElem? (i := 53) rfl)) (hw _ (List.mem_of_getElem? (i := 52) rfl)) (hw _ (List.mem_of_getElem? (i := 11) rfl)) (hw _ (List.mem_of_getElem? (i := 54) rfl)) (a := d49) (argsL := []) (rest := []) M49.exa (c_length (ss := []) g W49.old (cs := [c2]) M49) at_175 (by decide) (fun _ q => nomatch q) rfl (lenOf pd_12 rfl) (own_le rfl) (own_le rfl) (own_le rfl) (own_le rfl) rfl ?_
          intro T50 h50 v50 W50 z50 q50
          obtain ⟨_, rfl, rfl, rfl⟩ := q50
          show Fi p e below s Z _ _ _ _ T50 (mkF m 178 #[.val (.int p0), .val (.int p1), .val (.int p2), .val (.int p3), .val (.int p4), .val (.int (3 : Int32)), .val (.ref a1), .val (.ref a29), .val (.int (1 : Int32)), .val (.ref d49), .val (.int (1 : Int32))] [(.int (1 : Int32))])
          refine W50.iload me at_178 rfl ?_
          show Fi p e below s Z _ _ _ _ T50 (mkF m 180 #[.val (.int p0), .val (.int p1), .val (.int p2), .val (.int p3), .val (.int p4), .val (.int (3 : Int32)), .val (.ref a1), .val (.ref a29), .val (.int (1 : Int32)), .val (.ref d49), .val (.int (1 : Int32))] [(.int (1 : Int32)), (.int (1 : Int32))])
          refine W50.icY_eq me at_180 (by decide) (pc' := 185) (by decide) (by decide) ?_
          show Fi p e below s Z _ _ _ _ T50 (mkF m 185 #[.val (.int p0), .val (.int p1), .val (.int p2), .val (.int p3), .val (.int p4), .val (.int (3 : Int32)), .val (.ref a1), .val (.ref a29), .val (.int (1 : Int32)), .val (.ref d49), .val (.int (1 : Int32))] [])
          refine W50.iload me at_185 rfl ?_
          show Fi p e below s Z _ _ _ _ T50 (mkF m 187 #[.val (.int p0), .val (.int p1), .val (.int p2), .val (.int p3), .val (.int p4), .val (.int (3 : Int32)), .val (.ref a1), .val (.ref a29), .val (.int (1 : Int32)), .val (.ref d49), .val (.int (1 : Int32))] [(.int (1 : Int32))])
          refine W50.ifN_le me at_187 (by decide) ?_
          show Fi p e below s Z _ _ _ _ T50 (mkF m 190 #[.val (.int p0), .val (.int p1), .val (.int p2), .val (.int p3), .val (.int p4), .val (.int (3 : Int32)), .val (.ref a1), .val (.ref a29), .val (.int (1 : Int32)), .val (.ref d49), .val (.int (1 : Int32))] [])
          refine W50.aload me at_190 rfl rfl ?_
          refine W50.iconst me at_192 (v := 0) rfl ?_
          show Fi p e below s Z _ _ _ _ T50 (mkF m 193 #[.val (.int p0), .val (.int p1), .val (.int p2), .val (.int p3), .val (.int p4), .val (.int (3 : Int32)), .val (.ref a1), .val (.ref a29), .val (.int (1 : Int32)), .val (.ref d49), .val (.int (1 : Int32))] [(.int (0 : Int32)), (.ref d49)])
          refine W50.callV me hEL (hw _ (List.mem_of_getElem? (i := 134) rfl)) (hw _ (List.mem_of_getElem? (i := 135) rfl)) (fun hZ' => notFace_of_selects (args := #[]) (mvT (s := s.setVm _) hZ' (hw _ (List.mem_of_getElem? (i := 137) rfl)))) (hw _ (List.mem_of_getElem? (i := 137) rfl)) (hw _ (List.mem_of_getElem? (i := 136) rfl)) (hw _ (List.mem_of_getElem? (i := 11) rfl)) (hw _ (List.mem_of_getElem? (i := 138) rfl)) (a := d49) (argsL := [(.int (0 : Int32))]) (rest := []) M49.exa (c_charat (ss := []) g W50.old (cs := [c2]) (i := 0) M49 (own_le rfl)) at_193 (by decide) (fun _ q => nomatch q) rfl (lenOf pd_22 rfl) (own_le rfl) (own_le rfl) (own_le rfl) (own_le rfl) rfl ?_
          intro T51 h51 v51 W51 z51 q51
          obtain ⟨_, rfl, rfl, rfl⟩ := q51
          show Fi p e below s Z _ _ _ _ T51 (mkF m 196 #[.val (.int p0), .val (.int p1), .val (.int p2), .val (.int p3), .val (.int p4), .val (.int (3 : Int32)), .val (.ref a1), .val (.ref a29), .val (.int (1 : Int32)), .val (.ref d49), .val (.int (1 : Int32))] [(.int c2)])
          refine W51.aload me at_196 rfl rfl ?_
          refine W51.iload me at_198 rfl ?_
          refine W51.iconst me at_200 (v := 1) rfl ?_
          refine W51.iadd me at_201 ?_
          show Fi p e below s Z _ _ _ _ T51 (mkF m 202 #[.val (.int p0), .val (.int p1), .val (.int p2), .val (.int p3), .val (.int p4), .val (.int (3 : Int32)), .val (.ref a1), .val (.ref a29), .val (.int (1 : Int32)), .val (.ref d49), .val (.int (1 : Int32))] [(.int ((1 : Int32) + (1 : Int32))), (.ref a1), (.int c2)])
          show Fi p e below s Z _ _ _ _ T51 (mkF m 202 #[.val (.int p0), .val (.int p1), .val (.int p2), .val (.int p3), .val (.int p4), .val (.int (3 : Int32)), .val (.ref a1), .val (.ref a29), .val (.int (1 : Int32)), .val (.ref d49), .val (.int (1 : Int32))] [(.int (2 : Int32)), (.ref a1), (.int c2)])
          refine W51.caload me A9 at_202 (by decide) (v := .int c2) rfl ?_
          show Fi p e below s Z _ _ _ _ T51 (mkF m 203 #[.val (.int p0), .val (.int p1), .val (.int p2), .val (.int p3), .val (.int p4), .val (.int (3 : Int32)), .val (.ref a1), .val (.ref a29), .val (.int (1 : Int32)), .val (.ref d49), .val (.int (1 : Int32))] [(.int c2), (.int c2)])
          refine W51.icY_eq me at_203 rfl (pc' := 208) (by decide) (by decide) ?_
          show Fi p e below s Z _ _ _ _ T51 (mkF m 208 #[.val (.int p0), .val (.int p1), .val (.int p2), .val (.int p3), .val (.int p4), .val (.int (3 : Int32)), .val (.ref a1), .val (.ref a29), .val (.int (1 : Int32)), .val (.ref d49), .val (.int (1 : Int32))] [])
          refine W51.iload me at_208 rfl ?_
          refine W51.iconst me at_210 (v := 1) rfl ?_
          show Fi p e below s Z _ _ _ _ T51 (mkF m 211 #[.val (.int p0), .val (.int p1), .val (.int p2), .val (.int p3), .val (.int p4), .val (.int (3 : Int32)), .val (.ref a1), .val (.ref a29), .val (.int (1 : Int32)), .val (.ref d49), .val (.int (1 : Int32))] [(.int (1 : Int32)), (.int (1 : Int32))])
          refine W51.icY_le me at_211 (by decide) (pc' := 232) (by decide) (by decide) ?_
          show Fi p e below s Z _ _ _ _ T51 (mkF m 232 #[.val (.int p0), .val (.int p1), .val (.int p2), .val (.int p3), .val (.int p4), .val (.int (3 : Int32)), .val (.ref a1), .val (.ref a29), .val (.int (1 : Int32)), .val (.ref d49), .val (.int (1 : Int32))] [])
          refine W51.iload me at_232 rfl ?_
          refine W51.iconst me at_234 (v := 2) rfl ?_
          show Fi p e below s Z _ _ _ _ T51 (mkF m 235 #[.val (.int p0), .val (.int p1), .val (.int p2), .val (.int p3), .val (.int p4), .val (.int (3 : Int32)), .val (.ref a1), .val (.ref a29), .val (.int (1 : Int32)), .val (.ref d49), .val (.int (1 : Int32))] [(.int (2 : Int32)), (.int (1 : Int32))])
          refine W51.icY_le me at_235 (by decide) (pc' := 256) (by decide) (by decide) ?_
          show Fi p e below s Z _ _ _ _ T51 (mkF m 256 #[.val (.int p0), .val (.int p1), .val (.int p2), .val (.int p3), .val (.int p4), .val (.int (3 : Int32)), .val (.ref a1), .val (.ref a29), .val (.int (1 : Int32)), .val (.ref d49), .val (.int (1 : Int32))] [])
          refine W51.iconst me at_256 (v := 1) rfl ?_
          show Fi p e below s Z _ _ _ _ T51 (mkF m 257 #[.val (.int p0), .val (.int p1), .val (.int p2), .val (.int p3), .val (.int p4), .val (.int (3 : Int32)), .val (.ref a1), .val (.ref a29), .val (.int (1 : Int32)), .val (.ref d49), .val (.int (1 : Int32))] [(.int (1 : Int32))])
          exact W51.retN hEL me (Or.inl rfl) at_257 rfl (by decide) (by decide)
        ·
          show Fi p e below s Z _ _ _ _ T29 (mkF m 141 #[.val (.int p0), .val (.int p1), .val (.int p2), .val (.int p3), .val (.int p4), .val (.int (3 : Int32)), .val (.ref a1), .val (.ref a29), .val (.int (1 : Int32)), .unset, .unset] [])
          refine W29.iconst me at_141 (v := 0) rfl ?_
          refine W29.istore me at_142 (l' := #[.val (.int p0), .val (.int p1), .val (.int p2), .val (.int p3), .val (.int p4), .val (.int (3 : Int32)), .val (.ref a1), .val (.ref a29), .val (.int (0 : Int32)), .unset, .unset]) rfl ?_
          refine W29.aload me at_144 rfl rfl ?_
          show Fi p e below s Z _ _ _ _ T29 (mkF m 146 #[.val (.int p0), .val (.int p1), .val (.int p2), .val (.int p3), .val (.int p4), .val (.int (3 : Int32)), .val (.ref a1), .val (.ref a29), .val (.int (0 : Int32)), .unset, .unset] [(.ref a29)])
          show Fi p e below s Z _ _ _ _ T29 (mkF m 146 #[.val (.int p0), .val (.int p1), .val (.int p2), .val (.int p3), .val (.int p4), .val (.int (3 : Int32)), .val (.ref a1), .val (.ref a29), .val (.int (0 : Int32)), .unset, .unset] [(.ref a29)])
          refine W29.callS me hEL (hw _ (List.mem_of_getElem? (i := 30) rfl)) (hw _ (List.mem_of_getElem? (i := 31) rfl)) (hw _ (List.mem_of_getElem? (i := 32) rfl)) (hw _ (List.mem_of_getElem? (i := 33) rfl)) (argsL := [(.ref a29)]) (rest := []) (c_fr1 (ss := []) g W29.old (cs := [c0, c1, c2]) L29 0 2 (own_le rfl) hh0 al0 (by decide) rfl) at_146 (by decide) (fun _ q => nomatch q) rfl (lenOf pd_24 rfl) (own_le rfl) (own_le rfl) (own_le rfl) (own_le rfl) rfl ?_
          intro T52 h52 v52 W52 z52 q52
          obtain ⟨_, rfl, E52, d52, rfl, M52⟩ := q52
          show Fi p e below s Z _ _ _ _ T52 (mkF m 149 #[.val (.int p0), .val (.int p1), .val (.int p2), .val (.int p3), .val (.int p4), .val (.int (3 : Int32)), .val (.ref a1), .val (.ref a29), .val (.int (0 : Int32)), .unset, .unset] [(.ref d52)])
          replace A9 := A9.ext E52
          replace L29 := L29.ext E52
          refine W52.astore me at_149 (l' := #[.val (.int p0), .val (.int p1), .val (.int p2), .val (.int p3), .val (.int p4), .val (.int (3 : Int32)), .val (.ref a1), .val (.ref a29), .val (.int (0 : Int32)), .val (.ref d52), .unset]) rfl rfl ?_
          refine W52.iload me at_151 rfl ?_
          refine W52.iload me at_153 rfl ?_
          show Fi p e below s Z _ _ _ _ T52 (mkF m 155 #[.val (.int p0), .val (.int p1), .val (.int p2), .val (.int p3), .val (.int p4), .val (.int (3 : Int32)), .val (.ref a1), .val (.ref a29), .val (.int (0 : Int32)), .val (.ref d52), .unset] [(.int (3 : Int32)), (.int (0 : Int32))])
          refine W52.icY_ne me at_155 (by decide) (pc' := 164) (by decide) (by decide) ?_
          show Fi p e below s Z _ _ _ _ T52 (mkF m 164 #[.val (.int p0), .val (.int p1), .val (.int p2), .val (.int p3), .val (.int p4), .val (.int (3 : Int32)), .val (.ref a1), .val (.ref a29), .val (.int (0 : Int32)), .val (.ref d52), .unset] [])
          refine W52.iload me at_164 rfl ?_
          refine W52.iload me at_166 rfl ?_
          refine W52.isub me at_168 ?_
          refine W52.iconst me at_169 (v := 1) rfl ?_
          refine W52.isub me at_170 ?_
          show Fi p e below s Z _ _ _ _ T52 (mkF m 171 #[.val (.int p0), .val (.int p1), .val (.int p2), .val (.int p3), .val (.int p4), .val (.int (3 : Int32)), .val (.ref a1), .val (.ref a29), .val (.int (0 : Int32)), .val (.ref d52), .unset] [(.int (((3 : Int32) - (0 : Int32)) - (1 : Int32)))])
          show Fi p e below s Z _ _ _ _ T52 (mkF m 171 #[.val (.int p0), .val (.int p1), .val (.int p2), .val (.int p3), .val (.int p4), .val (.int (3 : Int32)), .val (.ref a1), .val (.ref a29), .val (.int (0 : Int32)), .val (.ref d52), .unset] [(.int (2 : Int32))])
          refine W52.istore me at_171 (l' := #[.val (.int p0), .val (.int p1), .val (.int p2), .val (.int p3), .val (.int p4), .val (.int (3 : Int32)), .val (.ref a1), .val (.ref a29), .val (.int (0 : Int32)), .val (.ref d52), .val (.int (2 : Int32))]) rfl ?_
          refine W52.aload me at_173 rfl rfl ?_
          show Fi p e below s Z _ _ _ _ T52 (mkF m 175 #[.val (.int p0), .val (.int p1), .val (.int p2), .val (.int p3), .val (.int p4), .val (.int (3 : Int32)), .val (.ref a1), .val (.ref a29), .val (.int (0 : Int32)), .val (.ref d52), .val (.int (2 : Int32))] [(.ref d52)])
          refine W52.callV me hEL (hw _ (List.mem_of_getElem? (i := 133) rfl)) (hw _ (List.mem_of_getElem? (i := 51) rfl)) (fun hZ' => notFace_of_selects (args := #[]) (mvT (s := s.setVm _) hZ' (hw _ (List.mem_of_getElem? (i := 53) rfl)))) (hw _ (List.mem_of_getElem? (i := 53) rfl)) (hw _ (List.mem_of_getElem? (i := 52) rfl)) (hw _ (List.mem_of_getElem? (i := 11) rfl)) (hw _ (List.mem_of_getElem? (i := 54) rfl)) (a := d52) (argsL := []) (rest := []) M52.exa (c_length (ss := []) g W52.old (cs := [c1, c2]) M52) at_175 (by decide) (fun _ q => nomatch q) rfl (lenOf pd_12 rfl) (own_le rfl) (own_le rfl) (own_le rfl) (own_le rfl) rfl ?_
          intro T53 h53 v53 W53 z53 q53
          obtain ⟨_, rfl, rfl, rfl⟩ := q53
          show Fi p e below s Z _ _ _ _ T53 (mkF m 178 #[.val (.int p0), .val (.int p1), .val (.int p2), .val (.int p3), .val (.int p4), .val (.int (3 : Int32)), .val (.ref a1), .val (.ref a29), .val (.int (0 : Int32)), .val (.ref d52), .val (.int (2 : Int32))] [(.int (2 : Int32))])
          refine W53.iload me at_178 rfl ?_
          show Fi p e below s Z _ _ _ _ T53 (mkF m 180 #[.val (.int p0), .val (.int p1), .val (.int p2), .val (.int p3), .val (.int p4), .val (.int (3 : Int32)), .val (.ref a1), .val (.ref a29), .val (.int (0 : Int32)), .val (.ref d52), .val (.int (2 : Int32))] [(.int (2 : Int32)), (.int (2 : Int32))])
          refine W53.icY_eq me at_180 (by decide) (pc' := 185) (by decide) (by decide) ?_
          show Fi p e below s Z _ _ _ _ T53 (mkF m 185 #[.val (.int p0), .val (.int p1), .val (.int p2), .val (.int p3), .val (.int p4), .val (.int (3 : Int32)), .val (.ref a1), .val (.ref a29), .val (.int (0 : Int32)), .val (.ref d52), .val (.int (2 : Int32))] [])
          refine W53.iload me at_185 rfl ?_
          show Fi p e below s Z _ _ _ _ T53 (mkF m 187 #[.val (.int p0), .val (.int p1), .val (.int p2), .val (.int p3), .val (.int p4), .val (.int (3 : Int32)), .val (.ref a1), .val (.ref a29), .val (.int (0 : Int32)), .val (.ref d52), .val (.int (2 : Int32))] [(.int (2 : Int32))])
          refine W53.ifN_le me at_187 (by decide) ?_
          show Fi p e below s Z _ _ _ _ T53 (mkF m 190 #[.val (.int p0), .val (.int p1), .val (.int p2), .val (.int p3), .val (.int p4), .val (.int (3 : Int32)), .val (.ref a1), .val (.ref a29), .val (.int (0 : Int32)), .val (.ref d52), .val (.int (2 : Int32))] [])
          refine W53.aload me at_190 rfl rfl ?_
          refine W53.iconst me at_192 (v := 0) rfl ?_
          show Fi p e below s Z _ _ _ _ T53 (mkF m 193 #[.val (.int p0), .val (.int p1), .val (.int p2), .val (.int p3), .val (.int p4), .val (.int (3 : Int32)), .val (.ref a1), .val (.ref a29), .val (.int (0 : Int32)), .val (.ref d52), .val (.int (2 : Int32))] [(.int (0 : Int32)), (.ref d52)])
          refine W53.callV me hEL (hw _ (List.mem_of_getElem? (i := 134) rfl)) (hw _ (List.mem_of_getElem? (i := 135) rfl)) (fun hZ' => notFace_of_selects (args := #[]) (mvT (s := s.setVm _) hZ' (hw _ (List.mem_of_getElem? (i := 137) rfl)))) (hw _ (List.mem_of_getElem? (i := 137) rfl)) (hw _ (List.mem_of_getElem? (i := 136) rfl)) (hw _ (List.mem_of_getElem? (i := 11) rfl)) (hw _ (List.mem_of_getElem? (i := 138) rfl)) (a := d52) (argsL := [(.int (0 : Int32))]) (rest := []) M52.exa (c_charat (ss := []) g W53.old (cs := [c1, c2]) (i := 0) M52 (own_le rfl)) at_193 (by decide) (fun _ q => nomatch q) rfl (lenOf pd_22 rfl) (own_le rfl) (own_le rfl) (own_le rfl) (own_le rfl) rfl ?_
          intro T54 h54 v54 W54 z54 q54
          obtain ⟨_, rfl, rfl, rfl⟩ := q54
          show Fi p e below s Z _ _ _ _ T54 (mkF m 196 #[.val (.int p0), .val (.int p1), .val (.int p2), .val (.int p3), .val (.int p4), .val (.int (3 : Int32)), .val (.ref a1), .val (.ref a29), .val (.int (0 : Int32)), .val (.ref d52), .val (.int (2 : Int32))] [(.int c1)])
          refine W54.aload me at_196 rfl rfl ?_
          refine W54.iload me at_198 rfl ?_
          refine W54.iconst me at_200 (v := 1) rfl ?_
          refine W54.iadd me at_201 ?_
          show Fi p e below s Z _ _ _ _ T54 (mkF m 202 #[.val (.int p0), .val (.int p1), .val (.int p2), .val (.int p3), .val (.int p4), .val (.int (3 : Int32)), .val (.ref a1), .val (.ref a29), .val (.int (0 : Int32)), .val (.ref d52), .val (.int (2 : Int32))] [(.int ((0 : Int32) + (1 : Int32))), (.ref a1), (.int c1)])
          show Fi p e below s Z _ _ _ _ T54 (mkF m 202 #[.val (.int p0), .val (.int p1), .val (.int p2), .val (.int p3), .val (.int p4), .val (.int (3 : Int32)), .val (.ref a1), .val (.ref a29), .val (.int (0 : Int32)), .val (.ref d52), .val (.int (2 : Int32))] [(.int (1 : Int32)), (.ref a1), (.int c1)])
          refine W54.caload me A9 at_202 (by decide) (v := .int c1) rfl ?_
          show Fi p e below s Z _ _ _ _ T54 (mkF m 203 #[.val (.int p0), .val (.int p1), .val (.int p2), .val (.int p3), .val (.int p4), .val (.int (3 : Int32)), .val (.ref a1), .val (.ref a29), .val (.int (0 : Int32)), .val (.ref d52), .val (.int (2 : Int32))] [(.int c1), (.int c1)])
          refine W54.icY_eq me at_203 rfl (pc' := 208) (by decide) (by decide) ?_
          show Fi p e below s Z _ _ _ _ T54 (mkF m 208 #[.val (.int p0), .val (.int p1), .val (.int p2), .val (.int p3), .val (.int p4), .val (.int (3 : Int32)), .val (.ref a1), .val (.ref a29), .val (.int (0 : Int32)), .val (.ref d52), .val (.int (2 : Int32))] [])
          refine W54.iload me at_208 rfl ?_
          refine W54.iconst me at_210 (v := 1) rfl ?_
          show Fi p e below s Z _ _ _ _ T54 (mkF m 211 #[.val (.int p0), .val (.int p1), .val (.int p2), .val (.int p3), .val (.int p4), .val (.int (3 : Int32)), .val (.ref a1), .val (.ref a29), .val (.int (0 : Int32)), .val (.ref d52), .val (.int (2 : Int32))] [(.int (1 : Int32)), (.int (2 : Int32))])
          refine W54.icN_le me at_211 (by decide) ?_
          show Fi p e below s Z _ _ _ _ T54 (mkF m 214 #[.val (.int p0), .val (.int p1), .val (.int p2), .val (.int p3), .val (.int p4), .val (.int (3 : Int32)), .val (.ref a1), .val (.ref a29), .val (.int (0 : Int32)), .val (.ref d52), .val (.int (2 : Int32))] [])
          refine W54.aload me at_214 rfl rfl ?_
          refine W54.iconst me at_216 (v := 1) rfl ?_
          show Fi p e below s Z _ _ _ _ T54 (mkF m 217 #[.val (.int p0), .val (.int p1), .val (.int p2), .val (.int p3), .val (.int p4), .val (.int (3 : Int32)), .val (.ref a1), .val (.ref a29), .val (.int (0 : Int32)), .val (.ref d52), .val (.int (2 : Int32))] [(.int (1 : Int32)), (.ref d52)])
          refine W54.callV me hEL (hw _ (List.mem_of_getElem? (i := 134) rfl)) (hw _ (List.mem_of_getElem? (i := 135) rfl)) (fun hZ' => notFace_of_selects (args := #[]) (mvT (s := s.setVm _) hZ' (hw _ (List.mem_of_getElem? (i := 137) rfl)))) (hw _ (List.mem_of_getElem? (i := 137) rfl)) (hw _ (List.mem_of_getElem? (i := 136) rfl)) (hw _ (List.mem_of_getElem? (i := 11) rfl)) (hw _ (List.mem_of_getElem? (i := 138) rfl)) (a := d52) (argsL := [(.int (1 : Int32))]) (rest := []) M52.exa (c_charat (ss := []) g W54.old (cs := [c1, c2]) (i := 1) M52 (own_le rfl)) at_217 (by decide) (fun _ q => nomatch q) rfl (lenOf pd_22 rfl) (own_le rfl) (own_le rfl) (own_le rfl) (own_le rfl) rfl ?_
          intro T55 h55 v55 W55 z55 q55
          obtain ⟨_, rfl, rfl, rfl⟩ := q55
          show Fi p e below s Z _ _ _ _ T55 (mkF m 220 #[.val (.int p0), .val (.int p1), .val (.int p2), .val (.int p3), .val (.int p4), .val (.int (3 : Int32)), .val (.ref a1), .val (.ref a29), .val (.int (0 : Int32)), .val (.ref d52), .val (.int (2 : Int32))] [(.int c2)])
          refine W55.aload me at_220 rfl rfl ?_
          refine W55.iload me at_222 rfl ?_
          refine W55.iconst me at_224 (v := 2) rfl ?_
          refine W55.iadd me at_225 ?_
          show Fi p e below s Z _ _ _ _ T55 (mkF m 226 #[.val (.int p0), .val (.int p1), .val (.int p2), .val (.int p3), .val (.int p4), .val (.int (3 : Int32)), .val (.ref a1), .val (.ref a29), .val (.int (0 : Int32)), .val (.ref d52), .val (.int (2 : Int32))] [(.int ((0 : Int32) + (2 : Int32))), (.ref a1), (.int c2)])
          show Fi p e below s Z _ _ _ _ T55 (mkF m 226 #[.val (.int p0), .val (.int p1), .val (.int p2), .val (.int p3), .val (.int p4), .val (.int (3 : Int32)), .val (.ref a1), .val (.ref a29), .val (.int (0 : Int32)), .val (.ref d52), .val (.int (2 : Int32))] [(.int (2 : Int32)), (.ref a1), (.int c2)])
          refine W55.caload me A9 at_226 (by decide) (v := .int c2) rfl ?_
          show Fi p e below s Z _ _ _ _ T55 (mkF m 227 #[.val (.int p0), .val (.int p1), .val (.int p2), .val (.int p3), .val (.int p4), .val (.int (3 : Int32)), .val (.ref a1), .val (.ref a29), .val (.int (0 : Int32)), .val (.ref d52), .val (.int (2 : Int32))] [(.int c2), (.int c2)])
          refine W55.icY_eq me at_227 rfl (pc' := 232) (by decide) (by decide) ?_
          show Fi p e below s Z _ _ _ _ T55 (mkF m 232 #[.val (.int p0), .val (.int p1), .val (.int p2), .val (.int p3), .val (.int p4), .val (.int (3 : Int32)), .val (.ref a1), .val (.ref a29), .val (.int (0 : Int32)), .val (.ref d52), .val (.int (2 : Int32))] [])
          refine W55.iload me at_232 rfl ?_
          refine W55.iconst me at_234 (v := 2) rfl ?_
          show Fi p e below s Z _ _ _ _ T55 (mkF m 235 #[.val (.int p0), .val (.int p1), .val (.int p2), .val (.int p3), .val (.int p4), .val (.int (3 : Int32)), .val (.ref a1), .val (.ref a29), .val (.int (0 : Int32)), .val (.ref d52), .val (.int (2 : Int32))] [(.int (2 : Int32)), (.int (2 : Int32))])
          refine W55.icY_le me at_235 (by decide) (pc' := 256) (by decide) (by decide) ?_
          show Fi p e below s Z _ _ _ _ T55 (mkF m 256 #[.val (.int p0), .val (.int p1), .val (.int p2), .val (.int p3), .val (.int p4), .val (.int (3 : Int32)), .val (.ref a1), .val (.ref a29), .val (.int (0 : Int32)), .val (.ref d52), .val (.int (2 : Int32))] [])
          refine W55.iconst me at_256 (v := 1) rfl ?_
          show Fi p e below s Z _ _ _ _ T55 (mkF m 257 #[.val (.int p0), .val (.int p1), .val (.int p2), .val (.int p3), .val (.int p4), .val (.int (3 : Int32)), .val (.ref a1), .val (.ref a29), .val (.int (0 : Int32)), .val (.ref d52), .val (.int (2 : Int32))] [(.int (1 : Int32))])
          exact W55.retN hEL me (Or.inl rfl) at_257 rfl (by decide) (by decide)
  ·
    show Fi p e below s Z _ _ _ _ T9 (mkF m 46 #[.val (.int p0), .val (.int p1), .val (.int p2), .val (.int p3), .val (.int p4), .val (.int (4 : Int32)), .val (.ref a1), .unset, .unset, .unset, .unset] [])
    refine W9.iload me at_46 rfl ?_
    refine W9.aload me at_48 rfl rfl ?_
    refine W9.iconst me at_50 (v := 0) rfl ?_
    show Fi p e below s Z _ _ _ _ T9 (mkF m 51 #[.val (.int p0), .val (.int p1), .val (.int p2), .val (.int p3), .val (.int p4), .val (.int (4 : Int32)), .val (.ref a1), .unset, .unset, .unset, .unset] [(.int (0 : Int32)), (.ref a1), (.int (4 : Int32))])
    refine W9.caload me A9 at_51 (by decide) (v := .int c0) rfl ?_
    show Fi p e below s Z _ _ _ _ T9 (mkF m 52 #[.val (.int p0), .val (.int p1), .val (.int p2), .val (.int p3), .val (.int p4), .val (.int (4 : Int32)), .val (.ref a1), .unset, .unset, .unset, .unset] [(.int c0), (.int (4 : Int32))])
    refine W9.aload me at_52 rfl rfl ?_
    refine W9.iconst me at_54 (v := 1) rfl ?_
    show Fi p e below s Z _ _ _ _ T9 (mkF m 55 #[.val (.int p0), .val (.int p1), .val (.int p2), .val (.int p3), .val (.int p4), .val (.int (4 : Int32)), .val (.ref a1), .unset, .unset, .unset, .unset] [(.int (1 : Int32)), (.ref a1), (.int c0), (.int (4 : Int32))])
    refine W9.caload me A9 at_55 (by decide) (v := .int c1) rfl ?_
    show Fi p e below s Z _ _ _ _ T9 (mkF m 56 #[.val (.int p0), .val (.int p1), .val (.int p2), .val (.int p3), .val (.int p4), .val (.int (4 : Int32)), .val (.ref a1), .unset, .unset, .unset, .unset] [(.int c1), (.int c0), (.int (4 : Int32))])
    refine W9.aload me at_56 rfl rfl ?_
    refine W9.iconst me at_58 (v := 2) rfl ?_
    show Fi p e below s Z _ _ _ _ T9 (mkF m 59 #[.val (.int p0), .val (.int p1), .val (.int p2), .val (.int p3), .val (.int p4), .val (.int (4 : Int32)), .val (.ref a1), .unset, .unset, .unset, .unset] [(.int (2 : Int32)), (.ref a1), (.int c1), (.int c0), (.int (4 : Int32))])
    refine W9.caload me A9 at_59 (by decide) (v := .int c2) rfl ?_
    show Fi p e below s Z _ _ _ _ T9 (mkF m 60 #[.val (.int p0), .val (.int p1), .val (.int p2), .val (.int p3), .val (.int p4), .val (.int (4 : Int32)), .val (.ref a1), .unset, .unset, .unset, .unset] [(.int c2), (.int c1), (.int c0), (.int (4 : Int32))])
    refine W9.aload me at_60 rfl rfl ?_
    refine W9.iconst me at_62 (v := 3) rfl ?_
    show Fi p e below s Z _ _ _ _ T9 (mkF m 63 #[.val (.int p0), .val (.int p1), .val (.int p2), .val (.int p3), .val (.int p4), .val (.int (4 : Int32)), .val (.ref a1), .unset, .unset, .unset, .unset] [(.int (3 : Int32)), (.ref a1), (.int c2), (.int c1), (.int c0), (.int (4 : Int32))])
    refine W9.caload me A9 at_63 (by decide) (v := .int c3) rfl ?_
    show Fi p e below s Z _ _ _ _ T9 (mkF m 64 #[.val (.int p0), .val (.int p1), .val (.int p2), .val (.int p3), .val (.int p4), .val (.int (4 : Int32)), .val (.ref a1), .unset, .unset, .unset, .unset] [(.int c3), (.int c2), (.int c1), (.int c0), (.int (4 : Int32))])
    refine W9.callS me hEL (hw _ (List.mem_of_getElem? (i := 6) rfl)) (hw _ (List.mem_of_getElem? (i := 7) rfl)) (hw _ (List.mem_of_getElem? (i := 4) rfl)) (hw _ (List.mem_of_getElem? (i := 8) rfl)) (argsL := [(.int (4 : Int32)), (.int c0), (.int c1), (.int c2), (.int c3)]) (rest := []) (c_str4 (ss := []) g W9.old q0 q1 q2 q3) at_64 (by decide) (fun _ q => nomatch q) rfl (lenOf pd_23 rfl) (own_le rfl) (own_le rfl) (own_le rfl) (own_le rfl) rfl ?_
    intro T56 h56 v56 W56 z56 q56
    obtain ⟨_, rfl, E56, a56, rfl, L56⟩ := q56
    show Fi p e below s Z _ _ _ _ T56 (mkF m 67 #[.val (.int p0), .val (.int p1), .val (.int p2), .val (.int p3), .val (.int p4), .val (.int (4 : Int32)), .val (.ref a1), .unset, .unset, .unset, .unset] [(.ref a56)])
    replace A9 := A9.ext E56
    refine W56.astore me at_67 (l' := #[.val (.int p0), .val (.int p1), .val (.int p2), .val (.int p3), .val (.int p4), .val (.int (4 : Int32)), .val (.ref a1), .val (.ref a56), .unset, .unset, .unset]) rfl rfl ?_
    refine W56.iload me at_69 rfl ?_
    refine W56.istore me at_71 (l' := #[.val (.int p0), .val (.int p1), .val (.int p2), .val (.int p3), .val (.int p4), .val (.int (4 : Int32)), .val (.ref a1), .val (.ref a56), .val (.int (4 : Int32)), .unset, .unset]) rfl ?_
    refine W56.iload me at_73 rfl ?_
    refine W56.iconst me at_75 (v := 3) rfl ?_
    show Fi p e below s Z _ _ _ _ T56 (mkF m 76 #[.val (.int p0), .val (.int p1), .val (.int p2), .val (.int p3), .val (.int p4), .val (.int (4 : Int32)), .val (.ref a1), .val (.ref a56), .val (.int (4 : Int32)), .unset, .unset] [(.int (3 : Int32)), (.int (4 : Int32))])
    refine W56.icN_le me at_76 (by decide) ?_
    show Fi p e below s Z _ _ _ _ T56 (mkF m 79 #[.val (.int p0), .val (.int p1), .val (.int p2), .val (.int p3), .val (.int p4), .val (.int (4 : Int32)), .val (.ref a1), .val (.ref a56), .val (.int (4 : Int32)), .unset, .unset] [])
    refine W56.aload me at_79 rfl rfl ?_
    refine W56.iconst me at_81 (v := 3) rfl ?_
    show Fi p e below s Z _ _ _ _ T56 (mkF m 82 #[.val (.int p0), .val (.int p1), .val (.int p2), .val (.int p3), .val (.int p4), .val (.int (4 : Int32)), .val (.ref a1), .val (.ref a56), .val (.int (4 : Int32)), .unset, .unset] [(.int (3 : Int32)), (.ref a1)])
    refine W56.caload me A9 at_82 (by decide) (v := .int c3) rfl ?_
    show Fi p e below s Z _ _ _ _ T56 (mkF m 83 #[.val (.int p0), .val (.int p1), .val (.int p2), .val (.int p3), .val (.int p4), .val (.int (4 : Int32)), .val (.ref a1), .val (.ref a56), .val (.int (4 : Int32)), .unset, .unset] [(.int c3)])
    refine W56.bipush me at_83 (v := 35) rfl ?_
    show Fi p e below s Z _ _ _ _ T56 (mkF m 85 #[.val (.int p0), .val (.int p1), .val (.int p2), .val (.int p3), .val (.int p4), .val (.int (4 : Int32)), .val (.ref a1), .val (.ref a56), .val (.int (4 : Int32)), .unset, .unset] [(.int (35 : Int32)), (.int c3)])
    refine W56.ic_ne me at_85 (pc' := 91) (by decide) (by decide) (fun hh3 => ?_) (fun hh3 => ?_)
    ·
      show Fi p e below s Z _ _ _ _ T56 (mkF m 91 #[.val (.int p0), .val (.int p1), .val (.int p2), .val (.int p3), .val (.int p4), .val (.int (4 : Int32)), .val (.ref a1), .val (.ref a56), .val (.int (4 : Int32)), .unset, .unset] [])
      refine W56.iload me at_91 rfl ?_
      refine W56.iconst me at_93 (v := 2) rfl ?_
      show Fi p e below s Z _ _ _ _ T56 (mkF m 94 #[.val (.int p0), .val (.int p1), .val (.int p2), .val (.int p3), .val (.int p4), .val (.int (4 : Int32)), .val (.ref a1), .val (.ref a56), .val (.int (4 : Int32)), .unset, .unset] [(.int (2 : Int32)), (.int (4 : Int32))])
      refine W56.icN_le me at_94 (by decide) ?_
      show Fi p e below s Z _ _ _ _ T56 (mkF m 97 #[.val (.int p0), .val (.int p1), .val (.int p2), .val (.int p3), .val (.int p4), .val (.int (4 : Int32)), .val (.ref a1), .val (.ref a56), .val (.int (4 : Int32)), .unset, .unset] [])
      refine W56.aload me at_97 rfl rfl ?_
      refine W56.iconst me at_99 (v := 2) rfl ?_
      show Fi p e below s Z _ _ _ _ T56 (mkF m 100 #[.val (.int p0), .val (.int p1), .val (.int p2), .val (.int p3), .val (.int p4), .val (.int (4 : Int32)), .val (.ref a1), .val (.ref a56), .val (.int (4 : Int32)), .unset, .unset] [(.int (2 : Int32)), (.ref a1)])
      refine W56.caload me A9 at_100 (by decide) (v := .int c2) rfl ?_
      show Fi p e below s Z _ _ _ _ T56 (mkF m 101 #[.val (.int p0), .val (.int p1), .val (.int p2), .val (.int p3), .val (.int p4), .val (.int (4 : Int32)), .val (.ref a1), .val (.ref a56), .val (.int (4 : Int32)), .unset, .unset] [(.int c2)])
      refine W56.bipush me at_101 (v := 35) rfl ?_
      show Fi p e below s Z _ _ _ _ T56 (mkF m 103 #[.val (.int p0), .val (.int p1), .val (.int p2), .val (.int p3), .val (.int p4), .val (.int (4 : Int32)), .val (.ref a1), .val (.ref a56), .val (.int (4 : Int32)), .unset, .unset] [(.int (35 : Int32)), (.int c2)])
      refine W56.ic_ne me at_103 (pc' := 109) (by decide) (by decide) (fun hh2 => ?_) (fun hh2 => ?_)
      ·
        show Fi p e below s Z _ _ _ _ T56 (mkF m 109 #[.val (.int p0), .val (.int p1), .val (.int p2), .val (.int p3), .val (.int p4), .val (.int (4 : Int32)), .val (.ref a1), .val (.ref a56), .val (.int (4 : Int32)), .unset, .unset] [])
        refine W56.iload me at_109 rfl ?_
        refine W56.iconst me at_111 (v := 1) rfl ?_
        show Fi p e below s Z _ _ _ _ T56 (mkF m 112 #[.val (.int p0), .val (.int p1), .val (.int p2), .val (.int p3), .val (.int p4), .val (.int (4 : Int32)), .val (.ref a1), .val (.ref a56), .val (.int (4 : Int32)), .unset, .unset] [(.int (1 : Int32)), (.int (4 : Int32))])
        refine W56.icN_le me at_112 (by decide) ?_
        show Fi p e below s Z _ _ _ _ T56 (mkF m 115 #[.val (.int p0), .val (.int p1), .val (.int p2), .val (.int p3), .val (.int p4), .val (.int (4 : Int32)), .val (.ref a1), .val (.ref a56), .val (.int (4 : Int32)), .unset, .unset] [])
        refine W56.aload me at_115 rfl rfl ?_
        refine W56.iconst me at_117 (v := 1) rfl ?_
        show Fi p e below s Z _ _ _ _ T56 (mkF m 118 #[.val (.int p0), .val (.int p1), .val (.int p2), .val (.int p3), .val (.int p4), .val (.int (4 : Int32)), .val (.ref a1), .val (.ref a56), .val (.int (4 : Int32)), .unset, .unset] [(.int (1 : Int32)), (.ref a1)])
        refine W56.caload me A9 at_118 (by decide) (v := .int c1) rfl ?_
        show Fi p e below s Z _ _ _ _ T56 (mkF m 119 #[.val (.int p0), .val (.int p1), .val (.int p2), .val (.int p3), .val (.int p4), .val (.int (4 : Int32)), .val (.ref a1), .val (.ref a56), .val (.int (4 : Int32)), .unset, .unset] [(.int c1)])
        refine W56.bipush me at_119 (v := 35) rfl ?_
        show Fi p e below s Z _ _ _ _ T56 (mkF m 121 #[.val (.int p0), .val (.int p1), .val (.int p2), .val (.int p3), .val (.int p4), .val (.int (4 : Int32)), .val (.ref a1), .val (.ref a56), .val (.int (4 : Int32)), .unset, .unset] [(.int (35 : Int32)), (.int c1)])
        refine W56.ic_ne me at_121 (pc' := 127) (by decide) (by decide) (fun hh1 => ?_) (fun hh1 => ?_)
        ·
          show Fi p e below s Z _ _ _ _ T56 (mkF m 127 #[.val (.int p0), .val (.int p1), .val (.int p2), .val (.int p3), .val (.int p4), .val (.int (4 : Int32)), .val (.ref a1), .val (.ref a56), .val (.int (4 : Int32)), .unset, .unset] [])
          refine W56.iload me at_127 rfl ?_
          show Fi p e below s Z _ _ _ _ T56 (mkF m 129 #[.val (.int p0), .val (.int p1), .val (.int p2), .val (.int p3), .val (.int p4), .val (.int (4 : Int32)), .val (.ref a1), .val (.ref a56), .val (.int (4 : Int32)), .unset, .unset] [(.int (4 : Int32))])
          refine W56.ifN_le me at_129 (by decide) ?_
          show Fi p e below s Z _ _ _ _ T56 (mkF m 132 #[.val (.int p0), .val (.int p1), .val (.int p2), .val (.int p3), .val (.int p4), .val (.int (4 : Int32)), .val (.ref a1), .val (.ref a56), .val (.int (4 : Int32)), .unset, .unset] [])
          refine W56.aload me at_132 rfl rfl ?_
          refine W56.iconst me at_134 (v := 0) rfl ?_
          show Fi p e below s Z _ _ _ _ T56 (mkF m 135 #[.val (.int p0), .val (.int p1), .val (.int p2), .val (.int p3), .val (.int p4), .val (.int (4 : Int32)), .val (.ref a1), .val (.ref a56), .val (.int (4 : Int32)), .unset, .unset] [(.int (0 : Int32)), (.ref a1)])
          refine W56.caload me A9 at_135 (by decide) (v := .int c0) rfl ?_
          show Fi p e below s Z _ _ _ _ T56 (mkF m 136 #[.val (.int p0), .val (.int p1), .val (.int p2), .val (.int p3), .val (.int p4), .val (.int (4 : Int32)), .val (.ref a1), .val (.ref a56), .val (.int (4 : Int32)), .unset, .unset] [(.int c0)])
          refine W56.bipush me at_136 (v := 35) rfl ?_
          show Fi p e below s Z _ _ _ _ T56 (mkF m 138 #[.val (.int p0), .val (.int p1), .val (.int p2), .val (.int p3), .val (.int p4), .val (.int (4 : Int32)), .val (.ref a1), .val (.ref a56), .val (.int (4 : Int32)), .unset, .unset] [(.int (35 : Int32)), (.int c0)])
          refine W56.ic_ne me at_138 (pc' := 144) (by decide) (by decide) (fun hh0 => ?_) (fun hh0 => ?_)
          ·
            show Fi p e below s Z _ _ _ _ T56 (mkF m 144 #[.val (.int p0), .val (.int p1), .val (.int p2), .val (.int p3), .val (.int p4), .val (.int (4 : Int32)), .val (.ref a1), .val (.ref a56), .val (.int (4 : Int32)), .unset, .unset] [])
            refine W56.aload me at_144 rfl rfl ?_
            show Fi p e below s Z _ _ _ _ T56 (mkF m 146 #[.val (.int p0), .val (.int p1), .val (.int p2), .val (.int p3), .val (.int p4), .val (.int (4 : Int32)), .val (.ref a1), .val (.ref a56), .val (.int (4 : Int32)), .unset, .unset] [(.ref a56)])
            show Fi p e below s Z _ _ _ _ T56 (mkF m 146 #[.val (.int p0), .val (.int p1), .val (.int p2), .val (.int p3), .val (.int p4), .val (.int (4 : Int32)), .val (.ref a1), .val (.ref a56), .val (.int (4 : Int32)), .unset, .unset] [(.ref a56)])
            refine W56.callS me hEL (hw _ (List.mem_of_getElem? (i := 30) rfl)) (hw _ (List.mem_of_getElem? (i := 31) rfl)) (hw _ (List.mem_of_getElem? (i := 32) rfl)) (hw _ (List.mem_of_getElem? (i := 33) rfl)) (argsL := [(.ref a56)]) (rest := []) (c_fr0 (ss := []) g W56.old (cs := [c0, c1, c2, c3]) L56 (alS (alS (alS (alS al0 hh0) hh1) hh2) hh3)) at_146 (by decide) (fun _ q => nomatch q) rfl (lenOf pd_24 rfl) (own_le rfl) (own_le rfl) (own_le rfl) (own_le rfl) rfl ?_
            intro T57 h57 v57 W57 z57 q57
            obtain ⟨_, rfl, E57, d57, rfl, M57⟩ := q57
            show Fi p e below s Z _ _ _ _ T57 (mkF m 149 #[.val (.int p0), .val (.int p1), .val (.int p2), .val (.int p3), .val (.int p4), .val (.int (4 : Int32)), .val (.ref a1), .val (.ref a56), .val (.int (4 : Int32)), .unset, .unset] [(.ref d57)])
            refine W57.astore me at_149 (l' := #[.val (.int p0), .val (.int p1), .val (.int p2), .val (.int p3), .val (.int p4), .val (.int (4 : Int32)), .val (.ref a1), .val (.ref a56), .val (.int (4 : Int32)), .val (.ref d57), .unset]) rfl rfl ?_
            refine W57.iload me at_151 rfl ?_
            refine W57.iload me at_153 rfl ?_
            show Fi p e below s Z _ _ _ _ T57 (mkF m 155 #[.val (.int p0), .val (.int p1), .val (.int p2), .val (.int p3), .val (.int p4), .val (.int (4 : Int32)), .val (.ref a1), .val (.ref a56), .val (.int (4 : Int32)), .val (.ref d57), .unset] [(.int (4 : Int32)), (.int (4 : Int32))])
            refine W57.icN_ne me at_155 (by decide) ?_
            show Fi p e below s Z _ _ _ _ T57 (mkF m 158 #[.val (.int p0), .val (.int p1), .val (.int p2), .val (.int p3), .val (.int p4), .val (.int (4 : Int32)), .val (.ref a1), .val (.ref a56), .val (.int (4 : Int32)), .val (.ref d57), .unset] [])
            refine W57.aload me at_158 rfl rfl ?_
            show Fi p e below s Z _ _ _ _ T57 (mkF m 160 #[.val (.int p0), .val (.int p1), .val (.int p2), .val (.int p3), .val (.int p4), .val (.int (4 : Int32)), .val (.ref a1), .val (.ref a56), .val (.int (4 : Int32)), .val (.ref d57), .unset] [(.ref d57)])
            refine W57.callV me hEL (hw _ (List.mem_of_getElem? (i := 75) rfl)) (hw _ (List.mem_of_getElem? (i := 76) rfl)) (fun hZ' => notFace_of_selects (args := #[]) (mvT (s := s.setVm _) hZ' (hw _ (List.mem_of_getElem? (i := 78) rfl)))) (hw _ (List.mem_of_getElem? (i := 78) rfl)) (hw _ (List.mem_of_getElem? (i := 77) rfl)) (hw _ (List.mem_of_getElem? (i := 11) rfl)) (hw _ (List.mem_of_getElem? (i := 79) rfl)) (a := d57) (argsL := []) (rest := []) M57.exa (c_isempty (ss := []) g W57.old M57) at_160 (by decide) (fun _ q => nomatch q) rfl (lenOf pd_7 rfl) (own_le rfl) (own_le rfl) (own_le rfl) (own_le rfl) rfl ?_
            intro T58 h58 v58 W58 z58 q58
            obtain ⟨_, rfl, rfl, rfl⟩ := q58
            show Fi p e below s Z _ _ _ _ T58 (mkF m 163 #[.val (.int p0), .val (.int p1), .val (.int p2), .val (.int p3), .val (.int p4), .val (.int (4 : Int32)), .val (.ref a1), .val (.ref a56), .val (.int (4 : Int32)), .val (.ref d57), .unset] [(.int (1 : Int32))])
            exact W58.retN hEL me (Or.inl rfl) at_163 rfl (by decide) (by decide)
          ·
            show Fi p e below s Z _ _ _ _ T56 (mkF m 141 #[.val (.int p0), .val (.int p1), .val (.int p2), .val (.int p3), .val (.int p4), .val (.int (4 : Int32)), .val (.ref a1), .val (.ref a56), .val (.int (4 : Int32)), .unset, .unset] [])
            refine W56.iconst me at_141 (v := 0) rfl ?_
            refine W56.istore me at_142 (l' := #[.val (.int p0), .val (.int p1), .val (.int p2), .val (.int p3), .val (.int p4), .val (.int (4 : Int32)), .val (.ref a1), .val (.ref a56), .val (.int (0 : Int32)), .unset, .unset]) rfl ?_
            refine W56.aload me at_144 rfl rfl ?_
            show Fi p e below s Z _ _ _ _ T56 (mkF m 146 #[.val (.int p0), .val (.int p1), .val (.int p2), .val (.int p3), .val (.int p4), .val (.int (4 : Int32)), .val (.ref a1), .val (.ref a56), .val (.int (0 : Int32)), .unset, .unset] [(.ref a56)])
            show Fi p e below s Z _ _ _ _ T56 (mkF m 146 #[.val (.int p0), .val (.int p1), .val (.int p2), .val (.int p3), .val (.int p4), .val (.int (4 : Int32)), .val (.ref a1), .val (.ref a56), .val (.int (0 : Int32)), .unset, .unset] [(.ref a56)])
            refine W56.callS me hEL (hw _ (List.mem_of_getElem? (i := 30) rfl)) (hw _ (List.mem_of_getElem? (i := 31) rfl)) (hw _ (List.mem_of_getElem? (i := 32) rfl)) (hw _ (List.mem_of_getElem? (i := 33) rfl)) (argsL := [(.ref a56)]) (rest := []) (c_fr1 (ss := []) g W56.old (cs := [c0, c1, c2, c3]) L56 0 3 (own_le rfl) hh0 al0 (by decide) rfl) at_146 (by decide) (fun _ q => nomatch q) rfl (lenOf pd_24 rfl) (own_le rfl) (own_le rfl) (own_le rfl) (own_le rfl) rfl ?_
            intro T59 h59 v59 W59 z59 q59
            obtain ⟨_, rfl, E59, d59, rfl, M59⟩ := q59
            show Fi p e below s Z _ _ _ _ T59 (mkF m 149 #[.val (.int p0), .val (.int p1), .val (.int p2), .val (.int p3), .val (.int p4), .val (.int (4 : Int32)), .val (.ref a1), .val (.ref a56), .val (.int (0 : Int32)), .unset, .unset] [(.ref d59)])
            replace A9 := A9.ext E59
            replace L56 := L56.ext E59
            refine W59.astore me at_149 (l' := #[.val (.int p0), .val (.int p1), .val (.int p2), .val (.int p3), .val (.int p4), .val (.int (4 : Int32)), .val (.ref a1), .val (.ref a56), .val (.int (0 : Int32)), .val (.ref d59), .unset]) rfl rfl ?_
            refine W59.iload me at_151 rfl ?_
            refine W59.iload me at_153 rfl ?_
            show Fi p e below s Z _ _ _ _ T59 (mkF m 155 #[.val (.int p0), .val (.int p1), .val (.int p2), .val (.int p3), .val (.int p4), .val (.int (4 : Int32)), .val (.ref a1), .val (.ref a56), .val (.int (0 : Int32)), .val (.ref d59), .unset] [(.int (4 : Int32)), (.int (0 : Int32))])
            refine W59.icY_ne me at_155 (by decide) (pc' := 164) (by decide) (by decide) ?_
            show Fi p e below s Z _ _ _ _ T59 (mkF m 164 #[.val (.int p0), .val (.int p1), .val (.int p2), .val (.int p3), .val (.int p4), .val (.int (4 : Int32)), .val (.ref a1), .val (.ref a56), .val (.int (0 : Int32)), .val (.ref d59), .unset] [])
            refine W59.iload me at_164 rfl ?_
            refine W59.iload me at_166 rfl ?_
            refine W59.isub me at_168 ?_
            refine W59.iconst me at_169 (v := 1) rfl ?_
            refine W59.isub me at_170 ?_
            show Fi p e below s Z _ _ _ _ T59 (mkF m 171 #[.val (.int p0), .val (.int p1), .val (.int p2), .val (.int p3), .val (.int p4), .val (.int (4 : Int32)), .val (.ref a1), .val (.ref a56), .val (.int (0 : Int32)), .val (.ref d59), .unset] [(.int (((4 : Int32) - (0 : Int32)) - (1 : Int32)))])
            show Fi p e below s Z _ _ _ _ T59 (mkF m 171 #[.val (.int p0), .val (.int p1), .val (.int p2), .val (.int p3), .val (.int p4), .val (.int (4 : Int32)), .val (.ref a1), .val (.ref a56), .val (.int (0 : Int32)), .val (.ref d59), .unset] [(.int (3 : Int32))])
            refine W59.istore me at_171 (l' := #[.val (.int p0), .val (.int p1), .val (.int p2), .val (.int p3), .val (.int p4), .val (.int (4 : Int32)), .val (.ref a1), .val (.ref a56), .val (.int (0 : Int32)), .val (.ref d59), .val (.int (3 : Int32))]) rfl ?_
            refine W59.aload me at_173 rfl rfl ?_
            show Fi p e below s Z _ _ _ _ T59 (mkF m 175 #[.val (.int p0), .val (.int p1), .val (.int p2), .val (.int p3), .val (.int p4), .val (.int (4 : Int32)), .val (.ref a1), .val (.ref a56), .val (.int (0 : Int32)), .val (.ref d59), .val (.int (3 : Int32))] [(.ref d59)])
            refine W59.callV me hEL (hw _ (List.mem_of_getElem? (i := 133) rfl)) (hw _ (List.mem_of_getElem? (i := 51) rfl)) (fun hZ' => notFace_of_selects (args := #[]) (mvT (s := s.setVm _) hZ' (hw _ (List.mem_of_getElem? (i := 53) rfl)))) (hw _ (List.mem_of_getElem? (i := 53) rfl)) (hw _ (List.mem_of_getElem? (i := 52) rfl)) (hw _ (List.mem_of_getElem? (i := 11) rfl)) (hw _ (List.mem_of_getElem? (i := 54) rfl)) (a := d59) (argsL := []) (rest := []) M59.exa (c_length (ss := []) g W59.old (cs := [c1, c2, c3]) M59) at_175 (by decide) (fun _ q => nomatch q) rfl (lenOf pd_12 rfl) (own_le rfl) (own_le rfl) (own_le rfl) (own_le rfl) rfl ?_
            intro T60 h60 v60 W60 z60 q60
            obtain ⟨_, rfl, rfl, rfl⟩ := q60
            show Fi p e below s Z _ _ _ _ T60 (mkF m 178 #[.val (.int p0), .val (.int p1), .val (.int p2), .val (.int p3), .val (.int p4), .val (.int (4 : Int32)), .val (.ref a1), .val (.ref a56), .val (.int (0 : Int32)), .val (.ref d59), .val (.int (3 : Int32))] [(.int (3 : Int32))])
            refine W60.iload me at_178 rfl ?_
            show Fi p e below s Z _ _ _ _ T60 (mkF m 180 #[.val (.int p0), .val (.int p1), .val (.int p2), .val (.int p3), .val (.int p4), .val (.int (4 : Int32)), .val (.ref a1), .val (.ref a56), .val (.int (0 : Int32)), .val (.ref d59), .val (.int (3 : Int32))] [(.int (3 : Int32)), (.int (3 : Int32))])
            refine W60.icY_eq me at_180 (by decide) (pc' := 185) (by decide) (by decide) ?_
            show Fi p e below s Z _ _ _ _ T60 (mkF m 185 #[.val (.int p0), .val (.int p1), .val (.int p2), .val (.int p3), .val (.int p4), .val (.int (4 : Int32)), .val (.ref a1), .val (.ref a56), .val (.int (0 : Int32)), .val (.ref d59), .val (.int (3 : Int32))] [])
            refine W60.iload me at_185 rfl ?_
            show Fi p e below s Z _ _ _ _ T60 (mkF m 187 #[.val (.int p0), .val (.int p1), .val (.int p2), .val (.int p3), .val (.int p4), .val (.int (4 : Int32)), .val (.ref a1), .val (.ref a56), .val (.int (0 : Int32)), .val (.ref d59), .val (.int (3 : Int32))] [(.int (3 : Int32))])
            refine W60.ifN_le me at_187 (by decide) ?_
            show Fi p e below s Z _ _ _ _ T60 (mkF m 190 #[.val (.int p0), .val (.int p1), .val (.int p2), .val (.int p3), .val (.int p4), .val (.int (4 : Int32)), .val (.ref a1), .val (.ref a56), .val (.int (0 : Int32)), .val (.ref d59), .val (.int (3 : Int32))] [])
            refine W60.aload me at_190 rfl rfl ?_
            refine W60.iconst me at_192 (v := 0) rfl ?_
            show Fi p e below s Z _ _ _ _ T60 (mkF m 193 #[.val (.int p0), .val (.int p1), .val (.int p2), .val (.int p3), .val (.int p4), .val (.int (4 : Int32)), .val (.ref a1), .val (.ref a56), .val (.int (0 : Int32)), .val (.ref d59), .val (.int (3 : Int32))] [(.int (0 : Int32)), (.ref d59)])
            refine W60.callV me hEL (hw _ (List.mem_of_getElem? (i := 134) rfl)) (hw _ (List.mem_of_getElem? (i := 135) rfl)) (fun hZ' => notFace_of_selects (args := #[]) (mvT (s := s.setVm _) hZ' (hw _ (List.mem_of_getElem? (i := 137) rfl)))) (hw _ (List.mem_of_getElem? (i := 137) rfl)) (hw _ (List.mem_of_getElem? (i := 136) rfl)) (hw _ (List.mem_of_getElem? (i := 11) rfl)) (hw _ (List.mem_of_getElem? (i := 138) rfl)) (a := d59) (argsL := [(.int (0 : Int32))]) (rest := []) M59.exa (c_charat (ss := []) g W60.old (cs := [c1, c2, c3]) (i := 0) M59 (own_le rfl)) at_193 (by decide) (fun _ q => nomatch q) rfl (lenOf pd_22 rfl) (own_le rfl) (own_le rfl) (own_le rfl) (own_le rfl) rfl ?_
            intro T61 h61 v61 W61 z61 q61
            obtain ⟨_, rfl, rfl, rfl⟩ := q61
            show Fi p e below s Z _ _ _ _ T61 (mkF m 196 #[.val (.int p0), .val (.int p1), .val (.int p2), .val (.int p3), .val (.int p4), .val (.int (4 : Int32)), .val (.ref a1), .val (.ref a56), .val (.int (0 : Int32)), .val (.ref d59), .val (.int (3 : Int32))] [(.int c1)])
            refine W61.aload me at_196 rfl rfl ?_
            refine W61.iload me at_198 rfl ?_
            refine W61.iconst me at_200 (v := 1) rfl ?_
            refine W61.iadd me at_201 ?_
            show Fi p e below s Z _ _ _ _ T61 (mkF m 202 #[.val (.int p0), .val (.int p1), .val (.int p2), .val (.int p3), .val (.int p4), .val (.int (4 : Int32)), .val (.ref a1), .val (.ref a56), .val (.int (0 : Int32)), .val (.ref d59), .val (.int (3 : Int32))] [(.int ((0 : Int32) + (1 : Int32))), (.ref a1), (.int c1)])
            show Fi p e below s Z _ _ _ _ T61 (mkF m 202 #[.val (.int p0), .val (.int p1), .val (.int p2), .val (.int p3), .val (.int p4), .val (.int (4 : Int32)), .val (.ref a1), .val (.ref a56), .val (.int (0 : Int32)), .val (.ref d59), .val (.int (3 : Int32))] [(.int (1 : Int32)), (.ref a1), (.int c1)])
            refine W61.caload me A9 at_202 (by decide) (v := .int c1) rfl ?_
            show Fi p e below s Z _ _ _ _ T61 (mkF m 203 #[.val (.int p0), .val (.int p1), .val (.int p2), .val (.int p3), .val (.int p4), .val (.int (4 : Int32)), .val (.ref a1), .val (.ref a56), .val (.int (0 : Int32)), .val (.ref d59), .val (.int (3 : Int32))] [(.int c1), (.int c1)])
            refine W61.icY_eq me at_203 rfl (pc' := 208) (by decide) (by decide) ?_
            show Fi p e below s Z _ _ _ _ T61 (mkF m 208 #[.val (.int p0), .val (.int p1), .val (.int p2), .val (.int p3), .val (.int p4), .val (.int (4 : Int32)), .val (.ref a1), .val (.ref a56), .val (.int (0 : Int32)), .val (.ref d59), .val (.int (3 : Int32))] [])
            refine W61.iload me at_208 rfl ?_
            refine W61.iconst me at_210 (v := 1) rfl ?_
            show Fi p e below s Z _ _ _ _ T61 (mkF m 211 #[.val (.int p0), .val (.int p1), .val (.int p2), .val (.int p3), .val (.int p4), .val (.int (4 : Int32)), .val (.ref a1), .val (.ref a56), .val (.int (0 : Int32)), .val (.ref d59), .val (.int (3 : Int32))] [(.int (1 : Int32)), (.int (3 : Int32))])
            refine W61.icN_le me at_211 (by decide) ?_
            show Fi p e below s Z _ _ _ _ T61 (mkF m 214 #[.val (.int p0), .val (.int p1), .val (.int p2), .val (.int p3), .val (.int p4), .val (.int (4 : Int32)), .val (.ref a1), .val (.ref a56), .val (.int (0 : Int32)), .val (.ref d59), .val (.int (3 : Int32))] [])
            refine W61.aload me at_214 rfl rfl ?_
            refine W61.iconst me at_216 (v := 1) rfl ?_
            show Fi p e below s Z _ _ _ _ T61 (mkF m 217 #[.val (.int p0), .val (.int p1), .val (.int p2), .val (.int p3), .val (.int p4), .val (.int (4 : Int32)), .val (.ref a1), .val (.ref a56), .val (.int (0 : Int32)), .val (.ref d59), .val (.int (3 : Int32))] [(.int (1 : Int32)), (.ref d59)])
            refine W61.callV me hEL (hw _ (List.mem_of_getElem? (i := 134) rfl)) (hw _ (List.mem_of_getElem? (i := 135) rfl)) (fun hZ' => notFace_of_selects (args := #[]) (mvT (s := s.setVm _) hZ' (hw _ (List.mem_of_getElem? (i := 137) rfl)))) (hw _ (List.mem_of_getElem? (i := 137) rfl)) (hw _ (List.mem_of_getElem? (i := 136) rfl)) (hw _ (List.mem_of_getElem? (i := 11) rfl)) (hw _ (List.mem_of_getElem? (i := 138) rfl)) (a := d59) (argsL := [(.int (1 : Int32))]) (rest := []) M59.exa (c_charat (ss := []) g W61.old (cs := [c1, c2, c3]) (i := 1) M59 (own_le rfl)) at_217 (by decide) (fun _ q => nomatch q) rfl (lenOf pd_22 rfl) (own_le rfl) (own_le rfl) (own_le rfl) (own_le rfl) rfl ?_
            intro T62 h62 v62 W62 z62 q62
            obtain ⟨_, rfl, rfl, rfl⟩ := q62
            show Fi p e below s Z _ _ _ _ T62 (mkF m 220 #[.val (.int p0), .val (.int p1), .val (.int p2), .val (.int p3), .val (.int p4), .val (.int (4 : Int32)), .val (.ref a1), .val (.ref a56), .val (.int (0 : Int32)), .val (.ref d59), .val (.int (3 : Int32))] [(.int c2)])
            refine W62.aload me at_220 rfl rfl ?_
            refine W62.iload me at_222 rfl ?_
            refine W62.iconst me at_224 (v := 2) rfl ?_
            refine W62.iadd me at_225 ?_
            show Fi p e below s Z _ _ _ _ T62 (mkF m 226 #[.val (.int p0), .val (.int p1), .val (.int p2), .val (.int p3), .val (.int p4), .val (.int (4 : Int32)), .val (.ref a1), .val (.ref a56), .val (.int (0 : Int32)), .val (.ref d59), .val (.int (3 : Int32))] [(.int ((0 : Int32) + (2 : Int32))), (.ref a1), (.int c2)])
            show Fi p e below s Z _ _ _ _ T62 (mkF m 226 #[.val (.int p0), .val (.int p1), .val (.int p2), .val (.int p3), .val (.int p4), .val (.int (4 : Int32)), .val (.ref a1), .val (.ref a56), .val (.int (0 : Int32)), .val (.ref d59), .val (.int (3 : Int32))] [(.int (2 : Int32)), (.ref a1), (.int c2)])
            refine W62.caload me A9 at_226 (by decide) (v := .int c2) rfl ?_
            show Fi p e below s Z _ _ _ _ T62 (mkF m 227 #[.val (.int p0), .val (.int p1), .val (.int p2), .val (.int p3), .val (.int p4), .val (.int (4 : Int32)), .val (.ref a1), .val (.ref a56), .val (.int (0 : Int32)), .val (.ref d59), .val (.int (3 : Int32))] [(.int c2), (.int c2)])
            refine W62.icY_eq me at_227 rfl (pc' := 232) (by decide) (by decide) ?_
            show Fi p e below s Z _ _ _ _ T62 (mkF m 232 #[.val (.int p0), .val (.int p1), .val (.int p2), .val (.int p3), .val (.int p4), .val (.int (4 : Int32)), .val (.ref a1), .val (.ref a56), .val (.int (0 : Int32)), .val (.ref d59), .val (.int (3 : Int32))] [])
            refine W62.iload me at_232 rfl ?_
            refine W62.iconst me at_234 (v := 2) rfl ?_
            show Fi p e below s Z _ _ _ _ T62 (mkF m 235 #[.val (.int p0), .val (.int p1), .val (.int p2), .val (.int p3), .val (.int p4), .val (.int (4 : Int32)), .val (.ref a1), .val (.ref a56), .val (.int (0 : Int32)), .val (.ref d59), .val (.int (3 : Int32))] [(.int (2 : Int32)), (.int (3 : Int32))])
            refine W62.icN_le me at_235 (by decide) ?_
            show Fi p e below s Z _ _ _ _ T62 (mkF m 238 #[.val (.int p0), .val (.int p1), .val (.int p2), .val (.int p3), .val (.int p4), .val (.int (4 : Int32)), .val (.ref a1), .val (.ref a56), .val (.int (0 : Int32)), .val (.ref d59), .val (.int (3 : Int32))] [])
            refine W62.aload me at_238 rfl rfl ?_
            refine W62.iconst me at_240 (v := 2) rfl ?_
            show Fi p e below s Z _ _ _ _ T62 (mkF m 241 #[.val (.int p0), .val (.int p1), .val (.int p2), .val (.int p3), .val (.int p4), .val (.int (4 : Int32)), .val (.ref a1), .val (.ref a56), .val (.int (0 : Int32)), .val (.ref d59), .val (.int (3 : Int32))] [(.int (2 : Int32)), (.ref d59)])
            refine W62.callV me hEL (hw _ (List.mem_of_getElem? (i := 134) rfl)) (hw _ (List.mem_of_getElem? (i := 135) rfl)) (fun hZ' => notFace_of_selects (args := #[]) (mvT (s := s.setVm _) hZ' (hw _ (List.mem_of_getElem? (i := 137) rfl)))) (hw _ (List.mem_of_getElem? (i := 137) rfl)) (hw _ (List.mem_of_getElem? (i := 136) rfl)) (hw _ (List.mem_of_getElem? (i := 11) rfl)) (hw _ (List.mem_of_getElem? (i := 138) rfl)) (a := d59) (argsL := [(.int (2 : Int32))]) (rest := []) M59.exa (c_charat (ss := []) g W62.old (cs := [c1, c2, c3]) (i := 2) M59 (own_le rfl)) at_241 (by decide) (fun _ q => nomatch q) rfl (lenOf pd_22 rfl) (own_le rfl) (own_le rfl) (own_le rfl) (own_le rfl) rfl ?_
            intro T63 h63 v63 W63 z63 q63
            obtain ⟨_, rfl, rfl, rfl⟩ := q63
            show Fi p e below s Z _ _ _ _ T63 (mkF m 244 #[.val (.int p0), .val (.int p1), .val (.int p2), .val (.int p3), .val (.int p4), .val (.int (4 : Int32)), .val (.ref a1), .val (.ref a56), .val (.int (0 : Int32)), .val (.ref d59), .val (.int (3 : Int32))] [(.int c3)])
            refine W63.aload me at_244 rfl rfl ?_
            refine W63.iload me at_246 rfl ?_
            refine W63.iconst me at_248 (v := 3) rfl ?_
            refine W63.iadd me at_249 ?_
            show Fi p e below s Z _ _ _ _ T63 (mkF m 250 #[.val (.int p0), .val (.int p1), .val (.int p2), .val (.int p3), .val (.int p4), .val (.int (4 : Int32)), .val (.ref a1), .val (.ref a56), .val (.int (0 : Int32)), .val (.ref d59), .val (.int (3 : Int32))] [(.int ((0 : Int32) + (3 : Int32))), (.ref a1), (.int c3)])
            show Fi p e below s Z _ _ _ _ T63 (mkF m 250 #[.val (.int p0), .val (.int p1), .val (.int p2), .val (.int p3), .val (.int p4), .val (.int (4 : Int32)), .val (.ref a1), .val (.ref a56), .val (.int (0 : Int32)), .val (.ref d59), .val (.int (3 : Int32))] [(.int (3 : Int32)), (.ref a1), (.int c3)])
            refine W63.caload me A9 at_250 (by decide) (v := .int c3) rfl ?_
            show Fi p e below s Z _ _ _ _ T63 (mkF m 251 #[.val (.int p0), .val (.int p1), .val (.int p2), .val (.int p3), .val (.int p4), .val (.int (4 : Int32)), .val (.ref a1), .val (.ref a56), .val (.int (0 : Int32)), .val (.ref d59), .val (.int (3 : Int32))] [(.int c3), (.int c3)])
            refine W63.icY_eq me at_251 rfl (pc' := 256) (by decide) (by decide) ?_
            show Fi p e below s Z _ _ _ _ T63 (mkF m 256 #[.val (.int p0), .val (.int p1), .val (.int p2), .val (.int p3), .val (.int p4), .val (.int (4 : Int32)), .val (.ref a1), .val (.ref a56), .val (.int (0 : Int32)), .val (.ref d59), .val (.int (3 : Int32))] [])
            refine W63.iconst me at_256 (v := 1) rfl ?_
            show Fi p e below s Z _ _ _ _ T63 (mkF m 257 #[.val (.int p0), .val (.int p1), .val (.int p2), .val (.int p3), .val (.int p4), .val (.int (4 : Int32)), .val (.ref a1), .val (.ref a56), .val (.int (0 : Int32)), .val (.ref d59), .val (.int (3 : Int32))] [(.int (1 : Int32))])
            exact W63.retN hEL me (Or.inl rfl) at_257 rfl (by decide) (by decide)
        ·
          show Fi p e below s Z _ _ _ _ T56 (mkF m 124 #[.val (.int p0), .val (.int p1), .val (.int p2), .val (.int p3), .val (.int p4), .val (.int (4 : Int32)), .val (.ref a1), .val (.ref a56), .val (.int (4 : Int32)), .unset, .unset] [])
          refine W56.iconst me at_124 (v := 1) rfl ?_
          refine W56.istore me at_125 (l' := #[.val (.int p0), .val (.int p1), .val (.int p2), .val (.int p3), .val (.int p4), .val (.int (4 : Int32)), .val (.ref a1), .val (.ref a56), .val (.int (1 : Int32)), .unset, .unset]) rfl ?_
          refine W56.iload me at_127 rfl ?_
          show Fi p e below s Z _ _ _ _ T56 (mkF m 129 #[.val (.int p0), .val (.int p1), .val (.int p2), .val (.int p3), .val (.int p4), .val (.int (4 : Int32)), .val (.ref a1), .val (.ref a56), .val (.int (1 : Int32)), .unset, .unset] [(.int (4 : Int32))])
          refine W56.ifN_le me at_129 (by decide) ?_
          show Fi p e below s Z _ _ _ _ T56 (mkF m 132 #[.val (.int p0), .val (.int p1), .val (.int p2), .val (.int p3), .val (.int p4), .val (.int (4 : Int32)), .val (.ref a1), .val (.ref a56), .val (.int (1 : Int32)), .unset, .unset] [])
          refine W56.aload me at_132 rfl rfl ?_
          refine W56.iconst me at_134 (v := 0) rfl ?_
          show Fi p e below s Z _ _ _ _ T56 (mkF m 135 #[.val (.int p0), .val (.int p1), .val (.int p2), .val (.int p3), .val (.int p4), .val (.int (4 : Int32)), .val (.ref a1), .val (.ref a56), .val (.int (1 : Int32)), .unset, .unset] [(.int (0 : Int32)), (.ref a1)])
          refine W56.caload me A9 at_135 (by decide) (v := .int c0) rfl ?_
          show Fi p e below s Z _ _ _ _ T56 (mkF m 136 #[.val (.int p0), .val (.int p1), .val (.int p2), .val (.int p3), .val (.int p4), .val (.int (4 : Int32)), .val (.ref a1), .val (.ref a56), .val (.int (1 : Int32)), .unset, .unset] [(.int c0)])
          refine W56.bipush me at_136 (v := 35) rfl ?_
          show Fi p e below s Z _ _ _ _ T56 (mkF m 138 #[.val (.int p0), .val (.int p1), .val (.int p2), .val (.int p3), .val (.int p4), .val (.int (4 : Int32)), .val (.ref a1), .val (.ref a56), .val (.int (1 : Int32)), .unset, .unset] [(.int (35 : Int32)), (.int c0)])
          refine W56.ic_ne me at_138 (pc' := 144) (by decide) (by decide) (fun hh0 => ?_) (fun hh0 => ?_)
          ·
            show Fi p e below s Z _ _ _ _ T56 (mkF m 144 #[.val (.int p0), .val (.int p1), .val (.int p2), .val (.int p3), .val (.int p4), .val (.int (4 : Int32)), .val (.ref a1), .val (.ref a56), .val (.int (1 : Int32)), .unset, .unset] [])
            refine W56.aload me at_144 rfl rfl ?_
            show Fi p e below s Z _ _ _ _ T56 (mkF m 146 #[.val (.int p0), .val (.int p1), .val (.int p2), .val (.int p3), .val (.int p4), .val (.int (4 : Int32)), .val (.ref a1), .val (.ref a56), .val (.int (1 : Int32)), .unset, .unset] [(.ref a56)])
            show Fi p e below s Z _ _ _ _ T56 (mkF m 146 #[.val (.int p0), .val (.int p1), .val (.int p2), .val (.int p3), .val (.int p4), .val (.int (4 : Int32)), .val (.ref a1), .val (.ref a56), .val (.int (1 : Int32)), .unset, .unset] [(.ref a56)])
            refine W56.callS me hEL (hw _ (List.mem_of_getElem? (i := 30) rfl)) (hw _ (List.mem_of_getElem? (i := 31) rfl)) (hw _ (List.mem_of_getElem? (i := 32) rfl)) (hw _ (List.mem_of_getElem? (i := 33) rfl)) (argsL := [(.ref a56)]) (rest := []) (c_fr1 (ss := []) g W56.old (cs := [c0, c1, c2, c3]) L56 1 2 (own_le rfl) hh1 (alS al0 hh0) (by decide) rfl) at_146 (by decide) (fun _ q => nomatch q) rfl (lenOf pd_24 rfl) (own_le rfl) (own_le rfl) (own_le rfl) (own_le rfl) rfl ?_
            intro T64 h64 v64 W64 z64 q64
            obtain ⟨_, rfl, E64, d64, rfl, M64⟩ := q64
            show Fi p e below s Z _ _ _ _ T64 (mkF m 149 #[.val (.int p0), .val (.int p1), .val (.int p2), .val (.int p3), .val (.int p4), .val (.int (4 : Int32)), .val (.ref a1), .val (.ref a56), .val (.int (1 : Int32)), .unset, .unset] [(.ref d64)])
            replace A9 := A9.ext E64
            replace L56 := L56.ext E64
            refine W64.astore me at_149 (l' := #[.val (.int p0), .val (.int p1), .val (.int p2), .val (.int p3), .val (.int p4), .val (.int (4 : Int32)), .val (.ref a1), .val (.ref a56), .val (.int (1 : Int32)), .val (.ref d64), .unset]) rfl rfl ?_
            refine W64.iload me at_151 rfl ?_
            refine W64.iload me at_153 rfl ?_
            show Fi p e below s Z _ _ _ _ T64 (mkF m 155 #[.val (.int p0), .val (.int p1), .val (.int p2), .val (.int p3), .val (.int p4), .val (.int (4 : Int32)), .val (.ref a1), .val (.ref a56), .val (.int (1 : Int32)), .val (.ref d64), .unset] [(.int (4 : Int32)), (.int (1 : Int32))])
            refine W64.icY_ne me at_155 (by decide) (pc' := 164) (by decide) (by decide) ?_
            show Fi p e below s Z _ _ _ _ T64 (mkF m 164 #[.val (.int p0), .val (.int p1), .val (.int p2), .val (.int p3), .val (.int p4), .val (.int (4 : Int32)), .val (.ref a1), .val (.ref a56), .val (.int (1 : Int32)), .val (.ref d64), .unset] [])
            refine W64.iload me at_164 rfl ?_
            refine W64.iload me at_166 rfl ?_
            refine W64.isub me at_168 ?_
            refine W64.iconst me at_169 (v := 1) rfl ?_
            refine W64.isub me at_170 ?_
            show Fi p e below s Z _ _ _ _ T64 (mkF m 171 #[.val (.int p0), .val (.int p1), .val (.int p2), .val (.int p3), .val (.int p4), .val (.int (4 : Int32)), .val (.ref a1), .val (.ref a56), .val (.int (1 : Int32)), .val (.ref d64), .unset] [(.int (((4 : Int32) - (1 : Int32)) - (1 : Int32)))])
            show Fi p e below s Z _ _ _ _ T64 (mkF m 171 #[.val (.int p0), .val (.int p1), .val (.int p2), .val (.int p3), .val (.int p4), .val (.int (4 : Int32)), .val (.ref a1), .val (.ref a56), .val (.int (1 : Int32)), .val (.ref d64), .unset] [(.int (2 : Int32))])
            refine W64.istore me at_171 (l' := #[.val (.int p0), .val (.int p1), .val (.int p2), .val (.int p3), .val (.int p4), .val (.int (4 : Int32)), .val (.ref a1), .val (.ref a56), .val (.int (1 : Int32)), .val (.ref d64), .val (.int (2 : Int32))]) rfl ?_
            refine W64.aload me at_173 rfl rfl ?_
            show Fi p e below s Z _ _ _ _ T64 (mkF m 175 #[.val (.int p0), .val (.int p1), .val (.int p2), .val (.int p3), .val (.int p4), .val (.int (4 : Int32)), .val (.ref a1), .val (.ref a56), .val (.int (1 : Int32)), .val (.ref d64), .val (.int (2 : Int32))] [(.ref d64)])
            refine W64.callV me hEL (hw _ (List.mem_of_getElem? (i := 133) rfl)) (hw _ (List.mem_of_getElem? (i := 51) rfl)) (fun hZ' => notFace_of_selects (args := #[]) (mvT (s := s.setVm _) hZ' (hw _ (List.mem_of_getElem? (i := 53) rfl)))) (hw _ (List.mem_of_getElem? (i := 53) rfl)) (hw _ (List.mem_of_getElem? (i := 52) rfl)) (hw _ (List.mem_of_getElem? (i := 11) rfl)) (hw _ (List.mem_of_getElem? (i := 54) rfl)) (a := d64) (argsL := []) (rest := []) M64.exa (c_length (ss := []) g W64.old (cs := [c2, c3]) M64) at_175 (by decide) (fun _ q => nomatch q) rfl (lenOf pd_12 rfl) (own_le rfl) (own_le rfl) (own_le rfl) (own_le rfl) rfl ?_
            intro T65 h65 v65 W65 z65 q65
            obtain ⟨_, rfl, rfl, rfl⟩ := q65
            show Fi p e below s Z _ _ _ _ T65 (mkF m 178 #[.val (.int p0), .val (.int p1), .val (.int p2), .val (.int p3), .val (.int p4), .val (.int (4 : Int32)), .val (.ref a1), .val (.ref a56), .val (.int (1 : Int32)), .val (.ref d64), .val (.int (2 : Int32))] [(.int (2 : Int32))])
            refine W65.iload me at_178 rfl ?_
            show Fi p e below s Z _ _ _ _ T65 (mkF m 180 #[.val (.int p0), .val (.int p1), .val (.int p2), .val (.int p3), .val (.int p4), .val (.int (4 : Int32)), .val (.ref a1), .val (.ref a56), .val (.int (1 : Int32)), .val (.ref d64), .val (.int (2 : Int32))] [(.int (2 : Int32)), (.int (2 : Int32))])
            refine W65.icY_eq me at_180 (by decide) (pc' := 185) (by decide) (by decide) ?_
            show Fi p e below s Z _ _ _ _ T65 (mkF m 185 #[.val (.int p0), .val (.int p1), .val (.int p2), .val (.int p3), .val (.int p4), .val (.int (4 : Int32)), .val (.ref a1), .val (.ref a56), .val (.int (1 : Int32)), .val (.ref d64), .val (.int (2 : Int32))] [])
            refine W65.iload me at_185 rfl ?_
            show Fi p e below s Z _ _ _ _ T65 (mkF m 187 #[.val (.int p0), .val (.int p1), .val (.int p2), .val (.int p3), .val (.int p4), .val (.int (4 : Int32)), .val (.ref a1), .val (.ref a56), .val (.int (1 : Int32)), .val (.ref d64), .val (.int (2 : Int32))] [(.int (2 : Int32))])
            refine W65.ifN_le me at_187 (by decide) ?_
            show Fi p e below s Z _ _ _ _ T65 (mkF m 190 #[.val (.int p0), .val (.int p1), .val (.int p2), .val (.int p3), .val (.int p4), .val (.int (4 : Int32)), .val (.ref a1), .val (.ref a56), .val (.int (1 : Int32)), .val (.ref d64), .val (.int (2 : Int32))] [])
            refine W65.aload me at_190 rfl rfl ?_
            refine W65.iconst me at_192 (v := 0) rfl ?_
            show Fi p e below s Z _ _ _ _ T65 (mkF m 193 #[.val (.int p0), .val (.int p1), .val (.int p2), .val (.int p3), .val (.int p4), .val (.int (4 : Int32)), .val (.ref a1), .val (.ref a56), .val (.int (1 : Int32)), .val (.ref d64), .val (.int (2 : Int32))] [(.int (0 : Int32)), (.ref d64)])
            refine W65.callV me hEL (hw _ (List.mem_of_getElem? (i := 134) rfl)) (hw _ (List.mem_of_getElem? (i := 135) rfl)) (fun hZ' => notFace_of_selects (args := #[]) (mvT (s := s.setVm _) hZ' (hw _ (List.mem_of_getElem? (i := 137) rfl)))) (hw _ (List.mem_of_getElem? (i := 137) rfl)) (hw _ (List.mem_of_getElem? (i := 136) rfl)) (hw _ (List.mem_of_getElem? (i := 11) rfl)) (hw _ (List.mem_of_getElem? (i := 138) rfl)) (a := d64) (argsL := [(.int (0 : Int32))]) (rest := []) M64.exa (c_charat (ss := []) g W65.old (cs := [c2, c3]) (i := 0) M64 (own_le rfl)) at_193 (by decide) (fun _ q => nomatch q) rfl (lenOf pd_22 rfl) (own_le rfl) (own_le rfl) (own_le rfl) (own_le rfl) rfl ?_
            intro T66 h66 v66 W66 z66 q66
            obtain ⟨_, rfl, rfl, rfl⟩ := q66
            show Fi p e below s Z _ _ _ _ T66 (mkF m 196 #[.val (.int p0), .val (.int p1), .val (.int p2), .val (.int p3), .val (.int p4), .val (.int (4 : Int32)), .val (.ref a1), .val (.ref a56), .val (.int (1 : Int32)), .val (.ref d64), .val (.int (2 : Int32))] [(.int c2)])
            refine W66.aload me at_196 rfl rfl ?_
            refine W66.iload me at_198 rfl ?_
            refine W66.iconst me at_200 (v := 1) rfl ?_
            refine W66.iadd me at_201 ?_
            show Fi p e below s Z _ _ _ _ T66 (mkF m 202 #[.val (.int p0), .val (.int p1), .val (.int p2), .val (.int p3), .val (.int p4), .val (.int (4 : Int32)), .val (.ref a1), .val (.ref a56), .val (.int (1 : Int32)), .val (.ref d64), .val (.int (2 : Int32))] [(.int ((1 : Int32) + (1 : Int32))), (.ref a1), (.int c2)])
            show Fi p e below s Z _ _ _ _ T66 (mkF m 202 #[.val (.int p0), .val (.int p1), .val (.int p2), .val (.int p3), .val (.int p4), .val (.int (4 : Int32)), .val (.ref a1), .val (.ref a56), .val (.int (1 : Int32)), .val (.ref d64), .val (.int (2 : Int32))] [(.int (2 : Int32)), (.ref a1), (.int c2)])
            refine W66.caload me A9 at_202 (by decide) (v := .int c2) rfl ?_
            show Fi p e below s Z _ _ _ _ T66 (mkF m 203 #[.val (.int p0), .val (.int p1), .val (.int p2), .val (.int p3), .val (.int p4), .val (.int (4 : Int32)), .val (.ref a1), .val (.ref a56), .val (.int (1 : Int32)), .val (.ref d64), .val (.int (2 : Int32))] [(.int c2), (.int c2)])
            refine W66.icY_eq me at_203 rfl (pc' := 208) (by decide) (by decide) ?_
            show Fi p e below s Z _ _ _ _ T66 (mkF m 208 #[.val (.int p0), .val (.int p1), .val (.int p2), .val (.int p3), .val (.int p4), .val (.int (4 : Int32)), .val (.ref a1), .val (.ref a56), .val (.int (1 : Int32)), .val (.ref d64), .val (.int (2 : Int32))] [])
            refine W66.iload me at_208 rfl ?_
            refine W66.iconst me at_210 (v := 1) rfl ?_
            show Fi p e below s Z _ _ _ _ T66 (mkF m 211 #[.val (.int p0), .val (.int p1), .val (.int p2), .val (.int p3), .val (.int p4), .val (.int (4 : Int32)), .val (.ref a1), .val (.ref a56), .val (.int (1 : Int32)), .val (.ref d64), .val (.int (2 : Int32))] [(.int (1 : Int32)), (.int (2 : Int32))])
            refine W66.icN_le me at_211 (by decide) ?_
            show Fi p e below s Z _ _ _ _ T66 (mkF m 214 #[.val (.int p0), .val (.int p1), .val (.int p2), .val (.int p3), .val (.int p4), .val (.int (4 : Int32)), .val (.ref a1), .val (.ref a56), .val (.int (1 : Int32)), .val (.ref d64), .val (.int (2 : Int32))] [])
            refine W66.aload me at_214 rfl rfl ?_
            refine W66.iconst me at_216 (v := 1) rfl ?_
            show Fi p e below s Z _ _ _ _ T66 (mkF m 217 #[.val (.int p0), .val (.int p1), .val (.int p2), .val (.int p3), .val (.int p4), .val (.int (4 : Int32)), .val (.ref a1), .val (.ref a56), .val (.int (1 : Int32)), .val (.ref d64), .val (.int (2 : Int32))] [(.int (1 : Int32)), (.ref d64)])
            refine W66.callV me hEL (hw _ (List.mem_of_getElem? (i := 134) rfl)) (hw _ (List.mem_of_getElem? (i := 135) rfl)) (fun hZ' => notFace_of_selects (args := #[]) (mvT (s := s.setVm _) hZ' (hw _ (List.mem_of_getElem? (i := 137) rfl)))) (hw _ (List.mem_of_getElem? (i := 137) rfl)) (hw _ (List.mem_of_getElem? (i := 136) rfl)) (hw _ (List.mem_of_getElem? (i := 11) rfl)) (hw _ (List.mem_of_getElem? (i := 138) rfl)) (a := d64) (argsL := [(.int (1 : Int32))]) (rest := []) M64.exa (c_charat (ss := []) g W66.old (cs := [c2, c3]) (i := 1) M64 (own_le rfl)) at_217 (by decide) (fun _ q => nomatch q) rfl (lenOf pd_22 rfl) (own_le rfl) (own_le rfl) (own_le rfl) (own_le rfl) rfl ?_
            intro T67 h67 v67 W67 z67 q67
            obtain ⟨_, rfl, rfl, rfl⟩ := q67
            show Fi p e below s Z _ _ _ _ T67 (mkF m 220 #[.val (.int p0), .val (.int p1), .val (.int p2), .val (.int p3), .val (.int p4), .val (.int (4 : Int32)), .val (.ref a1), .val (.ref a56), .val (.int (1 : Int32)), .val (.ref d64), .val (.int (2 : Int32))] [(.int c3)])
            refine W67.aload me at_220 rfl rfl ?_
            refine W67.iload me at_222 rfl ?_
            refine W67.iconst me at_224 (v := 2) rfl ?_
            refine W67.iadd me at_225 ?_
            show Fi p e below s Z _ _ _ _ T67 (mkF m 226 #[.val (.int p0), .val (.int p1), .val (.int p2), .val (.int p3), .val (.int p4), .val (.int (4 : Int32)), .val (.ref a1), .val (.ref a56), .val (.int (1 : Int32)), .val (.ref d64), .val (.int (2 : Int32))] [(.int ((1 : Int32) + (2 : Int32))), (.ref a1), (.int c3)])
            show Fi p e below s Z _ _ _ _ T67 (mkF m 226 #[.val (.int p0), .val (.int p1), .val (.int p2), .val (.int p3), .val (.int p4), .val (.int (4 : Int32)), .val (.ref a1), .val (.ref a56), .val (.int (1 : Int32)), .val (.ref d64), .val (.int (2 : Int32))] [(.int (3 : Int32)), (.ref a1), (.int c3)])
            refine W67.caload me A9 at_226 (by decide) (v := .int c3) rfl ?_
            show Fi p e below s Z _ _ _ _ T67 (mkF m 227 #[.val (.int p0), .val (.int p1), .val (.int p2), .val (.int p3), .val (.int p4), .val (.int (4 : Int32)), .val (.ref a1), .val (.ref a56), .val (.int (1 : Int32)), .val (.ref d64), .val (.int (2 : Int32))] [(.int c3), (.int c3)])
            refine W67.icY_eq me at_227 rfl (pc' := 232) (by decide) (by decide) ?_
            show Fi p e below s Z _ _ _ _ T67 (mkF m 232 #[.val (.int p0), .val (.int p1), .val (.int p2), .val (.int p3), .val (.int p4), .val (.int (4 : Int32)), .val (.ref a1), .val (.ref a56), .val (.int (1 : Int32)), .val (.ref d64), .val (.int (2 : Int32))] [])
            refine W67.iload me at_232 rfl ?_
            refine W67.iconst me at_234 (v := 2) rfl ?_
            show Fi p e below s Z _ _ _ _ T67 (mkF m 235 #[.val (.int p0), .val (.int p1), .val (.int p2), .val (.int p3), .val (.int p4), .val (.int (4 : Int32)), .val (.ref a1), .val (.ref a56), .val (.int (1 : Int32)), .val (.ref d64), .val (.int (2 : Int32))] [(.int (2 : Int32)), (.int (2 : Int32))])
            refine W67.icY_le me at_235 (by decide) (pc' := 256) (by decide) (by decide) ?_
            show Fi p e below s Z _ _ _ _ T67 (mkF m 256 #[.val (.int p0), .val (.int p1), .val (.int p2), .val (.int p3), .val (.int p4), .val (.int (4 : Int32)), .val (.ref a1), .val (.ref a56), .val (.int (1 : Int32)), .val (.ref d64), .val (.int (2 : Int32))] [])
            refine W67.iconst me at_256 (v := 1) rfl ?_
            show Fi p e below s Z _ _ _ _ T67 (mkF m 257 #[.val (.int p0), .val (.int p1), .val (.int p2), .val (.int p3), .val (.int p4), .val (.int (4 : Int32)), .val (.ref a1), .val (.ref a56), .val (.int (1 : Int32)), .val (.ref d64), .val (.int (2 : Int32))] [(.int (1 : Int32))])
            exact W67.retN hEL me (Or.inl rfl) at_257 rfl (by decide) (by decide)
          ·
            show Fi p e below s Z _ _ _ _ T56 (mkF m 141 #[.val (.int p0), .val (.int p1), .val (.int p2), .val (.int p3), .val (.int p4), .val (.int (4 : Int32)), .val (.ref a1), .val (.ref a56), .val (.int (1 : Int32)), .unset, .unset] [])
            refine W56.iconst me at_141 (v := 0) rfl ?_
            refine W56.istore me at_142 (l' := #[.val (.int p0), .val (.int p1), .val (.int p2), .val (.int p3), .val (.int p4), .val (.int (4 : Int32)), .val (.ref a1), .val (.ref a56), .val (.int (0 : Int32)), .unset, .unset]) rfl ?_
            refine W56.aload me at_144 rfl rfl ?_
            show Fi p e below s Z _ _ _ _ T56 (mkF m 146 #[.val (.int p0), .val (.int p1), .val (.int p2), .val (.int p3), .val (.int p4), .val (.int (4 : Int32)), .val (.ref a1), .val (.ref a56), .val (.int (0 : Int32)), .unset, .unset] [(.ref a56)])
            show Fi p e below s Z _ _ _ _ T56 (mkF m 146 #[.val (.int p0), .val (.int p1), .val (.int p2), .val (.int p3), .val (.int p4), .val (.int (4 : Int32)), .val (.ref a1), .val (.ref a56), .val (.int (0 : Int32)), .unset, .unset] [(.ref a56)])
            refine W56.callS me hEL (hw _ (List.mem_of_getElem? (i := 30) rfl)) (hw _ (List.mem_of_getElem? (i := 31) rfl)) (hw _ (List.mem_of_getElem? (i := 32) rfl)) (hw _ (List.mem_of_getElem? (i := 33) rfl)) (argsL := [(.ref a56)]) (rest := []) (c_fr1 (ss := []) g W56.old (cs := [c0, c1, c2, c3]) L56 0 3 (own_le rfl) hh0 al0 (by decide) rfl) at_146 (by decide) (fun _ q => nomatch q) rfl (lenOf pd_24 rfl) (own_le rfl) (own_le rfl) (own_le rfl) (own_le rfl) rfl ?_
            intro T68 h68 v68 W68 z68 q68
            obtain ⟨_, rfl, E68, d68, rfl, M68⟩ := q68
            show Fi p e below s Z _ _ _ _ T68 (mkF m 149 #[.val (.int p0), .val (.int p1), .val (.int p2), .val (.int p3), .val (.int p4), .val (.int (4 : Int32)), .val (.ref a1), .val (.ref a56), .val (.int (0 : Int32)), .unset, .unset] [(.ref d68)])
            replace A9 := A9.ext E68
            replace L56 := L56.ext E68
            refine W68.astore me at_149 (l' := #[.val (.int p0), .val (.int p1), .val (.int p2), .val (.int p3), .val (.int p4), .val (.int (4 : Int32)), .val (.ref a1), .val (.ref a56), .val (.int (0 : Int32)), .val (.ref d68), .unset]) rfl rfl ?_
            refine W68.iload me at_151 rfl ?_
            refine W68.iload me at_153 rfl ?_
            show Fi p e below s Z _ _ _ _ T68 (mkF m 155 #[.val (.int p0), .val (.int p1), .val (.int p2), .val (.int p3), .val (.int p4), .val (.int (4 : Int32)), .val (.ref a1), .val (.ref a56), .val (.int (0 : Int32)), .val (.ref d68), .unset] [(.int (4 : Int32)), (.int (0 : Int32))])
            refine W68.icY_ne me at_155 (by decide) (pc' := 164) (by decide) (by decide) ?_
            show Fi p e below s Z _ _ _ _ T68 (mkF m 164 #[.val (.int p0), .val (.int p1), .val (.int p2), .val (.int p3), .val (.int p4), .val (.int (4 : Int32)), .val (.ref a1), .val (.ref a56), .val (.int (0 : Int32)), .val (.ref d68), .unset] [])
            refine W68.iload me at_164 rfl ?_
            refine W68.iload me at_166 rfl ?_
            refine W68.isub me at_168 ?_
            refine W68.iconst me at_169 (v := 1) rfl ?_
            refine W68.isub me at_170 ?_
            show Fi p e below s Z _ _ _ _ T68 (mkF m 171 #[.val (.int p0), .val (.int p1), .val (.int p2), .val (.int p3), .val (.int p4), .val (.int (4 : Int32)), .val (.ref a1), .val (.ref a56), .val (.int (0 : Int32)), .val (.ref d68), .unset] [(.int (((4 : Int32) - (0 : Int32)) - (1 : Int32)))])
            show Fi p e below s Z _ _ _ _ T68 (mkF m 171 #[.val (.int p0), .val (.int p1), .val (.int p2), .val (.int p3), .val (.int p4), .val (.int (4 : Int32)), .val (.ref a1), .val (.ref a56), .val (.int (0 : Int32)), .val (.ref d68), .unset] [(.int (3 : Int32))])
            refine W68.istore me at_171 (l' := #[.val (.int p0), .val (.int p1), .val (.int p2), .val (.int p3), .val (.int p4), .val (.int (4 : Int32)), .val (.ref a1), .val (.ref a56), .val (.int (0 : Int32)), .val (.ref d68), .val (.int (3 : Int32))]) rfl ?_
            refine W68.aload me at_173 rfl rfl ?_
            show Fi p e below s Z _ _ _ _ T68 (mkF m 175 #[.val (.int p0), .val (.int p1), .val (.int p2), .val (.int p3), .val (.int p4), .val (.int (4 : Int32)), .val (.ref a1), .val (.ref a56), .val (.int (0 : Int32)), .val (.ref d68), .val (.int (3 : Int32))] [(.ref d68)])
            refine W68.callV me hEL (hw _ (List.mem_of_getElem? (i := 133) rfl)) (hw _ (List.mem_of_getElem? (i := 51) rfl)) (fun hZ' => notFace_of_selects (args := #[]) (mvT (s := s.setVm _) hZ' (hw _ (List.mem_of_getElem? (i := 53) rfl)))) (hw _ (List.mem_of_getElem? (i := 53) rfl)) (hw _ (List.mem_of_getElem? (i := 52) rfl)) (hw _ (List.mem_of_getElem? (i := 11) rfl)) (hw _ (List.mem_of_getElem? (i := 54) rfl)) (a := d68) (argsL := []) (rest := []) M68.exa (c_length (ss := []) g W68.old (cs := [c1, c2, c3]) M68) at_175 (by decide) (fun _ q => nomatch q) rfl (lenOf pd_12 rfl) (own_le rfl) (own_le rfl) (own_le rfl) (own_le rfl) rfl ?_
            intro T69 h69 v69 W69 z69 q69
            obtain ⟨_, rfl, rfl, rfl⟩ := q69
            show Fi p e below s Z _ _ _ _ T69 (mkF m 178 #[.val (.int p0), .val (.int p1), .val (.int p2), .val (.int p3), .val (.int p4), .val (.int (4 : Int32)), .val (.ref a1), .val (.ref a56), .val (.int (0 : Int32)), .val (.ref d68), .val (.int (3 : Int32))] [(.int (3 : Int32))])
            refine W69.iload me at_178 rfl ?_
            show Fi p e below s Z _ _ _ _ T69 (mkF m 180 #[.val (.int p0), .val (.int p1), .val (.int p2), .val (.int p3), .val (.int p4), .val (.int (4 : Int32)), .val (.ref a1), .val (.ref a56), .val (.int (0 : Int32)), .val (.ref d68), .val (.int (3 : Int32))] [(.int (3 : Int32)), (.int (3 : Int32))])
            refine W69.icY_eq me at_180 (by decide) (pc' := 185) (by decide) (by decide) ?_
            show Fi p e below s Z _ _ _ _ T69 (mkF m 185 #[.val (.int p0), .val (.int p1), .val (.int p2), .val (.int p3), .val (.int p4), .val (.int (4 : Int32)), .val (.ref a1), .val (.ref a56), .val (.int (0 : Int32)), .val (.ref d68), .val (.int (3 : Int32))] [])
            refine W69.iload me at_185 rfl ?_
            show Fi p e below s Z _ _ _ _ T69 (mkF m 187 #[.val (.int p0), .val (.int p1), .val (.int p2), .val (.int p3), .val (.int p4), .val (.int (4 : Int32)), .val (.ref a1), .val (.ref a56), .val (.int (0 : Int32)), .val (.ref d68), .val (.int (3 : Int32))] [(.int (3 : Int32))])
            refine W69.ifN_le me at_187 (by decide) ?_
            show Fi p e below s Z _ _ _ _ T69 (mkF m 190 #[.val (.int p0), .val (.int p1), .val (.int p2), .val (.int p3), .val (.int p4), .val (.int (4 : Int32)), .val (.ref a1), .val (.ref a56), .val (.int (0 : Int32)), .val (.ref d68), .val (.int (3 : Int32))] [])
            refine W69.aload me at_190 rfl rfl ?_
            refine W69.iconst me at_192 (v := 0) rfl ?_
            show Fi p e below s Z _ _ _ _ T69 (mkF m 193 #[.val (.int p0), .val (.int p1), .val (.int p2), .val (.int p3), .val (.int p4), .val (.int (4 : Int32)), .val (.ref a1), .val (.ref a56), .val (.int (0 : Int32)), .val (.ref d68), .val (.int (3 : Int32))] [(.int (0 : Int32)), (.ref d68)])
            refine W69.callV me hEL (hw _ (List.mem_of_getElem? (i := 134) rfl)) (hw _ (List.mem_of_getElem? (i := 135) rfl)) (fun hZ' => notFace_of_selects (args := #[]) (mvT (s := s.setVm _) hZ' (hw _ (List.mem_of_getElem? (i := 137) rfl)))) (hw _ (List.mem_of_getElem? (i := 137) rfl)) (hw _ (List.mem_of_getElem? (i := 136) rfl)) (hw _ (List.mem_of_getElem? (i := 11) rfl)) (hw _ (List.mem_of_getElem? (i := 138) rfl)) (a := d68) (argsL := [(.int (0 : Int32))]) (rest := []) M68.exa (c_charat (ss := []) g W69.old (cs := [c1, c2, c3]) (i := 0) M68 (own_le rfl)) at_193 (by decide) (fun _ q => nomatch q) rfl (lenOf pd_22 rfl) (own_le rfl) (own_le rfl) (own_le rfl) (own_le rfl) rfl ?_
            intro T70 h70 v70 W70 z70 q70
            obtain ⟨_, rfl, rfl, rfl⟩ := q70
            show Fi p e below s Z _ _ _ _ T70 (mkF m 196 #[.val (.int p0), .val (.int p1), .val (.int p2), .val (.int p3), .val (.int p4), .val (.int (4 : Int32)), .val (.ref a1), .val (.ref a56), .val (.int (0 : Int32)), .val (.ref d68), .val (.int (3 : Int32))] [(.int c1)])
            refine W70.aload me at_196 rfl rfl ?_
            refine W70.iload me at_198 rfl ?_
            refine W70.iconst me at_200 (v := 1) rfl ?_
            refine W70.iadd me at_201 ?_
            show Fi p e below s Z _ _ _ _ T70 (mkF m 202 #[.val (.int p0), .val (.int p1), .val (.int p2), .val (.int p3), .val (.int p4), .val (.int (4 : Int32)), .val (.ref a1), .val (.ref a56), .val (.int (0 : Int32)), .val (.ref d68), .val (.int (3 : Int32))] [(.int ((0 : Int32) + (1 : Int32))), (.ref a1), (.int c1)])
            show Fi p e below s Z _ _ _ _ T70 (mkF m 202 #[.val (.int p0), .val (.int p1), .val (.int p2), .val (.int p3), .val (.int p4), .val (.int (4 : Int32)), .val (.ref a1), .val (.ref a56), .val (.int (0 : Int32)), .val (.ref d68), .val (.int (3 : Int32))] [(.int (1 : Int32)), (.ref a1), (.int c1)])
            refine W70.caload me A9 at_202 (by decide) (v := .int c1) rfl ?_
            show Fi p e below s Z _ _ _ _ T70 (mkF m 203 #[.val (.int p0), .val (.int p1), .val (.int p2), .val (.int p3), .val (.int p4), .val (.int (4 : Int32)), .val (.ref a1), .val (.ref a56), .val (.int (0 : Int32)), .val (.ref d68), .val (.int (3 : Int32))] [(.int c1), (.int c1)])
            refine W70.icY_eq me at_203 rfl (pc' := 208) (by decide) (by decide) ?_
            show Fi p e below s Z _ _ _ _ T70 (mkF m 208 #[.val (.int p0), .val (.int p1), .val (.int p2), .val (.int p3), .val (.int p4), .val (.int (4 : Int32)), .val (.ref a1), .val (.ref a56), .val (.int (0 : Int32)), .val (.ref d68), .val (.int (3 : Int32))] [])
            refine W70.iload me at_208 rfl ?_
            refine W70.iconst me at_210 (v := 1) rfl ?_
            show Fi p e below s Z _ _ _ _ T70 (mkF m 211 #[.val (.int p0), .val (.int p1), .val (.int p2), .val (.int p3), .val (.int p4), .val (.int (4 : Int32)), .val (.ref a1), .val (.ref a56), .val (.int (0 : Int32)), .val (.ref d68), .val (.int (3 : Int32))] [(.int (1 : Int32)), (.int (3 : Int32))])
            refine W70.icN_le me at_211 (by decide) ?_
            show Fi p e below s Z _ _ _ _ T70 (mkF m 214 #[.val (.int p0), .val (.int p1), .val (.int p2), .val (.int p3), .val (.int p4), .val (.int (4 : Int32)), .val (.ref a1), .val (.ref a56), .val (.int (0 : Int32)), .val (.ref d68), .val (.int (3 : Int32))] [])
            refine W70.aload me at_214 rfl rfl ?_
            refine W70.iconst me at_216 (v := 1) rfl ?_
            show Fi p e below s Z _ _ _ _ T70 (mkF m 217 #[.val (.int p0), .val (.int p1), .val (.int p2), .val (.int p3), .val (.int p4), .val (.int (4 : Int32)), .val (.ref a1), .val (.ref a56), .val (.int (0 : Int32)), .val (.ref d68), .val (.int (3 : Int32))] [(.int (1 : Int32)), (.ref d68)])
            refine W70.callV me hEL (hw _ (List.mem_of_getElem? (i := 134) rfl)) (hw _ (List.mem_of_getElem? (i := 135) rfl)) (fun hZ' => notFace_of_selects (args := #[]) (mvT (s := s.setVm _) hZ' (hw _ (List.mem_of_getElem? (i := 137) rfl)))) (hw _ (List.mem_of_getElem? (i := 137) rfl)) (hw _ (List.mem_of_getElem? (i := 136) rfl)) (hw _ (List.mem_of_getElem? (i := 11) rfl)) (hw _ (List.mem_of_getElem? (i := 138) rfl)) (a := d68) (argsL := [(.int (1 : Int32))]) (rest := []) M68.exa (c_charat (ss := []) g W70.old (cs := [c1, c2, c3]) (i := 1) M68 (own_le rfl)) at_217 (by decide) (fun _ q => nomatch q) rfl (lenOf pd_22 rfl) (own_le rfl) (own_le rfl) (own_le rfl) (own_le rfl) rfl ?_
            intro T71 h71 v71 W71 z71 q71
            obtain ⟨_, rfl, rfl, rfl⟩ := q71
            show Fi p e below s Z _ _ _ _ T71 (mkF m 220 #[.val (.int p0), .val (.int p1), .val (.int p2), .val (.int p3), .val (.int p4), .val (.int (4 : Int32)), .val (.ref a1), .val (.ref a56), .val (.int (0 : Int32)), .val (.ref d68), .val (.int (3 : Int32))] [(.int c2)])
            refine W71.aload me at_220 rfl rfl ?_
            refine W71.iload me at_222 rfl ?_
            refine W71.iconst me at_224 (v := 2) rfl ?_
            refine W71.iadd me at_225 ?_
            show Fi p e below s Z _ _ _ _ T71 (mkF m 226 #[.val (.int p0), .val (.int p1), .val (.int p2), .val (.int p3), .val (.int p4), .val (.int (4 : Int32)), .val (.ref a1), .val (.ref a56), .val (.int (0 : Int32)), .val (.ref d68), .val (.int (3 : Int32))] [(.int ((0 : Int32) + (2 : Int32))), (.ref a1), (.int c2)])
            show Fi p e below s Z _ _ _ _ T71 (mkF m 226 #[.val (.int p0), .val (.int p1), .val (.int p2), .val (.int p3), .val (.int p4), .val (.int (4 : Int32)), .val (.ref a1), .val (.ref a56), .val (.int (0 : Int32)), .val (.ref d68), .val (.int (3 : Int32))] [(.int (2 : Int32)), (.ref a1), (.int c2)])
            refine W71.caload me A9 at_226 (by decide) (v := .int c2) rfl ?_
            show Fi p e below s Z _ _ _ _ T71 (mkF m 227 #[.val (.int p0), .val (.int p1), .val (.int p2), .val (.int p3), .val (.int p4), .val (.int (4 : Int32)), .val (.ref a1), .val (.ref a56), .val (.int (0 : Int32)), .val (.ref d68), .val (.int (3 : Int32))] [(.int c2), (.int c2)])
            refine W71.icY_eq me at_227 rfl (pc' := 232) (by decide) (by decide) ?_
            show Fi p e below s Z _ _ _ _ T71 (mkF m 232 #[.val (.int p0), .val (.int p1), .val (.int p2), .val (.int p3), .val (.int p4), .val (.int (4 : Int32)), .val (.ref a1), .val (.ref a56), .val (.int (0 : Int32)), .val (.ref d68), .val (.int (3 : Int32))] [])
            refine W71.iload me at_232 rfl ?_
            refine W71.iconst me at_234 (v := 2) rfl ?_
            show Fi p e below s Z _ _ _ _ T71 (mkF m 235 #[.val (.int p0), .val (.int p1), .val (.int p2), .val (.int p3), .val (.int p4), .val (.int (4 : Int32)), .val (.ref a1), .val (.ref a56), .val (.int (0 : Int32)), .val (.ref d68), .val (.int (3 : Int32))] [(.int (2 : Int32)), (.int (3 : Int32))])
            refine W71.icN_le me at_235 (by decide) ?_
            show Fi p e below s Z _ _ _ _ T71 (mkF m 238 #[.val (.int p0), .val (.int p1), .val (.int p2), .val (.int p3), .val (.int p4), .val (.int (4 : Int32)), .val (.ref a1), .val (.ref a56), .val (.int (0 : Int32)), .val (.ref d68), .val (.int (3 : Int32))] [])
            refine W71.aload me at_238 rfl rfl ?_
            refine W71.iconst me at_240 (v := 2) rfl ?_
            show Fi p e below s Z _ _ _ _ T71 (mkF m 241 #[.val (.int p0), .val (.int p1), .val (.int p2), .val (.int p3), .val (.int p4), .val (.int (4 : Int32)), .val (.ref a1), .val (.ref a56), .val (.int (0 : Int32)), .val (.ref d68), .val (.int (3 : Int32))] [(.int (2 : Int32)), (.ref d68)])
            refine W71.callV me hEL (hw _ (List.mem_of_getElem? (i := 134) rfl)) (hw _ (List.mem_of_getElem? (i := 135) rfl)) (fun hZ' => notFace_of_selects (args := #[]) (mvT (s := s.setVm _) hZ' (hw _ (List.mem_of_getElem? (i := 137) rfl)))) (hw _ (List.mem_of_getElem? (i := 137) rfl)) (hw _ (List.mem_of_getElem? (i := 136) rfl)) (hw _ (List.mem_of_getElem? (i := 11) rfl)) (hw _ (List.mem_of_getElem? (i := 138) rfl)) (a := d68) (argsL := [(.int (2 : Int32))]) (rest := []) M68.exa (c_charat (ss := []) g W71.old (cs := [c1, c2, c3]) (i := 2) M68 (own_le rfl)) at_241 (by decide) (fun _ q => nomatch q) rfl (lenOf pd_22 rfl) (own_le rfl) (own_le rfl) (own_le rfl) (own_le rfl) rfl ?_
            intro T72 h72 v72 W72 z72 q72
            obtain ⟨_, rfl, rfl, rfl⟩ := q72
            show Fi p e below s Z _ _ _ _ T72 (mkF m 244 #[.val (.int p0), .val (.int p1), .val (.int p2), .val (.int p3), .val (.int p4), .val (.int (4 : Int32)), .val (.ref a1), .val (.ref a56), .val (.int (0 : Int32)), .val (.ref d68), .val (.int (3 : Int32))] [(.int c3)])
            refine W72.aload me at_244 rfl rfl ?_
            refine W72.iload me at_246 rfl ?_
            refine W72.iconst me at_248 (v := 3) rfl ?_
            refine W72.iadd me at_249 ?_
            show Fi p e below s Z _ _ _ _ T72 (mkF m 250 #[.val (.int p0), .val (.int p1), .val (.int p2), .val (.int p3), .val (.int p4), .val (.int (4 : Int32)), .val (.ref a1), .val (.ref a56), .val (.int (0 : Int32)), .val (.ref d68), .val (.int (3 : Int32))] [(.int ((0 : Int32) + (3 : Int32))), (.ref a1), (.int c3)])
            show Fi p e below s Z _ _ _ _ T72 (mkF m 250 #[.val (.int p0), .val (.int p1), .val (.int p2), .val (.int p3), .val (.int p4), .val (.int (4 : Int32)), .val (.ref a1), .val (.ref a56), .val (.int (0 : Int32)), .val (.ref d68), .val (.int (3 : Int32))] [(.int (3 : Int32)), (.ref a1), (.int c3)])
            refine W72.caload me A9 at_250 (by decide) (v := .int c3) rfl ?_
            show Fi p e below s Z _ _ _ _ T72 (mkF m 251 #[.val (.int p0), .val (.int p1), .val (.int p2), .val (.int p3), .val (.int p4), .val (.int (4 : Int32)), .val (.ref a1), .val (.ref a56), .val (.int (0 : Int32)), .val (.ref d68), .val (.int (3 : Int32))] [(.int c3), (.int c3)])
            refine W72.icY_eq me at_251 rfl (pc' := 256) (by decide) (by decide) ?_
            show Fi p e below s Z _ _ _ _ T72 (mkF m 256 #[.val (.int p0), .val (.int p1), .val (.int p2), .val (.int p3), .val (.int p4), .val (.int (4 : Int32)), .val (.ref a1), .val (.ref a56), .val (.int (0 : Int32)), .val (.ref d68), .val (.int (3 : Int32))] [])
            refine W72.iconst me at_256 (v := 1) rfl ?_
            show Fi p e below s Z _ _ _ _ T72 (mkF m 257 #[.val (.int p0), .val (.int p1), .val (.int p2), .val (.int p3), .val (.int p4), .val (.int (4 : Int32)), .val (.ref a1), .val (.ref a56), .val (.int (0 : Int32)), .val (.ref d68), .val (.int (3 : Int32))] [(.int (1 : Int32))])
            exact W72.retN hEL me (Or.inl rfl) at_257 rfl (by decide) (by decide)
      ·
        show Fi p e below s Z _ _ _ _ T56 (mkF m 106 #[.val (.int p0), .val (.int p1), .val (.int p2), .val (.int p3), .val (.int p4), .val (.int (4 : Int32)), .val (.ref a1), .val (.ref a56), .val (.int (4 : Int32)), .unset, .unset] [])
        refine W56.iconst me at_106 (v := 2) rfl ?_
        refine W56.istore me at_107 (l' := #[.val (.int p0), .val (.int p1), .val (.int p2), .val (.int p3), .val (.int p4), .val (.int (4 : Int32)), .val (.ref a1), .val (.ref a56), .val (.int (2 : Int32)), .unset, .unset]) rfl ?_
        refine W56.iload me at_109 rfl ?_
        refine W56.iconst me at_111 (v := 1) rfl ?_
        show Fi p e below s Z _ _ _ _ T56 (mkF m 112 #[.val (.int p0), .val (.int p1), .val (.int p2), .val (.int p3), .val (.int p4), .val (.int (4 : Int32)), .val (.ref a1), .val (.ref a56), .val (.int (2 : Int32)), .unset, .unset] [(.int (1 : Int32)), (.int (4 : Int32))])
        refine W56.icN_le me at_112 (by decide) ?_
        show Fi p e below s Z _ _ _ _ T56 (mkF m 115 #[.val (.int p0), .val (.int p1), .val (.int p2), .val (.int p3), .val (.int p4), .val (.int (4 : Int32)), .val (.ref a1), .val (.ref a56), .val (.int (2 : Int32)), .unset, .unset] [])
        refine W56.aload me at_115 rfl rfl ?_
        refine W56.iconst me at_117 (v := 1) rfl ?_
        show Fi p e below s Z _ _ _ _ T56 (mkF m 118 #[.val (.int p0), .val (.int p1), .val (.int p2), .val (.int p3), .val (.int p4), .val (.int (4 : Int32)), .val (.ref a1), .val (.ref a56), .val (.int (2 : Int32)), .unset, .unset] [(.int (1 : Int32)), (.ref a1)])
        refine W56.caload me A9 at_118 (by decide) (v := .int c1) rfl ?_
        show Fi p e below s Z _ _ _ _ T56 (mkF m 119 #[.val (.int p0), .val (.int p1), .val (.int p2), .val (.int p3), .val (.int p4), .val (.int (4 : Int32)), .val (.ref a1), .val (.ref a56), .val (.int (2 : Int32)), .unset, .unset] [(.int c1)])
        refine W56.bipush me at_119 (v := 35) rfl ?_
        show Fi p e below s Z _ _ _ _ T56 (mkF m 121 #[.val (.int p0), .val (.int p1), .val (.int p2), .val (.int p3), .val (.int p4), .val (.int (4 : Int32)), .val (.ref a1), .val (.ref a56), .val (.int (2 : Int32)), .unset, .unset] [(.int (35 : Int32)), (.int c1)])
        refine W56.ic_ne me at_121 (pc' := 127) (by decide) (by decide) (fun hh1 => ?_) (fun hh1 => ?_)
        ·
          show Fi p e below s Z _ _ _ _ T56 (mkF m 127 #[.val (.int p0), .val (.int p1), .val (.int p2), .val (.int p3), .val (.int p4), .val (.int (4 : Int32)), .val (.ref a1), .val (.ref a56), .val (.int (2 : Int32)), .unset, .unset] [])
          refine W56.iload me at_127 rfl ?_
          show Fi p e below s Z _ _ _ _ T56 (mkF m 129 #[.val (.int p0), .val (.int p1), .val (.int p2), .val (.int p3), .val (.int p4), .val (.int (4 : Int32)), .val (.ref a1), .val (.ref a56), .val (.int (2 : Int32)), .unset, .unset] [(.int (4 : Int32))])
          refine W56.ifN_le me at_129 (by decide) ?_
          show Fi p e below s Z _ _ _ _ T56 (mkF m 132 #[.val (.int p0), .val (.int p1), .val (.int p2), .val (.int p3), .val (.int p4), .val (.int (4 : Int32)), .val (.ref a1), .val (.ref a56), .val (.int (2 : Int32)), .unset, .unset] [])
          refine W56.aload me at_132 rfl rfl ?_
          refine W56.iconst me at_134 (v := 0) rfl ?_
          show Fi p e below s Z _ _ _ _ T56 (mkF m 135 #[.val (.int p0), .val (.int p1), .val (.int p2), .val (.int p3), .val (.int p4), .val (.int (4 : Int32)), .val (.ref a1), .val (.ref a56), .val (.int (2 : Int32)), .unset, .unset] [(.int (0 : Int32)), (.ref a1)])
          refine W56.caload me A9 at_135 (by decide) (v := .int c0) rfl ?_
          show Fi p e below s Z _ _ _ _ T56 (mkF m 136 #[.val (.int p0), .val (.int p1), .val (.int p2), .val (.int p3), .val (.int p4), .val (.int (4 : Int32)), .val (.ref a1), .val (.ref a56), .val (.int (2 : Int32)), .unset, .unset] [(.int c0)])
          refine W56.bipush me at_136 (v := 35) rfl ?_
          show Fi p e below s Z _ _ _ _ T56 (mkF m 138 #[.val (.int p0), .val (.int p1), .val (.int p2), .val (.int p3), .val (.int p4), .val (.int (4 : Int32)), .val (.ref a1), .val (.ref a56), .val (.int (2 : Int32)), .unset, .unset] [(.int (35 : Int32)), (.int c0)])
          refine W56.ic_ne me at_138 (pc' := 144) (by decide) (by decide) (fun hh0 => ?_) (fun hh0 => ?_)
          ·
            show Fi p e below s Z _ _ _ _ T56 (mkF m 144 #[.val (.int p0), .val (.int p1), .val (.int p2), .val (.int p3), .val (.int p4), .val (.int (4 : Int32)), .val (.ref a1), .val (.ref a56), .val (.int (2 : Int32)), .unset, .unset] [])
            refine W56.aload me at_144 rfl rfl ?_
            show Fi p e below s Z _ _ _ _ T56 (mkF m 146 #[.val (.int p0), .val (.int p1), .val (.int p2), .val (.int p3), .val (.int p4), .val (.int (4 : Int32)), .val (.ref a1), .val (.ref a56), .val (.int (2 : Int32)), .unset, .unset] [(.ref a56)])
            show Fi p e below s Z _ _ _ _ T56 (mkF m 146 #[.val (.int p0), .val (.int p1), .val (.int p2), .val (.int p3), .val (.int p4), .val (.int (4 : Int32)), .val (.ref a1), .val (.ref a56), .val (.int (2 : Int32)), .unset, .unset] [(.ref a56)])
            refine W56.callS me hEL (hw _ (List.mem_of_getElem? (i := 30) rfl)) (hw _ (List.mem_of_getElem? (i := 31) rfl)) (hw _ (List.mem_of_getElem? (i := 32) rfl)) (hw _ (List.mem_of_getElem? (i := 33) rfl)) (argsL := [(.ref a56)]) (rest := []) (c_fr1 (ss := []) g W56.old (cs := [c0, c1, c2, c3]) L56 2 1 (own_le rfl) hh2 (alS (alS al0 hh0) hh1) (by decide) rfl) at_146 (by decide) (fun _ q => nomatch q) rfl (lenOf pd_24 rfl) (own_le rfl) (own_le rfl) (own_le rfl) (own_le rfl) rfl ?_
            intro T73 h73 v73 W73 z73 q73
            obtain ⟨_, rfl, E73, d73, rfl, M73⟩ := q73
            show Fi p e below s Z _ _ _ _ T73 (mkF m 149 #[.val (.int p0), .val (.int p1), .val (.int p2), .val (.int p3), .val (.int p4), .val (.int (4 : Int32)), .val (.ref a1), .val (.ref a56), .val (.int (2 : Int32)), .unset, .unset] [(.ref d73)])
            replace A9 := A9.ext E73
            replace L56 := L56.ext E73
            refine W73.astore me at_149 (l' := #[.val (.int p0), .val (.int p1), .val (.int p2), .val (.int p3), .val (.int p4), .val (.int (4 : Int32)), .val (.ref a1), .val (.ref a56), .val (.int (2 : Int32)), .val (.ref d73), .unset]) rfl rfl ?_
            refine W73.iload me at_151 rfl ?_
            refine W73.iload me at_153 rfl ?_
            show Fi p e below s Z _ _ _ _ T73 (mkF m 155 #[.val (.int p0), .val (.int p1), .val (.int p2), .val (.int p3), .val (.int p4), .val (.int (4 : Int32)), .val (.ref a1), .val (.ref a56), .val (.int (2 : Int32)), .val (.ref d73), .unset] [(.int (4 : Int32)), (.int (2 : Int32))])
            refine W73.icY_ne me at_155 (by decide) (pc' := 164) (by decide) (by decide) ?_
            show Fi p e below s Z _ _ _ _ T73 (mkF m 164 #[.val (.int p0), .val (.int p1), .val (.int p2), .val (.int p3), .val (.int p4), .val (.int (4 : Int32)), .val (.ref a1), .val (.ref a56), .val (.int (2 : Int32)), .val (.ref d73), .unset] [])
            refine W73.iload me at_164 rfl ?_
            refine W73.iload me at_166 rfl ?_
            refine W73.isub me at_168 ?_
            refine W73.iconst me at_169 (v := 1) rfl ?_
            refine W73.isub me at_170 ?_
            show Fi p e below s Z _ _ _ _ T73 (mkF m 171 #[.val (.int p0), .val (.int p1), .val (.int p2), .val (.int p3), .val (.int p4), .val (.int (4 : Int32)), .val (.ref a1), .val (.ref a56), .val (.int (2 : Int32)), .val (.ref d73), .unset] [(.int (((4 : Int32) - (2 : Int32)) - (1 : Int32)))])
            show Fi p e below s Z _ _ _ _ T73 (mkF m 171 #[.val (.int p0), .val (.int p1), .val (.int p2), .val (.int p3), .val (.int p4), .val (.int (4 : Int32)), .val (.ref a1), .val (.ref a56), .val (.int (2 : Int32)), .val (.ref d73), .unset] [(.int (1 : Int32))])
            refine W73.istore me at_171 (l' := #[.val (.int p0), .val (.int p1), .val (.int p2), .val (.int p3), .val (.int p4), .val (.int (4 : Int32)), .val (.ref a1), .val (.ref a56), .val (.int (2 : Int32)), .val (.ref d73), .val (.int (1 : Int32))]) rfl ?_
            refine W73.aload me at_173 rfl rfl ?_
            show Fi p e below s Z _ _ _ _ T73 (mkF m 175 #[.val (.int p0), .val (.int p1), .val (.int p2), .val (.int p3), .val (.int p4), .val (.int (4 : Int32)), .val (.ref a1), .val (.ref a56), .val (.int (2 : Int32)), .val (.ref d73), .val (.int (1 : Int32))] [(.ref d73)])
            refine W73.callV me hEL (hw _ (List.mem_of_getElem? (i := 133) rfl)) (hw _ (List.mem_of_getElem? (i := 51) rfl)) (fun hZ' => notFace_of_selects (args := #[]) (mvT (s := s.setVm _) hZ' (hw _ (List.mem_of_getElem? (i := 53) rfl)))) (hw _ (List.mem_of_getElem? (i := 53) rfl)) (hw _ (List.mem_of_getElem? (i := 52) rfl)) (hw _ (List.mem_of_getElem? (i := 11) rfl)) (hw _ (List.mem_of_getElem? (i := 54) rfl)) (a := d73) (argsL := []) (rest := []) M73.exa (c_length (ss := []) g W73.old (cs := [c3]) M73) at_175 (by decide) (fun _ q => nomatch q) rfl (lenOf pd_12 rfl) (own_le rfl) (own_le rfl) (own_le rfl) (own_le rfl) rfl ?_
            intro T74 h74 v74 W74 z74 q74
            obtain ⟨_, rfl, rfl, rfl⟩ := q74
            show Fi p e below s Z _ _ _ _ T74 (mkF m 178 #[.val (.int p0), .val (.int p1), .val (.int p2), .val (.int p3), .val (.int p4), .val (.int (4 : Int32)), .val (.ref a1), .val (.ref a56), .val (.int (2 : Int32)), .val (.ref d73), .val (.int (1 : Int32))] [(.int (1 : Int32))])
            refine W74.iload me at_178 rfl ?_
            show Fi p e below s Z _ _ _ _ T74 (mkF m 180 #[.val (.int p0), .val (.int p1), .val (.int p2), .val (.int p3), .val (.int p4), .val (.int (4 : Int32)), .val (.ref a1), .val (.ref a56), .val (.int (2 : Int32)), .val (.ref d73), .val (.int (1 : Int32))] [(.int (1 : Int32)), (.int (1 : Int32))])
            refine W74.icY_eq me at_180 (by decide) (pc' := 185) (by decide) (by decide) ?_
            show Fi p e below s Z _ _ _ _ T74 (mkF m 185 #[.val (.int p0), .val (.int p1), .val (.int p2), .val (.int p3), .val (.int p4), .val (.int (4 : Int32)), .val (.ref a1), .val (.ref a56), .val (.int (2 : Int32)), .val (.ref d73), .val (.int (1 : Int32))] [])
            refine W74.iload me at_185 rfl ?_
            show Fi p e below s Z _ _ _ _ T74 (mkF m 187 #[.val (.int p0), .val (.int p1), .val (.int p2), .val (.int p3), .val (.int p4), .val (.int (4 : Int32)), .val (.ref a1), .val (.ref a56), .val (.int (2 : Int32)), .val (.ref d73), .val (.int (1 : Int32))] [(.int (1 : Int32))])
            refine W74.ifN_le me at_187 (by decide) ?_
            show Fi p e below s Z _ _ _ _ T74 (mkF m 190 #[.val (.int p0), .val (.int p1), .val (.int p2), .val (.int p3), .val (.int p4), .val (.int (4 : Int32)), .val (.ref a1), .val (.ref a56), .val (.int (2 : Int32)), .val (.ref d73), .val (.int (1 : Int32))] [])
            refine W74.aload me at_190 rfl rfl ?_
            refine W74.iconst me at_192 (v := 0) rfl ?_
            show Fi p e below s Z _ _ _ _ T74 (mkF m 193 #[.val (.int p0), .val (.int p1), .val (.int p2), .val (.int p3), .val (.int p4), .val (.int (4 : Int32)), .val (.ref a1), .val (.ref a56), .val (.int (2 : Int32)), .val (.ref d73), .val (.int (1 : Int32))] [(.int (0 : Int32)), (.ref d73)])
            refine W74.callV me hEL (hw _ (List.mem_of_getElem? (i := 134) rfl)) (hw _ (List.mem_of_getElem? (i := 135) rfl)) (fun hZ' => notFace_of_selects (args := #[]) (mvT (s := s.setVm _) hZ' (hw _ (List.mem_of_getElem? (i := 137) rfl)))) (hw _ (List.mem_of_getElem? (i := 137) rfl)) (hw _ (List.mem_of_getElem? (i := 136) rfl)) (hw _ (List.mem_of_getElem? (i := 11) rfl)) (hw _ (List.mem_of_getElem? (i := 138) rfl)) (a := d73) (argsL := [(.int (0 : Int32))]) (rest := []) M73.exa (c_charat (ss := []) g W74.old (cs := [c3]) (i := 0) M73 (own_le rfl)) at_193 (by decide) (fun _ q => nomatch q) rfl (lenOf pd_22 rfl) (own_le rfl) (own_le rfl) (own_le rfl) (own_le rfl) rfl ?_
            intro T75 h75 v75 W75 z75 q75
            obtain ⟨_, rfl, rfl, rfl⟩ := q75
            show Fi p e below s Z _ _ _ _ T75 (mkF m 196 #[.val (.int p0), .val (.int p1), .val (.int p2), .val (.int p3), .val (.int p4), .val (.int (4 : Int32)), .val (.ref a1), .val (.ref a56), .val (.int (2 : Int32)), .val (.ref d73), .val (.int (1 : Int32))] [(.int c3)])
            refine W75.aload me at_196 rfl rfl ?_
            refine W75.iload me at_198 rfl ?_
            refine W75.iconst me at_200 (v := 1) rfl ?_
            refine W75.iadd me at_201 ?_
            show Fi p e below s Z _ _ _ _ T75 (mkF m 202 #[.val (.int p0), .val (.int p1), .val (.int p2), .val (.int p3), .val (.int p4), .val (.int (4 : Int32)), .val (.ref a1), .val (.ref a56), .val (.int (2 : Int32)), .val (.ref d73), .val (.int (1 : Int32))] [(.int ((2 : Int32) + (1 : Int32))), (.ref a1), (.int c3)])
            show Fi p e below s Z _ _ _ _ T75 (mkF m 202 #[.val (.int p0), .val (.int p1), .val (.int p2), .val (.int p3), .val (.int p4), .val (.int (4 : Int32)), .val (.ref a1), .val (.ref a56), .val (.int (2 : Int32)), .val (.ref d73), .val (.int (1 : Int32))] [(.int (3 : Int32)), (.ref a1), (.int c3)])
            refine W75.caload me A9 at_202 (by decide) (v := .int c3) rfl ?_
            show Fi p e below s Z _ _ _ _ T75 (mkF m 203 #[.val (.int p0), .val (.int p1), .val (.int p2), .val (.int p3), .val (.int p4), .val (.int (4 : Int32)), .val (.ref a1), .val (.ref a56), .val (.int (2 : Int32)), .val (.ref d73), .val (.int (1 : Int32))] [(.int c3), (.int c3)])
            refine W75.icY_eq me at_203 rfl (pc' := 208) (by decide) (by decide) ?_
            show Fi p e below s Z _ _ _ _ T75 (mkF m 208 #[.val (.int p0), .val (.int p1), .val (.int p2), .val (.int p3), .val (.int p4), .val (.int (4 : Int32)), .val (.ref a1), .val (.ref a56), .val (.int (2 : Int32)), .val (.ref d73), .val (.int (1 : Int32))] [])
            refine W75.iload me at_208 rfl ?_
            refine W75.iconst me at_210 (v := 1) rfl ?_
            show Fi p e below s Z _ _ _ _ T75 (mkF m 211 #[.val (.int p0), .val (.int p1), .val (.int p2), .val (.int p3), .val (.int p4), .val (.int (4 : Int32)), .val (.ref a1), .val (.ref a56), .val (.int (2 : Int32)), .val (.ref d73), .val (.int (1 : Int32))] [(.int (1 : Int32)), (.int (1 : Int32))])
            refine W75.icY_le me at_211 (by decide) (pc' := 232) (by decide) (by decide) ?_
            show Fi p e below s Z _ _ _ _ T75 (mkF m 232 #[.val (.int p0), .val (.int p1), .val (.int p2), .val (.int p3), .val (.int p4), .val (.int (4 : Int32)), .val (.ref a1), .val (.ref a56), .val (.int (2 : Int32)), .val (.ref d73), .val (.int (1 : Int32))] [])
            refine W75.iload me at_232 rfl ?_
            refine W75.iconst me at_234 (v := 2) rfl ?_
            show Fi p e below s Z _ _ _ _ T75 (mkF m 235 #[.val (.int p0), .val (.int p1), .val (.int p2), .val (.int p3), .val (.int p4), .val (.int (4 : Int32)), .val (.ref a1), .val (.ref a56), .val (.int (2 : Int32)), .val (.ref d73), .val (.int (1 : Int32))] [(.int (2 : Int32)), (.int (1 : Int32))])
            refine W75.icY_le me at_235 (by decide) (pc' := 256) (by decide) (by decide) ?_
            show Fi p e below s Z _ _ _ _ T75 (mkF m 256 #[.val (.int p0), .val (.int p1), .val (.int p2), .val (.int p3), .val (.int p4), .val (.int (4 : Int32)), .val (.ref a1), .val (.ref a56), .val (.int (2 : Int32)), .val (.ref d73), .val (.int (1 : Int32))] [])
            refine W75.iconst me at_256 (v := 1) rfl ?_
            show Fi p e below s Z _ _ _ _ T75 (mkF m 257 #[.val (.int p0), .val (.int p1), .val (.int p2), .val (.int p3), .val (.int p4), .val (.int (4 : Int32)), .val (.ref a1), .val (.ref a56), .val (.int (2 : Int32)), .val (.ref d73), .val (.int (1 : Int32))] [(.int (1 : Int32))])
            exact W75.retN hEL me (Or.inl rfl) at_257 rfl (by decide) (by decide)
          ·
            show Fi p e below s Z _ _ _ _ T56 (mkF m 141 #[.val (.int p0), .val (.int p1), .val (.int p2), .val (.int p3), .val (.int p4), .val (.int (4 : Int32)), .val (.ref a1), .val (.ref a56), .val (.int (2 : Int32)), .unset, .unset] [])
            refine W56.iconst me at_141 (v := 0) rfl ?_
            refine W56.istore me at_142 (l' := #[.val (.int p0), .val (.int p1), .val (.int p2), .val (.int p3), .val (.int p4), .val (.int (4 : Int32)), .val (.ref a1), .val (.ref a56), .val (.int (0 : Int32)), .unset, .unset]) rfl ?_
            refine W56.aload me at_144 rfl rfl ?_
            show Fi p e below s Z _ _ _ _ T56 (mkF m 146 #[.val (.int p0), .val (.int p1), .val (.int p2), .val (.int p3), .val (.int p4), .val (.int (4 : Int32)), .val (.ref a1), .val (.ref a56), .val (.int (0 : Int32)), .unset, .unset] [(.ref a56)])
            show Fi p e below s Z _ _ _ _ T56 (mkF m 146 #[.val (.int p0), .val (.int p1), .val (.int p2), .val (.int p3), .val (.int p4), .val (.int (4 : Int32)), .val (.ref a1), .val (.ref a56), .val (.int (0 : Int32)), .unset, .unset] [(.ref a56)])
            refine W56.callS me hEL (hw _ (List.mem_of_getElem? (i := 30) rfl)) (hw _ (List.mem_of_getElem? (i := 31) rfl)) (hw _ (List.mem_of_getElem? (i := 32) rfl)) (hw _ (List.mem_of_getElem? (i := 33) rfl)) (argsL := [(.ref a56)]) (rest := []) (c_fr1 (ss := []) g W56.old (cs := [c0, c1, c2, c3]) L56 0 3 (own_le rfl) hh0 al0 (by decide) rfl) at_146 (by decide) (fun _ q => nomatch q) rfl (lenOf pd_24 rfl) (own_le rfl) (own_le rfl) (own_le rfl) (own_le rfl) rfl ?_
            intro T76 h76 v76 W76 z76 q76
            obtain ⟨_, rfl, E76, d76, rfl, M76⟩ := q76
            show Fi p e below s Z _ _ _ _ T76 (mkF m 149 #[.val (.int p0), .val (.int p1), .val (.int p2), .val (.int p3), .val (.int p4), .val (.int (4 : Int32)), .val (.ref a1), .val (.ref a56), .val (.int (0 : Int32)), .unset, .unset] [(.ref d76)])
            replace A9 := A9.ext E76
            replace L56 := L56.ext E76
            refine W76.astore me at_149 (l' := #[.val (.int p0), .val (.int p1), .val (.int p2), .val (.int p3), .val (.int p4), .val (.int (4 : Int32)), .val (.ref a1), .val (.ref a56), .val (.int (0 : Int32)), .val (.ref d76), .unset]) rfl rfl ?_
            refine W76.iload me at_151 rfl ?_
            refine W76.iload me at_153 rfl ?_
            show Fi p e below s Z _ _ _ _ T76 (mkF m 155 #[.val (.int p0), .val (.int p1), .val (.int p2), .val (.int p3), .val (.int p4), .val (.int (4 : Int32)), .val (.ref a1), .val (.ref a56), .val (.int (0 : Int32)), .val (.ref d76), .unset] [(.int (4 : Int32)), (.int (0 : Int32))])
            refine W76.icY_ne me at_155 (by decide) (pc' := 164) (by decide) (by decide) ?_
            show Fi p e below s Z _ _ _ _ T76 (mkF m 164 #[.val (.int p0), .val (.int p1), .val (.int p2), .val (.int p3), .val (.int p4), .val (.int (4 : Int32)), .val (.ref a1), .val (.ref a56), .val (.int (0 : Int32)), .val (.ref d76), .unset] [])
            refine W76.iload me at_164 rfl ?_
            refine W76.iload me at_166 rfl ?_
            refine W76.isub me at_168 ?_
            refine W76.iconst me at_169 (v := 1) rfl ?_
            refine W76.isub me at_170 ?_
            show Fi p e below s Z _ _ _ _ T76 (mkF m 171 #[.val (.int p0), .val (.int p1), .val (.int p2), .val (.int p3), .val (.int p4), .val (.int (4 : Int32)), .val (.ref a1), .val (.ref a56), .val (.int (0 : Int32)), .val (.ref d76), .unset] [(.int (((4 : Int32) - (0 : Int32)) - (1 : Int32)))])
            show Fi p e below s Z _ _ _ _ T76 (mkF m 171 #[.val (.int p0), .val (.int p1), .val (.int p2), .val (.int p3), .val (.int p4), .val (.int (4 : Int32)), .val (.ref a1), .val (.ref a56), .val (.int (0 : Int32)), .val (.ref d76), .unset] [(.int (3 : Int32))])
            refine W76.istore me at_171 (l' := #[.val (.int p0), .val (.int p1), .val (.int p2), .val (.int p3), .val (.int p4), .val (.int (4 : Int32)), .val (.ref a1), .val (.ref a56), .val (.int (0 : Int32)), .val (.ref d76), .val (.int (3 : Int32))]) rfl ?_
            refine W76.aload me at_173 rfl rfl ?_
            show Fi p e below s Z _ _ _ _ T76 (mkF m 175 #[.val (.int p0), .val (.int p1), .val (.int p2), .val (.int p3), .val (.int p4), .val (.int (4 : Int32)), .val (.ref a1), .val (.ref a56), .val (.int (0 : Int32)), .val (.ref d76), .val (.int (3 : Int32))] [(.ref d76)])
            refine W76.callV me hEL (hw _ (List.mem_of_getElem? (i := 133) rfl)) (hw _ (List.mem_of_getElem? (i := 51) rfl)) (fun hZ' => notFace_of_selects (args := #[]) (mvT (s := s.setVm _) hZ' (hw _ (List.mem_of_getElem? (i := 53) rfl)))) (hw _ (List.mem_of_getElem? (i := 53) rfl)) (hw _ (List.mem_of_getElem? (i := 52) rfl)) (hw _ (List.mem_of_getElem? (i := 11) rfl)) (hw _ (List.mem_of_getElem? (i := 54) rfl)) (a := d76) (argsL := []) (rest := []) M76.exa (c_length (ss := []) g W76.old (cs := [c1, c2, c3]) M76) at_175 (by decide) (fun _ q => nomatch q) rfl (lenOf pd_12 rfl) (own_le rfl) (own_le rfl) (own_le rfl) (own_le rfl) rfl ?_
            intro T77 h77 v77 W77 z77 q77
            obtain ⟨_, rfl, rfl, rfl⟩ := q77
            show Fi p e below s Z _ _ _ _ T77 (mkF m 178 #[.val (.int p0), .val (.int p1), .val (.int p2), .val (.int p3), .val (.int p4), .val (.int (4 : Int32)), .val (.ref a1), .val (.ref a56), .val (.int (0 : Int32)), .val (.ref d76), .val (.int (3 : Int32))] [(.int (3 : Int32))])
            refine W77.iload me at_178 rfl ?_
            show Fi p e below s Z _ _ _ _ T77 (mkF m 180 #[.val (.int p0), .val (.int p1), .val (.int p2), .val (.int p3), .val (.int p4), .val (.int (4 : Int32)), .val (.ref a1), .val (.ref a56), .val (.int (0 : Int32)), .val (.ref d76), .val (.int (3 : Int32))] [(.int (3 : Int32)), (.int (3 : Int32))])
            refine W77.icY_eq me at_180 (by decide) (pc' := 185) (by decide) (by decide) ?_
            show Fi p e below s Z _ _ _ _ T77 (mkF m 185 #[.val (.int p0), .val (.int p1), .val (.int p2), .val (.int p3), .val (.int p4), .val (.int (4 : Int32)), .val (.ref a1), .val (.ref a56), .val (.int (0 : Int32)), .val (.ref d76), .val (.int (3 : Int32))] [])
            refine W77.iload me at_185 rfl ?_
            show Fi p e below s Z _ _ _ _ T77 (mkF m 187 #[.val (.int p0), .val (.int p1), .val (.int p2), .val (.int p3), .val (.int p4), .val (.int (4 : Int32)), .val (.ref a1), .val (.ref a56), .val (.int (0 : Int32)), .val (.ref d76), .val (.int (3 : Int32))] [(.int (3 : Int32))])
            refine W77.ifN_le me at_187 (by decide) ?_
            show Fi p e below s Z _ _ _ _ T77 (mkF m 190 #[.val (.int p0), .val (.int p1), .val (.int p2), .val (.int p3), .val (.int p4), .val (.int (4 : Int32)), .val (.ref a1), .val (.ref a56), .val (.int (0 : Int32)), .val (.ref d76), .val (.int (3 : Int32))] [])
            refine W77.aload me at_190 rfl rfl ?_
            refine W77.iconst me at_192 (v := 0) rfl ?_
            show Fi p e below s Z _ _ _ _ T77 (mkF m 193 #[.val (.int p0), .val (.int p1), .val (.int p2), .val (.int p3), .val (.int p4), .val (.int (4 : Int32)), .val (.ref a1), .val (.ref a56), .val (.int (0 : Int32)), .val (.ref d76), .val (.int (3 : Int32))] [(.int (0 : Int32)), (.ref d76)])
            refine W77.callV me hEL (hw _ (List.mem_of_getElem? (i := 134) rfl)) (hw _ (List.mem_of_getElem? (i := 135) rfl)) (fun hZ' => notFace_of_selects (args := #[]) (mvT (s := s.setVm _) hZ' (hw _ (List.mem_of_getElem? (i := 137) rfl)))) (hw _ (List.mem_of_getElem? (i := 137) rfl)) (hw _ (List.mem_of_getElem? (i := 136) rfl)) (hw _ (List.mem_of_getElem? (i := 11) rfl)) (hw _ (List.mem_of_getElem? (i := 138) rfl)) (a := d76) (argsL := [(.int (0 : Int32))]) (rest := []) M76.exa (c_charat (ss := []) g W77.old (cs := [c1, c2, c3]) (i := 0) M76 (own_le rfl)) at_193 (by decide) (fun _ q => nomatch q) rfl (lenOf pd_22 rfl) (own_le rfl) (own_le rfl) (own_le rfl) (own_le rfl) rfl ?_
            intro T78 h78 v78 W78 z78 q78
            obtain ⟨_, rfl, rfl, rfl⟩ := q78
            show Fi p e below s Z _ _ _ _ T78 (mkF m 196 #[.val (.int p0), .val (.int p1), .val (.int p2), .val (.int p3), .val (.int p4), .val (.int (4 : Int32)), .val (.ref a1), .val (.ref a56), .val (.int (0 : Int32)), .val (.ref d76), .val (.int (3 : Int32))] [(.int c1)])
            refine W78.aload me at_196 rfl rfl ?_
            refine W78.iload me at_198 rfl ?_
            refine W78.iconst me at_200 (v := 1) rfl ?_
            refine W78.iadd me at_201 ?_
            show Fi p e below s Z _ _ _ _ T78 (mkF m 202 #[.val (.int p0), .val (.int p1), .val (.int p2), .val (.int p3), .val (.int p4), .val (.int (4 : Int32)), .val (.ref a1), .val (.ref a56), .val (.int (0 : Int32)), .val (.ref d76), .val (.int (3 : Int32))] [(.int ((0 : Int32) + (1 : Int32))), (.ref a1), (.int c1)])
            show Fi p e below s Z _ _ _ _ T78 (mkF m 202 #[.val (.int p0), .val (.int p1), .val (.int p2), .val (.int p3), .val (.int p4), .val (.int (4 : Int32)), .val (.ref a1), .val (.ref a56), .val (.int (0 : Int32)), .val (.ref d76), .val (.int (3 : Int32))] [(.int (1 : Int32)), (.ref a1), (.int c1)])
            refine W78.caload me A9 at_202 (by decide) (v := .int c1) rfl ?_
            show Fi p e below s Z _ _ _ _ T78 (mkF m 203 #[.val (.int p0), .val (.int p1), .val (.int p2), .val (.int p3), .val (.int p4), .val (.int (4 : Int32)), .val (.ref a1), .val (.ref a56), .val (.int (0 : Int32)), .val (.ref d76), .val (.int (3 : Int32))] [(.int c1), (.int c1)])
            refine W78.icY_eq me at_203 rfl (pc' := 208) (by decide) (by decide) ?_
            show Fi p e below s Z _ _ _ _ T78 (mkF m 208 #[.val (.int p0), .val (.int p1), .val (.int p2), .val (.int p3), .val (.int p4), .val (.int (4 : Int32)), .val (.ref a1), .val (.ref a56), .val (.int (0 : Int32)), .val (.ref d76), .val (.int (3 : Int32))] [])
            refine W78.iload me at_208 rfl ?_
            refine W78.iconst me at_210 (v := 1) rfl ?_
            show Fi p e below s Z _ _ _ _ T78 (mkF m 211 #[.val (.int p0), .val (.int p1), .val (.int p2), .val (.int p3), .val (.int p4), .val (.int (4 : Int32)), .val (.ref a1), .val (.ref a56), .val (.int (0 : Int32)), .val (.ref d76), .val (.int (3 : Int32))] [(.int (1 : Int32)), (.int (3 : Int32))])
            refine W78.icN_le me at_211 (by decide) ?_
            show Fi p e below s Z _ _ _ _ T78 (mkF m 214 #[.val (.int p0), .val (.int p1), .val (.int p2), .val (.int p3), .val (.int p4), .val (.int (4 : Int32)), .val (.ref a1), .val (.ref a56), .val (.int (0 : Int32)), .val (.ref d76), .val (.int (3 : Int32))] [])
            refine W78.aload me at_214 rfl rfl ?_
            refine W78.iconst me at_216 (v := 1) rfl ?_
            show Fi p e below s Z _ _ _ _ T78 (mkF m 217 #[.val (.int p0), .val (.int p1), .val (.int p2), .val (.int p3), .val (.int p4), .val (.int (4 : Int32)), .val (.ref a1), .val (.ref a56), .val (.int (0 : Int32)), .val (.ref d76), .val (.int (3 : Int32))] [(.int (1 : Int32)), (.ref d76)])
            refine W78.callV me hEL (hw _ (List.mem_of_getElem? (i := 134) rfl)) (hw _ (List.mem_of_getElem? (i := 135) rfl)) (fun hZ' => notFace_of_selects (args := #[]) (mvT (s := s.setVm _) hZ' (hw _ (List.mem_of_getElem? (i := 137) rfl)))) (hw _ (List.mem_of_getElem? (i := 137) rfl)) (hw _ (List.mem_of_getElem? (i := 136) rfl)) (hw _ (List.mem_of_getElem? (i := 11) rfl)) (hw _ (List.mem_of_getElem? (i := 138) rfl)) (a := d76) (argsL := [(.int (1 : Int32))]) (rest := []) M76.exa (c_charat (ss := []) g W78.old (cs := [c1, c2, c3]) (i := 1) M76 (own_le rfl)) at_217 (by decide) (fun _ q => nomatch q) rfl (lenOf pd_22 rfl) (own_le rfl) (own_le rfl) (own_le rfl) (own_le rfl) rfl ?_
            intro T79 h79 v79 W79 z79 q79
            obtain ⟨_, rfl, rfl, rfl⟩ := q79
            show Fi p e below s Z _ _ _ _ T79 (mkF m 220 #[.val (.int p0), .val (.int p1), .val (.int p2), .val (.int p3), .val (.int p4), .val (.int (4 : Int32)), .val (.ref a1), .val (.ref a56), .val (.int (0 : Int32)), .val (.ref d76), .val (.int (3 : Int32))] [(.int c2)])
            refine W79.aload me at_220 rfl rfl ?_
            refine W79.iload me at_222 rfl ?_
            refine W79.iconst me at_224 (v := 2) rfl ?_
            refine W79.iadd me at_225 ?_
            show Fi p e below s Z _ _ _ _ T79 (mkF m 226 #[.val (.int p0), .val (.int p1), .val (.int p2), .val (.int p3), .val (.int p4), .val (.int (4 : Int32)), .val (.ref a1), .val (.ref a56), .val (.int (0 : Int32)), .val (.ref d76), .val (.int (3 : Int32))] [(.int ((0 : Int32) + (2 : Int32))), (.ref a1), (.int c2)])
            show Fi p e below s Z _ _ _ _ T79 (mkF m 226 #[.val (.int p0), .val (.int p1), .val (.int p2), .val (.int p3), .val (.int p4), .val (.int (4 : Int32)), .val (.ref a1), .val (.ref a56), .val (.int (0 : Int32)), .val (.ref d76), .val (.int (3 : Int32))] [(.int (2 : Int32)), (.ref a1), (.int c2)])
            refine W79.caload me A9 at_226 (by decide) (v := .int c2) rfl ?_
            show Fi p e below s Z _ _ _ _ T79 (mkF m 227 #[.val (.int p0), .val (.int p1), .val (.int p2), .val (.int p3), .val (.int p4), .val (.int (4 : Int32)), .val (.ref a1), .val (.ref a56), .val (.int (0 : Int32)), .val (.ref d76), .val (.int (3 : Int32))] [(.int c2), (.int c2)])
            refine W79.icY_eq me at_227 rfl (pc' := 232) (by decide) (by decide) ?_
            show Fi p e below s Z _ _ _ _ T79 (mkF m 232 #[.val (.int p0), .val (.int p1), .val (.int p2), .val (.int p3), .val (.int p4), .val (.int (4 : Int32)), .val (.ref a1), .val (.ref a56), .val (.int (0 : Int32)), .val (.ref d76), .val (.int (3 : Int32))] [])
            refine W79.iload me at_232 rfl ?_
            refine W79.iconst me at_234 (v := 2) rfl ?_
            show Fi p e below s Z _ _ _ _ T79 (mkF m 235 #[.val (.int p0), .val (.int p1), .val (.int p2), .val (.int p3), .val (.int p4), .val (.int (4 : Int32)), .val (.ref a1), .val (.ref a56), .val (.int (0 : Int32)), .val (.ref d76), .val (.int (3 : Int32))] [(.int (2 : Int32)), (.int (3 : Int32))])
            refine W79.icN_le me at_235 (by decide) ?_
            show Fi p e below s Z _ _ _ _ T79 (mkF m 238 #[.val (.int p0), .val (.int p1), .val (.int p2), .val (.int p3), .val (.int p4), .val (.int (4 : Int32)), .val (.ref a1), .val (.ref a56), .val (.int (0 : Int32)), .val (.ref d76), .val (.int (3 : Int32))] [])
            refine W79.aload me at_238 rfl rfl ?_
            refine W79.iconst me at_240 (v := 2) rfl ?_
            show Fi p e below s Z _ _ _ _ T79 (mkF m 241 #[.val (.int p0), .val (.int p1), .val (.int p2), .val (.int p3), .val (.int p4), .val (.int (4 : Int32)), .val (.ref a1), .val (.ref a56), .val (.int (0 : Int32)), .val (.ref d76), .val (.int (3 : Int32))] [(.int (2 : Int32)), (.ref d76)])
            refine W79.callV me hEL (hw _ (List.mem_of_getElem? (i := 134) rfl)) (hw _ (List.mem_of_getElem? (i := 135) rfl)) (fun hZ' => notFace_of_selects (args := #[]) (mvT (s := s.setVm _) hZ' (hw _ (List.mem_of_getElem? (i := 137) rfl)))) (hw _ (List.mem_of_getElem? (i := 137) rfl)) (hw _ (List.mem_of_getElem? (i := 136) rfl)) (hw _ (List.mem_of_getElem? (i := 11) rfl)) (hw _ (List.mem_of_getElem? (i := 138) rfl)) (a := d76) (argsL := [(.int (2 : Int32))]) (rest := []) M76.exa (c_charat (ss := []) g W79.old (cs := [c1, c2, c3]) (i := 2) M76 (own_le rfl)) at_241 (by decide) (fun _ q => nomatch q) rfl (lenOf pd_22 rfl) (own_le rfl) (own_le rfl) (own_le rfl) (own_le rfl) rfl ?_
            intro T80 h80 v80 W80 z80 q80
            obtain ⟨_, rfl, rfl, rfl⟩ := q80
            show Fi p e below s Z _ _ _ _ T80 (mkF m 244 #[.val (.int p0), .val (.int p1), .val (.int p2), .val (.int p3), .val (.int p4), .val (.int (4 : Int32)), .val (.ref a1), .val (.ref a56), .val (.int (0 : Int32)), .val (.ref d76), .val (.int (3 : Int32))] [(.int c3)])
            refine W80.aload me at_244 rfl rfl ?_
            refine W80.iload me at_246 rfl ?_
            refine W80.iconst me at_248 (v := 3) rfl ?_
            refine W80.iadd me at_249 ?_
            show Fi p e below s Z _ _ _ _ T80 (mkF m 250 #[.val (.int p0), .val (.int p1), .val (.int p2), .val (.int p3), .val (.int p4), .val (.int (4 : Int32)), .val (.ref a1), .val (.ref a56), .val (.int (0 : Int32)), .val (.ref d76), .val (.int (3 : Int32))] [(.int ((0 : Int32) + (3 : Int32))), (.ref a1), (.int c3)])
            show Fi p e below s Z _ _ _ _ T80 (mkF m 250 #[.val (.int p0), .val (.int p1), .val (.int p2), .val (.int p3), .val (.int p4), .val (.int (4 : Int32)), .val (.ref a1), .val (.ref a56), .val (.int (0 : Int32)), .val (.ref d76), .val (.int (3 : Int32))] [(.int (3 : Int32)), (.ref a1), (.int c3)])
            refine W80.caload me A9 at_250 (by decide) (v := .int c3) rfl ?_
            show Fi p e below s Z _ _ _ _ T80 (mkF m 251 #[.val (.int p0), .val (.int p1), .val (.int p2), .val (.int p3), .val (.int p4), .val (.int (4 : Int32)), .val (.ref a1), .val (.ref a56), .val (.int (0 : Int32)), .val (.ref d76), .val (.int (3 : Int32))] [(.int c3), (.int c3)])
            refine W80.icY_eq me at_251 rfl (pc' := 256) (by decide) (by decide) ?_
            show Fi p e below s Z _ _ _ _ T80 (mkF m 256 #[.val (.int p0), .val (.int p1), .val (.int p2), .val (.int p3), .val (.int p4), .val (.int (4 : Int32)), .val (.ref a1), .val (.ref a56), .val (.int (0 : Int32)), .val (.ref d76), .val (.int (3 : Int32))] [])
            refine W80.iconst me at_256 (v := 1) rfl ?_
            show Fi p e below s Z _ _ _ _ T80 (mkF m 257 #[.val (.int p0), .val (.int p1), .val (.int p2), .val (.int p3), .val (.int p4), .val (.int (4 : Int32)), .val (.ref a1), .val (.ref a56), .val (.int (0 : Int32)), .val (.ref d76), .val (.int (3 : Int32))] [(.int (1 : Int32))])
            exact W80.retN hEL me (Or.inl rfl) at_257 rfl (by decide) (by decide)
        ·
          show Fi p e below s Z _ _ _ _ T56 (mkF m 124 #[.val (.int p0), .val (.int p1), .val (.int p2), .val (.int p3), .val (.int p4), .val (.int (4 : Int32)), .val (.ref a1), .val (.ref a56), .val (.int (2 : Int32)), .unset, .unset] [])
          refine W56.iconst me at_124 (v := 1) rfl ?_
          refine W56.istore me at_125 (l' := #[.val (.int p0), .val (.int p1), .val (.int p2), .val (.int p3), .val (.int p4), .val (.int (4 : Int32)), .val (.ref a1), .val (.ref a56), .val (.int (1 : Int32)), .unset, .unset]) rfl ?_
          refine W56.iload me at_127 rfl ?_
          show Fi p e below s Z _ _ _ _ T56 (mkF m 129 #[.val (.int p0), .val (.int p1), .val (.int p2), .val (.int p3), .val (.int p4), .val (.int (4 : Int32)), .val (.ref a1), .val (.ref a56), .val (.int (1 : Int32)), .unset, .unset] [(.int (4 : Int32))])
          refine W56.ifN_le me at_129 (by decide) ?_
          show Fi p e below s Z _ _ _ _ T56 (mkF m 132 #[.val (.int p0), .val (.int p1), .val (.int p2), .val (.int p3), .val (.int p4), .val (.int (4 : Int32)), .val (.ref a1), .val (.ref a56), .val (.int (1 : Int32)), .unset, .unset] [])
          refine W56.aload me at_132 rfl rfl ?_
          refine W56.iconst me at_134 (v := 0) rfl ?_
          show Fi p e below s Z _ _ _ _ T56 (mkF m 135 #[.val (.int p0), .val (.int p1), .val (.int p2), .val (.int p3), .val (.int p4), .val (.int (4 : Int32)), .val (.ref a1), .val (.ref a56), .val (.int (1 : Int32)), .unset, .unset] [(.int (0 : Int32)), (.ref a1)])
          refine W56.caload me A9 at_135 (by decide) (v := .int c0) rfl ?_
          show Fi p e below s Z _ _ _ _ T56 (mkF m 136 #[.val (.int p0), .val (.int p1), .val (.int p2), .val (.int p3), .val (.int p4), .val (.int (4 : Int32)), .val (.ref a1), .val (.ref a56), .val (.int (1 : Int32)), .unset, .unset] [(.int c0)])
          refine W56.bipush me at_136 (v := 35) rfl ?_
          show Fi p e below s Z _ _ _ _ T56 (mkF m 138 #[.val (.int p0), .val (.int p1), .val (.int p2), .val (.int p3), .val (.int p4), .val (.int (4 : Int32)), .val (.ref a1), .val (.ref a56), .val (.int (1 : Int32)), .unset, .unset] [(.int (35 : Int32)), (.int c0)])
          refine W56.ic_ne me at_138 (pc' := 144) (by decide) (by decide) (fun hh0 => ?_) (fun hh0 => ?_)
          ·
            show Fi p e below s Z _ _ _ _ T56 (mkF m 144 #[.val (.int p0), .val (.int p1), .val (.int p2), .val (.int p3), .val (.int p4), .val (.int (4 : Int32)), .val (.ref a1), .val (.ref a56), .val (.int (1 : Int32)), .unset, .unset] [])
            refine W56.aload me at_144 rfl rfl ?_
            show Fi p e below s Z _ _ _ _ T56 (mkF m 146 #[.val (.int p0), .val (.int p1), .val (.int p2), .val (.int p3), .val (.int p4), .val (.int (4 : Int32)), .val (.ref a1), .val (.ref a56), .val (.int (1 : Int32)), .unset, .unset] [(.ref a56)])
            show Fi p e below s Z _ _ _ _ T56 (mkF m 146 #[.val (.int p0), .val (.int p1), .val (.int p2), .val (.int p3), .val (.int p4), .val (.int (4 : Int32)), .val (.ref a1), .val (.ref a56), .val (.int (1 : Int32)), .unset, .unset] [(.ref a56)])
            refine W56.callS me hEL (hw _ (List.mem_of_getElem? (i := 30) rfl)) (hw _ (List.mem_of_getElem? (i := 31) rfl)) (hw _ (List.mem_of_getElem? (i := 32) rfl)) (hw _ (List.mem_of_getElem? (i := 33) rfl)) (argsL := [(.ref a56)]) (rest := []) (c_fr1 (ss := []) g W56.old (cs := [c0, c1, c2, c3]) L56 1 2 (own_le rfl) hh1 (alS al0 hh0) (by decide) rfl) at_146 (by decide) (fun _ q => nomatch q) rfl (lenOf pd_24 rfl) (own_le rfl) (own_le rfl) (own_le rfl) (own_le rfl) rfl ?_
            intro T81 h81 v81 W81 z81 q81
            obtain ⟨_, rfl, E81, d81, rfl, M81⟩ := q81
            show Fi p e below s Z _ _ _ _ T81 (mkF m 149 #[.val (.int p0), .val (.int p1), .val (.int p2), .val (.int p3), .val (.int p4), .val (.int (4 : Int32)), .val (.ref a1), .val (.ref a56), .val (.int (1 : Int32)), .unset, .unset] [(.ref d81)])
            replace A9 := A9.ext E81
            replace L56 := L56.ext E81
            refine W81.astore me at_149 (l' := #[.val (.int p0), .val (.int p1), .val (.int p2), .val (.int p3), .val (.int p4), .val (.int (4 : Int32)), .val (.ref a1), .val (.ref a56), .val (.int (1 : Int32)), .val (.ref d81), .unset]) rfl rfl ?_
            refine W81.iload me at_151 rfl ?_
            refine W81.iload me at_153 rfl ?_
            show Fi p e below s Z _ _ _ _ T81 (mkF m 155 #[.val (.int p0), .val (.int p1), .val (.int p2), .val (.int p3), .val (.int p4), .val (.int (4 : Int32)), .val (.ref a1), .val (.ref a56), .val (.int (1 : Int32)), .val (.ref d81), .unset] [(.int (4 : Int32)), (.int (1 : Int32))])
            refine W81.icY_ne me at_155 (by decide) (pc' := 164) (by decide) (by decide) ?_
            show Fi p e below s Z _ _ _ _ T81 (mkF m 164 #[.val (.int p0), .val (.int p1), .val (.int p2), .val (.int p3), .val (.int p4), .val (.int (4 : Int32)), .val (.ref a1), .val (.ref a56), .val (.int (1 : Int32)), .val (.ref d81), .unset] [])
            refine W81.iload me at_164 rfl ?_
            refine W81.iload me at_166 rfl ?_
            refine W81.isub me at_168 ?_
            refine W81.iconst me at_169 (v := 1) rfl ?_
            refine W81.isub me at_170 ?_
            show Fi p e below s Z _ _ _ _ T81 (mkF m 171 #[.val (.int p0), .val (.int p1), .val (.int p2), .val (.int p3), .val (.int p4), .val (.int (4 : Int32)), .val (.ref a1), .val (.ref a56), .val (.int (1 : Int32)), .val (.ref d81), .unset] [(.int (((4 : Int32) - (1 : Int32)) - (1 : Int32)))])
            show Fi p e below s Z _ _ _ _ T81 (mkF m 171 #[.val (.int p0), .val (.int p1), .val (.int p2), .val (.int p3), .val (.int p4), .val (.int (4 : Int32)), .val (.ref a1), .val (.ref a56), .val (.int (1 : Int32)), .val (.ref d81), .unset] [(.int (2 : Int32))])
            refine W81.istore me at_171 (l' := #[.val (.int p0), .val (.int p1), .val (.int p2), .val (.int p3), .val (.int p4), .val (.int (4 : Int32)), .val (.ref a1), .val (.ref a56), .val (.int (1 : Int32)), .val (.ref d81), .val (.int (2 : Int32))]) rfl ?_
            refine W81.aload me at_173 rfl rfl ?_
            show Fi p e below s Z _ _ _ _ T81 (mkF m 175 #[.val (.int p0), .val (.int p1), .val (.int p2), .val (.int p3), .val (.int p4), .val (.int (4 : Int32)), .val (.ref a1), .val (.ref a56), .val (.int (1 : Int32)), .val (.ref d81), .val (.int (2 : Int32))] [(.ref d81)])
            refine W81.callV me hEL (hw _ (List.mem_of_getElem? (i := 133) rfl)) (hw _ (List.mem_of_getElem? (i := 51) rfl)) (fun hZ' => notFace_of_selects (args := #[]) (mvT (s := s.setVm _) hZ' (hw _ (List.mem_of_getElem? (i := 53) rfl)))) (hw _ (List.mem_of_getElem? (i := 53) rfl)) (hw _ (List.mem_of_getElem? (i := 52) rfl)) (hw _ (List.mem_of_getElem? (i := 11) rfl)) (hw _ (List.mem_of_getElem? (i := 54) rfl)) (a := d81) (argsL := []) (rest := []) M81.exa (c_length (ss := []) g W81.old (cs := [c2, c3]) M81) at_175 (by decide) (fun _ q => nomatch q) rfl (lenOf pd_12 rfl) (own_le rfl) (own_le rfl) (own_le rfl) (own_le rfl) rfl ?_
            intro T82 h82 v82 W82 z82 q82
            obtain ⟨_, rfl, rfl, rfl⟩ := q82
            show Fi p e below s Z _ _ _ _ T82 (mkF m 178 #[.val (.int p0), .val (.int p1), .val (.int p2), .val (.int p3), .val (.int p4), .val (.int (4 : Int32)), .val (.ref a1), .val (.ref a56), .val (.int (1 : Int32)), .val (.ref d81), .val (.int (2 : Int32))] [(.int (2 : Int32))])
            refine W82.iload me at_178 rfl ?_
            show Fi p e below s Z _ _ _ _ T82 (mkF m 180 #[.val (.int p0), .val (.int p1), .val (.int p2), .val (.int p3), .val (.int p4), .val (.int (4 : Int32)), .val (.ref a1), .val (.ref a56), .val (.int (1 : Int32)), .val (.ref d81), .val (.int (2 : Int32))] [(.int (2 : Int32)), (.int (2 : Int32))])
            refine W82.icY_eq me at_180 (by decide) (pc' := 185) (by decide) (by decide) ?_
            show Fi p e below s Z _ _ _ _ T82 (mkF m 185 #[.val (.int p0), .val (.int p1), .val (.int p2), .val (.int p3), .val (.int p4), .val (.int (4 : Int32)), .val (.ref a1), .val (.ref a56), .val (.int (1 : Int32)), .val (.ref d81), .val (.int (2 : Int32))] [])
            refine W82.iload me at_185 rfl ?_
            show Fi p e below s Z _ _ _ _ T82 (mkF m 187 #[.val (.int p0), .val (.int p1), .val (.int p2), .val (.int p3), .val (.int p4), .val (.int (4 : Int32)), .val (.ref a1), .val (.ref a56), .val (.int (1 : Int32)), .val (.ref d81), .val (.int (2 : Int32))] [(.int (2 : Int32))])
            refine W82.ifN_le me at_187 (by decide) ?_
            show Fi p e below s Z _ _ _ _ T82 (mkF m 190 #[.val (.int p0), .val (.int p1), .val (.int p2), .val (.int p3), .val (.int p4), .val (.int (4 : Int32)), .val (.ref a1), .val (.ref a56), .val (.int (1 : Int32)), .val (.ref d81), .val (.int (2 : Int32))] [])
            refine W82.aload me at_190 rfl rfl ?_
            refine W82.iconst me at_192 (v := 0) rfl ?_
            show Fi p e below s Z _ _ _ _ T82 (mkF m 193 #[.val (.int p0), .val (.int p1), .val (.int p2), .val (.int p3), .val (.int p4), .val (.int (4 : Int32)), .val (.ref a1), .val (.ref a56), .val (.int (1 : Int32)), .val (.ref d81), .val (.int (2 : Int32))] [(.int (0 : Int32)), (.ref d81)])
            refine W82.callV me hEL (hw _ (List.mem_of_getElem? (i := 134) rfl)) (hw _ (List.mem_of_getElem? (i := 135) rfl)) (fun hZ' => notFace_of_selects (args := #[]) (mvT (s := s.setVm _) hZ' (hw _ (List.mem_of_getElem? (i := 137) rfl)))) (hw _ (List.mem_of_getElem? (i := 137) rfl)) (hw _ (List.mem_of_getElem? (i := 136) rfl)) (hw _ (List.mem_of_getElem? (i := 11) rfl)) (hw _ (List.mem_of_getElem? (i := 138) rfl)) (a := d81) (argsL := [(.int (0 : Int32))]) (rest := []) M81.exa (c_charat (ss := []) g W82.old (cs := [c2, c3]) (i := 0) M81 (own_le rfl)) at_193 (by decide) (fun _ q => nomatch q) rfl (lenOf pd_22 rfl) (own_le rfl) (own_le rfl) (own_le rfl) (own_le rfl) rfl ?_
            intro T83 h83 v83 W83 z83 q83
            obtain ⟨_, rfl, rfl, rfl⟩ := q83
            show Fi p e below s Z _ _ _ _ T83 (mkF m 196 #[.val (.int p0), .val (.int p1), .val (.int p2), .val (.int p3), .val (.int p4), .val (.int (4 : Int32)), .val (.ref a1), .val (.ref a56), .val (.int (1 : Int32)), .val (.ref d81), .val (.int (2 : Int32))] [(.int c2)])
            refine W83.aload me at_196 rfl rfl ?_
            refine W83.iload me at_198 rfl ?_
            refine W83.iconst me at_200 (v := 1) rfl ?_
            refine W83.iadd me at_201 ?_
            show Fi p e below s Z _ _ _ _ T83 (mkF m 202 #[.val (.int p0), .val (.int p1), .val (.int p2), .val (.int p3), .val (.int p4), .val (.int (4 : Int32)), .val (.ref a1), .val (.ref a56), .val (.int (1 : Int32)), .val (.ref d81), .val (.int (2 : Int32))] [(.int ((1 : Int32) + (1 : Int32))), (.ref a1), (.int c2)])
            show Fi p e below s Z _ _ _ _ T83 (mkF m 202 #[.val (.int p0), .val (.int p1), .val (.int p2), .val (.int p3), .val (.int p4), .val (.int (4 : Int32)), .val (.ref a1), .val (.ref a56), .val (.int (1 : Int32)), .val (.ref d81), .val (.int (2 : Int32))] [(.int (2 : Int32)), (.ref a1), (.int c2)])
            refine W83.caload me A9 at_202 (by decide) (v := .int c2) rfl ?_
            show Fi p e below s Z _ _ _ _ T83 (mkF m 203 #[.val (.int p0), .val (.int p1), .val (.int p2), .val (.int p3), .val (.int p4), .val (.int (4 : Int32)), .val (.ref a1), .val (.ref a56), .val (.int (1 : Int32)), .val (.ref d81), .val (.int (2 : Int32))] [(.int c2), (.int c2)])
            refine W83.icY_eq me at_203 rfl (pc' := 208) (by decide) (by decide) ?_
            show Fi p e below s Z _ _ _ _ T83 (mkF m 208 #[.val (.int p0), .val (.int p1), .val (.int p2), .val (.int p3), .val (.int p4), .val (.int (4 : Int32)), .val (.ref a1), .val (.ref a56), .val (.int (1 : Int32)), .val (.ref d81), .val (.int (2 : Int32))] [])
            refine W83.iload me at_208 rfl ?_
            refine W83.iconst me at_210 (v := 1) rfl ?_
            show Fi p e below s Z _ _ _ _ T83 (mkF m 211 #[.val (.int p0), .val (.int p1), .val (.int p2), .val (.int p3), .val (.int p4), .val (.int (4 : Int32)), .val (.ref a1), .val (.ref a56), .val (.int (1 : Int32)), .val (.ref d81), .val (.int (2 : Int32))] [(.int (1 : Int32)), (.int (2 : Int32))])
            refine W83.icN_le me at_211 (by decide) ?_
            show Fi p e below s Z _ _ _ _ T83 (mkF m 214 #[.val (.int p0), .val (.int p1), .val (.int p2), .val (.int p3), .val (.int p4), .val (.int (4 : Int32)), .val (.ref a1), .val (.ref a56), .val (.int (1 : Int32)), .val (.ref d81), .val (.int (2 : Int32))] [])
            refine W83.aload me at_214 rfl rfl ?_
            refine W83.iconst me at_216 (v := 1) rfl ?_
            show Fi p e below s Z _ _ _ _ T83 (mkF m 217 #[.val (.int p0), .val (.int p1), .val (.int p2), .val (.int p3), .val (.int p4), .val (.int (4 : Int32)), .val (.ref a1), .val (.ref a56), .val (.int (1 : Int32)), .val (.ref d81), .val (.int (2 : Int32))] [(.int (1 : Int32)), (.ref d81)])
            refine W83.callV me hEL (hw _ (List.mem_of_getElem? (i := 134) rfl)) (hw _ (List.mem_of_getElem? (i := 135) rfl)) (fun hZ' => notFace_of_selects (args := #[]) (mvT (s := s.setVm _) hZ' (hw _ (List.mem_of_getElem? (i := 137) rfl)))) (hw _ (List.mem_of_getElem? (i := 137) rfl)) (hw _ (List.mem_of_getElem? (i := 136) rfl)) (hw _ (List.mem_of_getElem? (i := 11) rfl)) (hw _ (List.mem_of_getElem? (i := 138) rfl)) (a := d81) (argsL := [(.int (1 : Int32))]) (rest := []) M81.exa (c_charat (ss := []) g W83.old (cs := [c2, c3]) (i := 1) M81 (own_le rfl)) at_217 (by decide) (fun _ q => nomatch q) rfl (lenOf pd_22 rfl) (own_le rfl) (own_le rfl) (own_le rfl) (own_le rfl) rfl ?_
            intro T84 h84 v84 W84 z84 q84
            obtain ⟨_, rfl, rfl, rfl⟩ := q84
            show Fi p e below s Z _ _ _ _ T84 (mkF m 220 #[.val (.int p0), .val (.int p1), .val (.int p2), .val (.int p3), .val (.int p4), .val (.int (4 : Int32)), .val (.ref a1), .val (.ref a56), .val (.int (1 : Int32)), .val (.ref d81), .val (.int (2 : Int32))] [(.int c3)])
            refine W84.aload me at_220 rfl rfl ?_
            refine W84.iload me at_222 rfl ?_
            refine W84.iconst me at_224 (v := 2) rfl ?_
            refine W84.iadd me at_225 ?_
            show Fi p e below s Z _ _ _ _ T84 (mkF m 226 #[.val (.int p0), .val (.int p1), .val (.int p2), .val (.int p3), .val (.int p4), .val (.int (4 : Int32)), .val (.ref a1), .val (.ref a56), .val (.int (1 : Int32)), .val (.ref d81), .val (.int (2 : Int32))] [(.int ((1 : Int32) + (2 : Int32))), (.ref a1), (.int c3)])
            show Fi p e below s Z _ _ _ _ T84 (mkF m 226 #[.val (.int p0), .val (.int p1), .val (.int p2), .val (.int p3), .val (.int p4), .val (.int (4 : Int32)), .val (.ref a1), .val (.ref a56), .val (.int (1 : Int32)), .val (.ref d81), .val (.int (2 : Int32))] [(.int (3 : Int32)), (.ref a1), (.int c3)])
            refine W84.caload me A9 at_226 (by decide) (v := .int c3) rfl ?_
            show Fi p e below s Z _ _ _ _ T84 (mkF m 227 #[.val (.int p0), .val (.int p1), .val (.int p2), .val (.int p3), .val (.int p4), .val (.int (4 : Int32)), .val (.ref a1), .val (.ref a56), .val (.int (1 : Int32)), .val (.ref d81), .val (.int (2 : Int32))] [(.int c3), (.int c3)])
            refine W84.icY_eq me at_227 rfl (pc' := 232) (by decide) (by decide) ?_
            show Fi p e below s Z _ _ _ _ T84 (mkF m 232 #[.val (.int p0), .val (.int p1), .val (.int p2), .val (.int p3), .val (.int p4), .val (.int (4 : Int32)), .val (.ref a1), .val (.ref a56), .val (.int (1 : Int32)), .val (.ref d81), .val (.int (2 : Int32))] [])
            refine W84.iload me at_232 rfl ?_
            refine W84.iconst me at_234 (v := 2) rfl ?_
            show Fi p e below s Z _ _ _ _ T84 (mkF m 235 #[.val (.int p0), .val (.int p1), .val (.int p2), .val (.int p3), .val (.int p4), .val (.int (4 : Int32)), .val (.ref a1), .val (.ref a56), .val (.int (1 : Int32)), .val (.ref d81), .val (.int (2 : Int32))] [(.int (2 : Int32)), (.int (2 : Int32))])
            refine W84.icY_le me at_235 (by decide) (pc' := 256) (by decide) (by decide) ?_
            show Fi p e below s Z _ _ _ _ T84 (mkF m 256 #[.val (.int p0), .val (.int p1), .val (.int p2), .val (.int p3), .val (.int p4), .val (.int (4 : Int32)), .val (.ref a1), .val (.ref a56), .val (.int (1 : Int32)), .val (.ref d81), .val (.int (2 : Int32))] [])
            refine W84.iconst me at_256 (v := 1) rfl ?_
            show Fi p e below s Z _ _ _ _ T84 (mkF m 257 #[.val (.int p0), .val (.int p1), .val (.int p2), .val (.int p3), .val (.int p4), .val (.int (4 : Int32)), .val (.ref a1), .val (.ref a56), .val (.int (1 : Int32)), .val (.ref d81), .val (.int (2 : Int32))] [(.int (1 : Int32))])
            exact W84.retN hEL me (Or.inl rfl) at_257 rfl (by decide) (by decide)
          ·
            show Fi p e below s Z _ _ _ _ T56 (mkF m 141 #[.val (.int p0), .val (.int p1), .val (.int p2), .val (.int p3), .val (.int p4), .val (.int (4 : Int32)), .val (.ref a1), .val (.ref a56), .val (.int (1 : Int32)), .unset, .unset] [])
            refine W56.iconst me at_141 (v := 0) rfl ?_
            refine W56.istore me at_142 (l' := #[.val (.int p0), .val (.int p1), .val (.int p2), .val (.int p3), .val (.int p4), .val (.int (4 : Int32)), .val (.ref a1), .val (.ref a56), .val (.int (0 : Int32)), .unset, .unset]) rfl ?_
            refine W56.aload me at_144 rfl rfl ?_
            show Fi p e below s Z _ _ _ _ T56 (mkF m 146 #[.val (.int p0), .val (.int p1), .val (.int p2), .val (.int p3), .val (.int p4), .val (.int (4 : Int32)), .val (.ref a1), .val (.ref a56), .val (.int (0 : Int32)), .unset, .unset] [(.ref a56)])
            show Fi p e below s Z _ _ _ _ T56 (mkF m 146 #[.val (.int p0), .val (.int p1), .val (.int p2), .val (.int p3), .val (.int p4), .val (.int (4 : Int32)), .val (.ref a1), .val (.ref a56), .val (.int (0 : Int32)), .unset, .unset] [(.ref a56)])
            refine W56.callS me hEL (hw _ (List.mem_of_getElem? (i := 30) rfl)) (hw _ (List.mem_of_getElem? (i := 31) rfl)) (hw _ (List.mem_of_getElem? (i := 32) rfl)) (hw _ (List.mem_of_getElem? (i := 33) rfl)) (argsL := [(.ref a56)]) (rest := []) (c_fr1 (ss := []) g W56.old (cs := [c0, c1, c2, c3]) L56 0 3 (own_le rfl) hh0 al0 (by decide) rfl) at_146 (by decide) (fun _ q => nomatch q) rfl (lenOf pd_24 rfl) (own_le rfl) (own_le rfl) (own_le rfl) (own_le rfl) rfl ?_
            intro T85 h85 v85 W85 z85 q85
            obtain ⟨_, rfl, E85, d85, rfl, M85⟩ := q85
            show Fi p e below s Z _ _ _ _ T85 (mkF m 149 #[.val (.int p0), .val (.int p1), .val (.int p2), .val (.int p3), .val (.int p4), .val (.int (4 : Int32)), .val (.ref a1), .val (.ref a56), .val (.int (0 : Int32)), .unset, .unset] [(.ref d85)])
            replace A9 := A9.ext E85
            replace L56 := L56.ext E85
            refine W85.astore me at_149 (l' := #[.val (.int p0), .val (.int p1), .val (.int p2), .val (.int p3), .val (.int p4), .val (.int (4 : Int32)), .val (.ref a1), .val (.ref a56), .val (.int (0 : Int32)), .val (.ref d85), .unset]) rfl rfl ?_
            refine W85.iload me at_151 rfl ?_
            refine W85.iload me at_153 rfl ?_
            show Fi p e below s Z _ _ _ _ T85 (mkF m 155 #[.val (.int p0), .val (.int p1), .val (.int p2), .val (.int p3), .val (.int p4), .val (.int (4 : Int32)), .val (.ref a1), .val (.ref a56), .val (.int (0 : Int32)), .val (.ref d85), .unset] [(.int (4 : Int32)), (.int (0 : Int32))])
            refine W85.icY_ne me at_155 (by decide) (pc' := 164) (by decide) (by decide) ?_
            show Fi p e below s Z _ _ _ _ T85 (mkF m 164 #[.val (.int p0), .val (.int p1), .val (.int p2), .val (.int p3), .val (.int p4), .val (.int (4 : Int32)), .val (.ref a1), .val (.ref a56), .val (.int (0 : Int32)), .val (.ref d85), .unset] [])
            refine W85.iload me at_164 rfl ?_
            refine W85.iload me at_166 rfl ?_
            refine W85.isub me at_168 ?_
            refine W85.iconst me at_169 (v := 1) rfl ?_
            refine W85.isub me at_170 ?_
            show Fi p e below s Z _ _ _ _ T85 (mkF m 171 #[.val (.int p0), .val (.int p1), .val (.int p2), .val (.int p3), .val (.int p4), .val (.int (4 : Int32)), .val (.ref a1), .val (.ref a56), .val (.int (0 : Int32)), .val (.ref d85), .unset] [(.int (((4 : Int32) - (0 : Int32)) - (1 : Int32)))])
            show Fi p e below s Z _ _ _ _ T85 (mkF m 171 #[.val (.int p0), .val (.int p1), .val (.int p2), .val (.int p3), .val (.int p4), .val (.int (4 : Int32)), .val (.ref a1), .val (.ref a56), .val (.int (0 : Int32)), .val (.ref d85), .unset] [(.int (3 : Int32))])
            refine W85.istore me at_171 (l' := #[.val (.int p0), .val (.int p1), .val (.int p2), .val (.int p3), .val (.int p4), .val (.int (4 : Int32)), .val (.ref a1), .val (.ref a56), .val (.int (0 : Int32)), .val (.ref d85), .val (.int (3 : Int32))]) rfl ?_
            refine W85.aload me at_173 rfl rfl ?_
            show Fi p e below s Z _ _ _ _ T85 (mkF m 175 #[.val (.int p0), .val (.int p1), .val (.int p2), .val (.int p3), .val (.int p4), .val (.int (4 : Int32)), .val (.ref a1), .val (.ref a56), .val (.int (0 : Int32)), .val (.ref d85), .val (.int (3 : Int32))] [(.ref d85)])
            refine W85.callV me hEL (hw _ (List.mem_of_getElem? (i := 133) rfl)) (hw _ (List.mem_of_getElem? (i := 51) rfl)) (fun hZ' => notFace_of_selects (args := #[]) (mvT (s := s.setVm _) hZ' (hw _ (List.mem_of_getElem? (i := 53) rfl)))) (hw _ (List.mem_of_getElem? (i := 53) rfl)) (hw _ (List.mem_of_getElem? (i := 52) rfl)) (hw _ (List.mem_of_getElem? (i := 11) rfl)) (hw _ (List.mem_of_getElem? (i := 54) rfl)) (a := d85) (argsL := []) (rest := []) M85.exa (c_length (ss := []) g W85.old (cs := [c1, c2, c3]) M85) at_175 (by decide) (fun _ q => nomatch q) rfl (lenOf pd_12 rfl) (own_le rfl) (own_le rfl) (own_le rfl) (own_le rfl) rfl ?_
            intro T86 h86 v86 W86 z86 q86
            obtain ⟨_, rfl, rfl, rfl⟩ := q86
            show Fi p e below s Z _ _ _ _ T86 (mkF m 178 #[.val (.int p0), .val (.int p1), .val (.int p2), .val (.int p3), .val (.int p4), .val (.int (4 : Int32)), .val (.ref a1), .val (.ref a56), .val (.int (0 : Int32)), .val (.ref d85), .val (.int (3 : Int32))] [(.int (3 : Int32))])
            refine W86.iload me at_178 rfl ?_
            show Fi p e below s Z _ _ _ _ T86 (mkF m 180 #[.val (.int p0), .val (.int p1), .val (.int p2), .val (.int p3), .val (.int p4), .val (.int (4 : Int32)), .val (.ref a1), .val (.ref a56), .val (.int (0 : Int32)), .val (.ref d85), .val (.int (3 : Int32))] [(.int (3 : Int32)), (.int (3 : Int32))])
            refine W86.icY_eq me at_180 (by decide) (pc' := 185) (by decide) (by decide) ?_
            show Fi p e below s Z _ _ _ _ T86 (mkF m 185 #[.val (.int p0), .val (.int p1), .val (.int p2), .val (.int p3), .val (.int p4), .val (.int (4 : Int32)), .val (.ref a1), .val (.ref a56), .val (.int (0 : Int32)), .val (.ref d85), .val (.int (3 : Int32))] [])
            refine W86.iload me at_185 rfl ?_
            show Fi p e below s Z _ _ _ _ T86 (mkF m 187 #[.val (.int p0), .val (.int p1), .val (.int p2), .val (.int p3), .val (.int p4), .val (.int (4 : Int32)), .val (.ref a1), .val (.ref a56), .val (.int (0 : Int32)), .val (.ref d85), .val (.int (3 : Int32))] [(.int (3 : Int32))])
            refine W86.ifN_le me at_187 (by decide) ?_
            show Fi p e below s Z _ _ _ _ T86 (mkF m 190 #[.val (.int p0), .val (.int p1), .val (.int p2), .val (.int p3), .val (.int p4), .val (.int (4 : Int32)), .val (.ref a1), .val (.ref a56), .val (.int (0 : Int32)), .val (.ref d85), .val (.int (3 : Int32))] [])
            refine W86.aload me at_190 rfl rfl ?_
            refine W86.iconst me at_192 (v := 0) rfl ?_
            show Fi p e below s Z _ _ _ _ T86 (mkF m 193 #[.val (.int p0), .val (.int p1), .val (.int p2), .val (.int p3), .val (.int p4), .val (.int (4 : Int32)), .val (.ref a1), .val (.ref a56), .val (.int (0 : Int32)), .val (.ref d85), .val (.int (3 : Int32))] [(.int (0 : Int32)), (.ref d85)])
            refine W86.callV me hEL (hw _ (List.mem_of_getElem? (i := 134) rfl)) (hw _ (List.mem_of_getElem? (i := 135) rfl)) (fun hZ' => notFace_of_selects (args := #[]) (mvT (s := s.setVm _) hZ' (hw _ (List.mem_of_getElem? (i := 137) rfl)))) (hw _ (List.mem_of_getElem? (i := 137) rfl)) (hw _ (List.mem_of_getElem? (i := 136) rfl)) (hw _ (List.mem_of_getElem? (i := 11) rfl)) (hw _ (List.mem_of_getElem? (i := 138) rfl)) (a := d85) (argsL := [(.int (0 : Int32))]) (rest := []) M85.exa (c_charat (ss := []) g W86.old (cs := [c1, c2, c3]) (i := 0) M85 (own_le rfl)) at_193 (by decide) (fun _ q => nomatch q) rfl (lenOf pd_22 rfl) (own_le rfl) (own_le rfl) (own_le rfl) (own_le rfl) rfl ?_
            intro T87 h87 v87 W87 z87 q87
            obtain ⟨_, rfl, rfl, rfl⟩ := q87
            show Fi p e below s Z _ _ _ _ T87 (mkF m 196 #[.val (.int p0), .val (.int p1), .val (.int p2), .val (.int p3), .val (.int p4), .val (.int (4 : Int32)), .val (.ref a1), .val (.ref a56), .val (.int (0 : Int32)), .val (.ref d85), .val (.int (3 : Int32))] [(.int c1)])
            refine W87.aload me at_196 rfl rfl ?_
            refine W87.iload me at_198 rfl ?_
            refine W87.iconst me at_200 (v := 1) rfl ?_
            refine W87.iadd me at_201 ?_
            show Fi p e below s Z _ _ _ _ T87 (mkF m 202 #[.val (.int p0), .val (.int p1), .val (.int p2), .val (.int p3), .val (.int p4), .val (.int (4 : Int32)), .val (.ref a1), .val (.ref a56), .val (.int (0 : Int32)), .val (.ref d85), .val (.int (3 : Int32))] [(.int ((0 : Int32) + (1 : Int32))), (.ref a1), (.int c1)])
            show Fi p e below s Z _ _ _ _ T87 (mkF m 202 #[.val (.int p0), .val (.int p1), .val (.int p2), .val (.int p3), .val (.int p4), .val (.int (4 : Int32)), .val (.ref a1), .val (.ref a56), .val (.int (0 : Int32)), .val (.ref d85), .val (.int (3 : Int32))] [(.int (1 : Int32)), (.ref a1), (.int c1)])
            refine W87.caload me A9 at_202 (by decide) (v := .int c1) rfl ?_
            show Fi p e below s Z _ _ _ _ T87 (mkF m 203 #[.val (.int p0), .val (.int p1), .val (.int p2), .val (.int p3), .val (.int p4), .val (.int (4 : Int32)), .val (.ref a1), .val (.ref a56), .val (.int (0 : Int32)), .val (.ref d85), .val (.int (3 : Int32))] [(.int c1), (.int c1)])
            refine W87.icY_eq me at_203 rfl (pc' := 208) (by decide) (by decide) ?_
            show Fi p e below s Z _ _ _ _ T87 (mkF m 208 #[.val (.int p0), .val (.int p1), .val (.int p2), .val (.int p3), .val (.int p4), .val (.int (4 : Int32)), .val (.ref a1), .val (.ref a56), .val (.int (0 : Int32)), .val (.ref d85), .val (.int (3 : Int32))] [])
            refine W87.iload me at_208 rfl ?_
            refine W87.iconst me at_210 (v := 1) rfl ?_
            show Fi p e below s Z _ _ _ _ T87 (mkF m 211 #[.val (.int p0), .val (.int p1), .val (.int p2), .val (.int p3), .val (.int p4), .val (.int (4 : Int32)), .val (.ref a1), .val (.ref a56), .val (.int (0 : Int32)), .val (.ref d85), .val (.int (3 : Int32))] [(.int (1 : Int32)), (.int (3 : Int32))])
            refine W87.icN_le me at_211 (by decide) ?_
            show Fi p e below s Z _ _ _ _ T87 (mkF m 214 #[.val (.int p0), .val (.int p1), .val (.int p2), .val (.int p3), .val (.int p4), .val (.int (4 : Int32)), .val (.ref a1), .val (.ref a56), .val (.int (0 : Int32)), .val (.ref d85), .val (.int (3 : Int32))] [])
            refine W87.aload me at_214 rfl rfl ?_
            refine W87.iconst me at_216 (v := 1) rfl ?_
            show Fi p e below s Z _ _ _ _ T87 (mkF m 217 #[.val (.int p0), .val (.int p1), .val (.int p2), .val (.int p3), .val (.int p4), .val (.int (4 : Int32)), .val (.ref a1), .val (.ref a56), .val (.int (0 : Int32)), .val (.ref d85), .val (.int (3 : Int32))] [(.int (1 : Int32)), (.ref d85)])
            refine W87.callV me hEL (hw _ (List.mem_of_getElem? (i := 134) rfl)) (hw _ (List.mem_of_getElem? (i := 135) rfl)) (fun hZ' => notFace_of_selects (args := #[]) (mvT (s := s.setVm _) hZ' (hw _ (List.mem_of_getElem? (i := 137) rfl)))) (hw _ (List.mem_of_getElem? (i := 137) rfl)) (hw _ (List.mem_of_getElem? (i := 136) rfl)) (hw _ (List.mem_of_getElem? (i := 11) rfl)) (hw _ (List.mem_of_getElem? (i := 138) rfl)) (a := d85) (argsL := [(.int (1 : Int32))]) (rest := []) M85.exa (c_charat (ss := []) g W87.old (cs := [c1, c2, c3]) (i := 1) M85 (own_le rfl)) at_217 (by decide) (fun _ q => nomatch q) rfl (lenOf pd_22 rfl) (own_le rfl) (own_le rfl) (own_le rfl) (own_le rfl) rfl ?_
            intro T88 h88 v88 W88 z88 q88
            obtain ⟨_, rfl, rfl, rfl⟩ := q88
            show Fi p e below s Z _ _ _ _ T88 (mkF m 220 #[.val (.int p0), .val (.int p1), .val (.int p2), .val (.int p3), .val (.int p4), .val (.int (4 : Int32)), .val (.ref a1), .val (.ref a56), .val (.int (0 : Int32)), .val (.ref d85), .val (.int (3 : Int32))] [(.int c2)])
            refine W88.aload me at_220 rfl rfl ?_
            refine W88.iload me at_222 rfl ?_
            refine W88.iconst me at_224 (v := 2) rfl ?_
            refine W88.iadd me at_225 ?_
            show Fi p e below s Z _ _ _ _ T88 (mkF m 226 #[.val (.int p0), .val (.int p1), .val (.int p2), .val (.int p3), .val (.int p4), .val (.int (4 : Int32)), .val (.ref a1), .val (.ref a56), .val (.int (0 : Int32)), .val (.ref d85), .val (.int (3 : Int32))] [(.int ((0 : Int32) + (2 : Int32))), (.ref a1), (.int c2)])
            show Fi p e below s Z _ _ _ _ T88 (mkF m 226 #[.val (.int p0), .val (.int p1), .val (.int p2), .val (.int p3), .val (.int p4), .val (.int (4 : Int32)), .val (.ref a1), .val (.ref a56), .val (.int (0 : Int32)), .val (.ref d85), .val (.int (3 : Int32))] [(.int (2 : Int32)), (.ref a1), (.int c2)])
            refine W88.caload me A9 at_226 (by decide) (v := .int c2) rfl ?_
            show Fi p e below s Z _ _ _ _ T88 (mkF m 227 #[.val (.int p0), .val (.int p1), .val (.int p2), .val (.int p3), .val (.int p4), .val (.int (4 : Int32)), .val (.ref a1), .val (.ref a56), .val (.int (0 : Int32)), .val (.ref d85), .val (.int (3 : Int32))] [(.int c2), (.int c2)])
            refine W88.icY_eq me at_227 rfl (pc' := 232) (by decide) (by decide) ?_
            show Fi p e below s Z _ _ _ _ T88 (mkF m 232 #[.val (.int p0), .val (.int p1), .val (.int p2), .val (.int p3), .val (.int p4), .val (.int (4 : Int32)), .val (.ref a1), .val (.ref a56), .val (.int (0 : Int32)), .val (.ref d85), .val (.int (3 : Int32))] [])
            refine W88.iload me at_232 rfl ?_
            refine W88.iconst me at_234 (v := 2) rfl ?_
            show Fi p e below s Z _ _ _ _ T88 (mkF m 235 #[.val (.int p0), .val (.int p1), .val (.int p2), .val (.int p3), .val (.int p4), .val (.int (4 : Int32)), .val (.ref a1), .val (.ref a56), .val (.int (0 : Int32)), .val (.ref d85), .val (.int (3 : Int32))] [(.int (2 : Int32)), (.int (3 : Int32))])
            refine W88.icN_le me at_235 (by decide) ?_
            show Fi p e below s Z _ _ _ _ T88 (mkF m 238 #[.val (.int p0), .val (.int p1), .val (.int p2), .val (.int p3), .val (.int p4), .val (.int (4 : Int32)), .val (.ref a1), .val (.ref a56), .val (.int (0 : Int32)), .val (.ref d85), .val (.int (3 : Int32))] [])
            refine W88.aload me at_238 rfl rfl ?_
            refine W88.iconst me at_240 (v := 2) rfl ?_
            show Fi p e below s Z _ _ _ _ T88 (mkF m 241 #[.val (.int p0), .val (.int p1), .val (.int p2), .val (.int p3), .val (.int p4), .val (.int (4 : Int32)), .val (.ref a1), .val (.ref a56), .val (.int (0 : Int32)), .val (.ref d85), .val (.int (3 : Int32))] [(.int (2 : Int32)), (.ref d85)])
            refine W88.callV me hEL (hw _ (List.mem_of_getElem? (i := 134) rfl)) (hw _ (List.mem_of_getElem? (i := 135) rfl)) (fun hZ' => notFace_of_selects (args := #[]) (mvT (s := s.setVm _) hZ' (hw _ (List.mem_of_getElem? (i := 137) rfl)))) (hw _ (List.mem_of_getElem? (i := 137) rfl)) (hw _ (List.mem_of_getElem? (i := 136) rfl)) (hw _ (List.mem_of_getElem? (i := 11) rfl)) (hw _ (List.mem_of_getElem? (i := 138) rfl)) (a := d85) (argsL := [(.int (2 : Int32))]) (rest := []) M85.exa (c_charat (ss := []) g W88.old (cs := [c1, c2, c3]) (i := 2) M85 (own_le rfl)) at_241 (by decide) (fun _ q => nomatch q) rfl (lenOf pd_22 rfl) (own_le rfl) (own_le rfl) (own_le rfl) (own_le rfl) rfl ?_
            intro T89 h89 v89 W89 z89 q89
            obtain ⟨_, rfl, rfl, rfl⟩ := q89
            show Fi p e below s Z _ _ _ _ T89 (mkF m 244 #[.val (.int p0), .val (.int p1), .val (.int p2), .val (.int p3), .val (.int p4), .val (.int (4 : Int32)), .val (.ref a1), .val (.ref a56), .val (.int (0 : Int32)), .val (.ref d85), .val (.int (3 : Int32))] [(.int c3)])
            refine W89.aload me at_244 rfl rfl ?_
            refine W89.iload me at_246 rfl ?_
            refine W89.iconst me at_248 (v := 3) rfl ?_
            refine W89.iadd me at_249 ?_
            show Fi p e below s Z _ _ _ _ T89 (mkF m 250 #[.val (.int p0), .val (.int p1), .val (.int p2), .val (.int p3), .val (.int p4), .val (.int (4 : Int32)), .val (.ref a1), .val (.ref a56), .val (.int (0 : Int32)), .val (.ref d85), .val (.int (3 : Int32))] [(.int ((0 : Int32) + (3 : Int32))), (.ref a1), (.int c3)])
            show Fi p e below s Z _ _ _ _ T89 (mkF m 250 #[.val (.int p0), .val (.int p1), .val (.int p2), .val (.int p3), .val (.int p4), .val (.int (4 : Int32)), .val (.ref a1), .val (.ref a56), .val (.int (0 : Int32)), .val (.ref d85), .val (.int (3 : Int32))] [(.int (3 : Int32)), (.ref a1), (.int c3)])
            refine W89.caload me A9 at_250 (by decide) (v := .int c3) rfl ?_
            show Fi p e below s Z _ _ _ _ T89 (mkF m 251 #[.val (.int p0), .val (.int p1), .val (.int p2), .val (.int p3), .val (.int p4), .val (.int (4 : Int32)), .val (.ref a1), .val (.ref a56), .val (.int (0 : Int32)), .val (.ref d85), .val (.int (3 : Int32))] [(.int c3), (.int c3)])
            refine W89.icY_eq me at_251 rfl (pc' := 256) (by decide) (by decide) ?_
            show Fi p e below s Z _ _ _ _ T89 (mkF m 256 #[.val (.int p0), .val (.int p1), .val (.int p2), .val (.int p3), .val (.int p4), .val (.int (4 : Int32)), .val (.ref a1), .val (.ref a56), .val (.int (0 : Int32)), .val (.ref d85), .val (.int (3 : Int32))] [])
            refine W89.iconst me at_256 (v := 1) rfl ?_
            show Fi p e below s Z _ _ _ _ T89 (mkF m 257 #[.val (.int p0), .val (.int p1), .val (.int p2), .val (.int p3), .val (.int p4), .val (.int (4 : Int32)), .val (.ref a1), .val (.ref a56), .val (.int (0 : Int32)), .val (.ref d85), .val (.int (3 : Int32))] [(.int (1 : Int32))])
            exact W89.retN hEL me (Or.inl rfl) at_257 rfl (by decide) (by decide)
    ·
      show Fi p e below s Z _ _ _ _ T56 (mkF m 88 #[.val (.int p0), .val (.int p1), .val (.int p2), .val (.int p3), .val (.int p4), .val (.int (4 : Int32)), .val (.ref a1), .val (.ref a56), .val (.int (4 : Int32)), .unset, .unset] [])
      refine W56.iconst me at_88 (v := 3) rfl ?_
      refine W56.istore me at_89 (l' := #[.val (.int p0), .val (.int p1), .val (.int p2), .val (.int p3), .val (.int p4), .val (.int (4 : Int32)), .val (.ref a1), .val (.ref a56), .val (.int (3 : Int32)), .unset, .unset]) rfl ?_
      refine W56.iload me at_91 rfl ?_
      refine W56.iconst me at_93 (v := 2) rfl ?_
      show Fi p e below s Z _ _ _ _ T56 (mkF m 94 #[.val (.int p0), .val (.int p1), .val (.int p2), .val (.int p3), .val (.int p4), .val (.int (4 : Int32)), .val (.ref a1), .val (.ref a56), .val (.int (3 : Int32)), .unset, .unset] [(.int (2 : Int32)), (.int (4 : Int32))])
      refine W56.icN_le me at_94 (by decide) ?_
      show Fi p e below s Z _ _ _ _ T56 (mkF m 97 #[.val (.int p0), .val (.int p1), .val (.int p2), .val (.int p3), .val (.int p4), .val (.int (4 : Int32)), .val (.ref a1), .val (.ref a56), .val (.int (3 : Int32)), .unset, .unset] [])
      refine W56.aload me at_97 rfl rfl ?_
      refine W56.iconst me at_99 (v := 2) rfl ?_
      show Fi p e below s Z _ _ _ _ T56 (mkF m 100 #[.val (.int p0), .val (.int p1), .val (.int p2), .val (.int p3), .val (.int p4), .val (.int (4 : Int32)), .val (.ref a1), .val (.ref a56), .val (.int (3 : Int32)), .unset, .unset] [(.int (2 : Int32)), (.ref a1)])
      refine W56.caload me A9 at_100 (by decide) (v := .int c2) rfl ?_
      show Fi p e below s Z _ _ _ _ T56 (mkF m 101 #[.val (.int p0), .val (.int p1), .val (.int p2), .val (.int p3), .val (.int p4), .val (.int (4 : Int32)), .val (.ref a1), .val (.ref a56), .val (.int (3 : Int32)), .unset, .unset] [(.int c2)])
      refine W56.bipush me at_101 (v := 35) rfl ?_
      show Fi p e below s Z _ _ _ _ T56 (mkF m 103 #[.val (.int p0), .val (.int p1), .val (.int p2), .val (.int p3), .val (.int p4), .val (.int (4 : Int32)), .val (.ref a1), .val (.ref a56), .val (.int (3 : Int32)), .unset, .unset] [(.int (35 : Int32)), (.int c2)])
      refine W56.ic_ne me at_103 (pc' := 109) (by decide) (by decide) (fun hh2 => ?_) (fun hh2 => ?_)
      ·
        show Fi p e below s Z _ _ _ _ T56 (mkF m 109 #[.val (.int p0), .val (.int p1), .val (.int p2), .val (.int p3), .val (.int p4), .val (.int (4 : Int32)), .val (.ref a1), .val (.ref a56), .val (.int (3 : Int32)), .unset, .unset] [])
        refine W56.iload me at_109 rfl ?_
        refine W56.iconst me at_111 (v := 1) rfl ?_
        show Fi p e below s Z _ _ _ _ T56 (mkF m 112 #[.val (.int p0), .val (.int p1), .val (.int p2), .val (.int p3), .val (.int p4), .val (.int (4 : Int32)), .val (.ref a1), .val (.ref a56), .val (.int (3 : Int32)), .unset, .unset] [(.int (1 : Int32)), (.int (4 : Int32))])
        refine W56.icN_le me at_112 (by decide) ?_
        show Fi p e below s Z _ _ _ _ T56 (mkF m 115 #[.val (.int p0), .val (.int p1), .val (.int p2), .val (.int p3), .val (.int p4), .val (.int (4 : Int32)), .val (.ref a1), .val (.ref a56), .val (.int (3 : Int32)), .unset, .unset] [])
        refine W56.aload me at_115 rfl rfl ?_
        refine W56.iconst me at_117 (v := 1) rfl ?_
        show Fi p e below s Z _ _ _ _ T56 (mkF m 118 #[.val (.int p0), .val (.int p1), .val (.int p2), .val (.int p3), .val (.int p4), .val (.int (4 : Int32)), .val (.ref a1), .val (.ref a56), .val (.int (3 : Int32)), .unset, .unset] [(.int (1 : Int32)), (.ref a1)])
        refine W56.caload me A9 at_118 (by decide) (v := .int c1) rfl ?_
        show Fi p e below s Z _ _ _ _ T56 (mkF m 119 #[.val (.int p0), .val (.int p1), .val (.int p2), .val (.int p3), .val (.int p4), .val (.int (4 : Int32)), .val (.ref a1), .val (.ref a56), .val (.int (3 : Int32)), .unset, .unset] [(.int c1)])
        refine W56.bipush me at_119 (v := 35) rfl ?_
        show Fi p e below s Z _ _ _ _ T56 (mkF m 121 #[.val (.int p0), .val (.int p1), .val (.int p2), .val (.int p3), .val (.int p4), .val (.int (4 : Int32)), .val (.ref a1), .val (.ref a56), .val (.int (3 : Int32)), .unset, .unset] [(.int (35 : Int32)), (.int c1)])
        refine W56.ic_ne me at_121 (pc' := 127) (by decide) (by decide) (fun hh1 => ?_) (fun hh1 => ?_)
        ·
          show Fi p e below s Z _ _ _ _ T56 (mkF m 127 #[.val (.int p0), .val (.int p1), .val (.int p2), .val (.int p3), .val (.int p4), .val (.int (4 : Int32)), .val (.ref a1), .val (.ref a56), .val (.int (3 : Int32)), .unset, .unset] [])
          refine W56.iload me at_127 rfl ?_
          show Fi p e below s Z _ _ _ _ T56 (mkF m 129 #[.val (.int p0), .val (.int p1), .val (.int p2), .val (.int p3), .val (.int p4), .val (.int (4 : Int32)), .val (.ref a1), .val (.ref a56), .val (.int (3 : Int32)), .unset, .unset] [(.int (4 : Int32))])
          refine W56.ifN_le me at_129 (by decide) ?_
          show Fi p e below s Z _ _ _ _ T56 (mkF m 132 #[.val (.int p0), .val (.int p1), .val (.int p2), .val (.int p3), .val (.int p4), .val (.int (4 : Int32)), .val (.ref a1), .val (.ref a56), .val (.int (3 : Int32)), .unset, .unset] [])
          refine W56.aload me at_132 rfl rfl ?_
          refine W56.iconst me at_134 (v := 0) rfl ?_
          show Fi p e below s Z _ _ _ _ T56 (mkF m 135 #[.val (.int p0), .val (.int p1), .val (.int p2), .val (.int p3), .val (.int p4), .val (.int (4 : Int32)), .val (.ref a1), .val (.ref a56), .val (.int (3 : Int32)), .unset, .unset] [(.int (0 : Int32)), (.ref a1)])
          refine W56.caload me A9 at_135 (by decide) (v := .int c0) rfl ?_
          show Fi p e below s Z _ _ _ _ T56 (mkF m 136 #[.val (.int p0), .val (.int p1), .val (.int p2), .val (.int p3), .val (.int p4), .val (.int (4 : Int32)), .val (.ref a1), .val (.ref a56), .val (.int (3 : Int32)), .unset, .unset] [(.int c0)])
          refine W56.bipush me at_136 (v := 35) rfl ?_
          show Fi p e below s Z _ _ _ _ T56 (mkF m 138 #[.val (.int p0), .val (.int p1), .val (.int p2), .val (.int p3), .val (.int p4), .val (.int (4 : Int32)), .val (.ref a1), .val (.ref a56), .val (.int (3 : Int32)), .unset, .unset] [(.int (35 : Int32)), (.int c0)])
          refine W56.ic_ne me at_138 (pc' := 144) (by decide) (by decide) (fun hh0 => ?_) (fun hh0 => ?_)
          ·
            show Fi p e below s Z _ _ _ _ T56 (mkF m 144 #[.val (.int p0), .val (.int p1), .val (.int p2), .val (.int p3), .val (.int p4), .val (.int (4 : Int32)), .val (.ref a1), .val (.ref a56), .val (.int (3 : Int32)), .unset, .unset] [])
            refine W56.aload me at_144 rfl rfl ?_
            show Fi p e below s Z _ _ _ _ T56 (mkF m 146 #[.val (.int p0), .val (.int p1), .val (.int p2), .val (.int p3), .val (.int p4), .val (.int (4 : Int32)), .val (.ref a1), .val (.ref a56), .val (.int (3 : Int32)), .unset, .unset] [(.ref a56)])
            show Fi p e below s Z _ _ _ _ T56 (mkF m 146 #[.val (.int p0), .val (.int p1), .val (.int p2), .val (.int p3), .val (.int p4), .val (.int (4 : Int32)), .val (.ref a1), .val (.ref a56), .val (.int (3 : Int32)), .unset, .unset] [(.ref a56)])
            refine W56.callS me hEL (hw _ (List.mem_of_getElem? (i := 30) rfl)) (hw _ (List.mem_of_getElem? (i := 31) rfl)) (hw _ (List.mem_of_getElem? (i := 32) rfl)) (hw _ (List.mem_of_getElem? (i := 33) rfl)) (argsL := [(.ref a56)]) (rest := []) (c_fr1 (ss := []) g W56.old (cs := [c0, c1, c2, c3]) L56 3 0 (own_le rfl) hh3 (alS (alS (alS al0 hh0) hh1) hh2) (by decide) rfl) at_146 (by decide) (fun _ q => nomatch q) rfl (lenOf pd_24 rfl) (own_le rfl) (own_le rfl) (own_le rfl) (own_le rfl) rfl ?_
            intro T90 h90 v90 W90 z90 q90
            obtain ⟨_, rfl, E90, d90, rfl, M90⟩ := q90
            show Fi p e below s Z _ _ _ _ T90 (mkF m 149 #[.val (.int p0), .val (.int p1), .val (.int p2), .val (.int p3), .val (.int p4), .val (.int (4 : Int32)), .val (.ref a1), .val (.ref a56), .val (.int (3 : Int32)), .unset, .unset] [(.ref d90)])
            replace A9 := A9.ext E90
            replace L56 := L56.ext E90
            refine W90.astore me at_149 (l' := #[.val (.int p0), .val (.int p1), .val (.int p2), .val (.int p3), .val (.int p4), .val (.int (4 : Int32)), .val (.ref a1), .val (.ref a56), .val (.int (3 : Int32)), .val (.ref d90), .unset]) rfl rfl ?_
            refine W90.iload me at_151 rfl ?_
            refine W90.iload me at_153 rfl ?_
            show Fi p e below s Z _ _ _ _ T90 (mkF m 155 #[.val (.int p0), .val (.int p1), .val (.int p2), .val (.int p3), .val (.int p4), .val (.int (4 : Int32)), .val (.ref a1), .val (.ref a56), .val (.int (3 : Int32)), .val (.ref d90), .unset] [(.int (4 : Int32)), (.int (3 : Int32))])
            refine W90.icY_ne me at_155 (by decide) (pc' := 164) (by decide) (by decide) ?_
            show Fi p e below s Z _ _ _ _ T90 (mkF m 164 #[.val (.int p0), .val (.int p1), .val (.int p2), .val (.int p3), .val (.int p4), .val (.int (4 : Int32)), .val (.ref a1), .val (.ref a56), .val (.int (3 : Int32)), .val (.ref d90), .unset] [])
            refine W90.iload me at_164 rfl ?_
            refine W90.iload me at_166 rfl ?_
            refine W90.isub me at_168 ?_
            refine W90.iconst me at_169 (v := 1) rfl ?_
            refine W90.isub me at_170 ?_
            show Fi p e below s Z _ _ _ _ T90 (mkF m 171 #[.val (.int p0), .val (.int p1), .val (.int p2), .val (.int p3), .val (.int p4), .val (.int (4 : Int32)), .val (.ref a1), .val (.ref a56), .val (.int (3 : Int32)), .val (.ref d90), .unset] [(.int (((4 : Int32) - (3 : Int32)) - (1 : Int32)))])
            show Fi p e below s Z _ _ _ _ T90 (mkF m 171 #[.val (.int p0), .val (.int p1), .val (.int p2), .val (.int p3), .val (.int p4), .val (.int (4 : Int32)), .val (.ref a1), .val (.ref a56), .val (.int (3 : Int32)), .val (.ref d90), .unset] [(.int (0 : Int32))])
            refine W90.istore me at_171 (l' := #[.val (.int p0), .val (.int p1), .val (.int p2), .val (.int p3), .val (.int p4), .val (.int (4 : Int32)), .val (.ref a1), .val (.ref a56), .val (.int (3 : Int32)), .val (.ref d90), .val (.int (0 : Int32))]) rfl ?_
            refine W90.aload me at_173 rfl rfl ?_
            show Fi p e below s Z _ _ _ _ T90 (mkF m 175 #[.val (.int p0), .val (.int p1), .val (.int p2), .val (.int p3), .val (.int p4), .val (.int (4 : Int32)), .val (.ref a1), .val (.ref a56), .val (.int (3 : Int32)), .val (.ref d90), .val (.int (0 : Int32))] [(.ref d90)])
            refine W90.callV me hEL (hw _ (List.mem_of_getElem? (i := 133) rfl)) (hw _ (List.mem_of_getElem? (i := 51) rfl)) (fun hZ' => notFace_of_selects (args := #[]) (mvT (s := s.setVm _) hZ' (hw _ (List.mem_of_getElem? (i := 53) rfl)))) (hw _ (List.mem_of_getElem? (i := 53) rfl)) (hw _ (List.mem_of_getElem? (i := 52) rfl)) (hw _ (List.mem_of_getElem? (i := 11) rfl)) (hw _ (List.mem_of_getElem? (i := 54) rfl)) (a := d90) (argsL := []) (rest := []) M90.exa (c_length (ss := []) g W90.old (cs := []) M90) at_175 (by decide) (fun _ q => nomatch q) rfl (lenOf pd_12 rfl) (own_le rfl) (own_le rfl) (own_le rfl) (own_le rfl) rfl ?_
            intro T91 h91 v91 W91 z91 q91
            obtain ⟨_, rfl, rfl, rfl⟩ := q91
            show Fi p e below s Z _ _ _ _ T91 (mkF m 178 #[.val (.int p0), .val (.int p1), .val (.int p2), .val (.int p3), .val (.int p4), .val (.int (4 : Int32)), .val (.ref a1), .val (.ref a56), .val (.int (3 : Int32)), .val (.ref d90), .val (.int (0 : Int32))] [(.int (0 : Int32))])
            refine W91.iload me at_178 rfl ?_
            show Fi p e below s Z _ _ _ _ T91 (mkF m 180 #[.val (.int p0), .val (.int p1), .val (.int p2), .val (.int p3), .val (.int p4), .val (.int (4 : Int32)), .val (.ref a1), .val (.ref a56), .val (.int (3 : Int32)), .val (.ref d90), .val (.int (0 : Int32))] [(.int (0 : Int32)), (.int (0 : Int32))])
            refine W91.icY_eq me at_180 (by decide) (pc' := 185) (by decide) (by decide) ?_
            show Fi p e below s Z _ _ _ _ T91 (mkF m 185 #[.val (.int p0), .val (.int p1), .val (.int p2), .val (.int p3), .val (.int p4), .val (.int (4 : Int32)), .val (.ref a1), .val (.ref a56), .val (.int (3 : Int32)), .val (.ref d90), .val (.int (0 : Int32))] [])
            refine W91.iload me at_185 rfl ?_
            show Fi p e below s Z _ _ _ _ T91 (mkF m 187 #[.val (.int p0), .val (.int p1), .val (.int p2), .val (.int p3), .val (.int p4), .val (.int (4 : Int32)), .val (.ref a1), .val (.ref a56), .val (.int (3 : Int32)), .val (.ref d90), .val (.int (0 : Int32))] [(.int (0 : Int32))])
            refine W91.ifY_le me at_187 (by decide) (pc' := 208) (by decide) (by decide) ?_
            show Fi p e below s Z _ _ _ _ T91 (mkF m 208 #[.val (.int p0), .val (.int p1), .val (.int p2), .val (.int p3), .val (.int p4), .val (.int (4 : Int32)), .val (.ref a1), .val (.ref a56), .val (.int (3 : Int32)), .val (.ref d90), .val (.int (0 : Int32))] [])
            refine W91.iload me at_208 rfl ?_
            refine W91.iconst me at_210 (v := 1) rfl ?_
            show Fi p e below s Z _ _ _ _ T91 (mkF m 211 #[.val (.int p0), .val (.int p1), .val (.int p2), .val (.int p3), .val (.int p4), .val (.int (4 : Int32)), .val (.ref a1), .val (.ref a56), .val (.int (3 : Int32)), .val (.ref d90), .val (.int (0 : Int32))] [(.int (1 : Int32)), (.int (0 : Int32))])
            refine W91.icY_le me at_211 (by decide) (pc' := 232) (by decide) (by decide) ?_
            show Fi p e below s Z _ _ _ _ T91 (mkF m 232 #[.val (.int p0), .val (.int p1), .val (.int p2), .val (.int p3), .val (.int p4), .val (.int (4 : Int32)), .val (.ref a1), .val (.ref a56), .val (.int (3 : Int32)), .val (.ref d90), .val (.int (0 : Int32))] [])
            refine W91.iload me at_232 rfl ?_
            refine W91.iconst me at_234 (v := 2) rfl ?_
            show Fi p e below s Z _ _ _ _ T91 (mkF m 235 #[.val (.int p0), .val (.int p1), .val (.int p2), .val (.int p3), .val (.int p4), .val (.int (4 : Int32)), .val (.ref a1), .val (.ref a56), .val (.int (3 : Int32)), .val (.ref d90), .val (.int (0 : Int32))] [(.int (2 : Int32)), (.int (0 : Int32))])
            refine W91.icY_le me at_235 (by decide) (pc' := 256) (by decide) (by decide) ?_
            show Fi p e below s Z _ _ _ _ T91 (mkF m 256 #[.val (.int p0), .val (.int p1), .val (.int p2), .val (.int p3), .val (.int p4), .val (.int (4 : Int32)), .val (.ref a1), .val (.ref a56), .val (.int (3 : Int32)), .val (.ref d90), .val (.int (0 : Int32))] [])
            refine W91.iconst me at_256 (v := 1) rfl ?_
            show Fi p e below s Z _ _ _ _ T91 (mkF m 257 #[.val (.int p0), .val (.int p1), .val (.int p2), .val (.int p3), .val (.int p4), .val (.int (4 : Int32)), .val (.ref a1), .val (.ref a56), .val (.int (3 : Int32)), .val (.ref d90), .val (.int (0 : Int32))] [(.int (1 : Int32))])
            exact W91.retN hEL me (Or.inl rfl) at_257 rfl (by decide) (by decide)
          ·
            show Fi p e below s Z _ _ _ _ T56 (mkF m 141 #[.val (.int p0), .val (.int p1), .val (.int p2), .val (.int p3), .val (.int p4), .val (.int (4 : Int32)), .val (.ref a1), .val (.ref a56), .val (.int (3 : Int32)), .unset, .unset] [])
            refine W56.iconst me at_141 (v := 0) rfl ?_
            refine W56.istore me at_142 (l' := #[.val (.int p0), .val (.int p1), .val (.int p2), .val (.int p3), .val (.int p4), .val (.int (4 : Int32)), .val (.ref a1), .val (.ref a56), .val (.int (0 : Int32)), .unset, .unset]) rfl ?_
            refine W56.aload me at_144 rfl rfl ?_
            show Fi p e below s Z _ _ _ _ T56 (mkF m 146 #[.val (.int p0), .val (.int p1), .val (.int p2), .val (.int p3), .val (.int p4), .val (.int (4 : Int32)), .val (.ref a1), .val (.ref a56), .val (.int (0 : Int32)), .unset, .unset] [(.ref a56)])
            show Fi p e below s Z _ _ _ _ T56 (mkF m 146 #[.val (.int p0), .val (.int p1), .val (.int p2), .val (.int p3), .val (.int p4), .val (.int (4 : Int32)), .val (.ref a1), .val (.ref a56), .val (.int (0 : Int32)), .unset, .unset] [(.ref a56)])
            refine W56.callS me hEL (hw _ (List.mem_of_getElem? (i := 30) rfl)) (hw _ (List.mem_of_getElem? (i := 31) rfl)) (hw _ (List.mem_of_getElem? (i := 32) rfl)) (hw _ (List.mem_of_getElem? (i := 33) rfl)) (argsL := [(.ref a56)]) (rest := []) (c_fr1 (ss := []) g W56.old (cs := [c0, c1, c2, c3]) L56 0 3 (own_le rfl) hh0 al0 (by decide) rfl) at_146 (by decide) (fun _ q => nomatch q) rfl (lenOf pd_24 rfl) (own_le rfl) (own_le rfl) (own_le rfl) (own_le rfl) rfl ?_
            intro T92 h92 v92 W92 z92 q92
            obtain ⟨_, rfl, E92, d92, rfl, M92⟩ := q92
            show Fi p e below s Z _ _ _ _ T92 (mkF m 149 #[.val (.int p0), .val (.int p1), .val (.int p2), .val (.int p3), .val (.int p4), .val (.int (4 : Int32)), .val (.ref a1), .val (.ref a56), .val (.int (0 : Int32)), .unset, .unset] [(.ref d92)])
            replace A9 := A9.ext E92
            replace L56 := L56.ext E92
            refine W92.astore me at_149 (l' := #[.val (.int p0), .val (.int p1), .val (.int p2), .val (.int p3), .val (.int p4), .val (.int (4 : Int32)), .val (.ref a1), .val (.ref a56), .val (.int (0 : Int32)), .val (.ref d92), .unset]) rfl rfl ?_
            refine W92.iload me at_151 rfl ?_
            refine W92.iload me at_153 rfl ?_
            show Fi p e below s Z _ _ _ _ T92 (mkF m 155 #[.val (.int p0), .val (.int p1), .val (.int p2), .val (.int p3), .val (.int p4), .val (.int (4 : Int32)), .val (.ref a1), .val (.ref a56), .val (.int (0 : Int32)), .val (.ref d92), .unset] [(.int (4 : Int32)), (.int (0 : Int32))])
            refine W92.icY_ne me at_155 (by decide) (pc' := 164) (by decide) (by decide) ?_
            show Fi p e below s Z _ _ _ _ T92 (mkF m 164 #[.val (.int p0), .val (.int p1), .val (.int p2), .val (.int p3), .val (.int p4), .val (.int (4 : Int32)), .val (.ref a1), .val (.ref a56), .val (.int (0 : Int32)), .val (.ref d92), .unset] [])
            refine W92.iload me at_164 rfl ?_
            refine W92.iload me at_166 rfl ?_
            refine W92.isub me at_168 ?_
            refine W92.iconst me at_169 (v := 1) rfl ?_
            refine W92.isub me at_170 ?_
            show Fi p e below s Z _ _ _ _ T92 (mkF m 171 #[.val (.int p0), .val (.int p1), .val (.int p2), .val (.int p3), .val (.int p4), .val (.int (4 : Int32)), .val (.ref a1), .val (.ref a56), .val (.int (0 : Int32)), .val (.ref d92), .unset] [(.int (((4 : Int32) - (0 : Int32)) - (1 : Int32)))])
            show Fi p e below s Z _ _ _ _ T92 (mkF m 171 #[.val (.int p0), .val (.int p1), .val (.int p2), .val (.int p3), .val (.int p4), .val (.int (4 : Int32)), .val (.ref a1), .val (.ref a56), .val (.int (0 : Int32)), .val (.ref d92), .unset] [(.int (3 : Int32))])
            refine W92.istore me at_171 (l' := #[.val (.int p0), .val (.int p1), .val (.int p2), .val (.int p3), .val (.int p4), .val (.int (4 : Int32)), .val (.ref a1), .val (.ref a56), .val (.int (0 : Int32)), .val (.ref d92), .val (.int (3 : Int32))]) rfl ?_
            refine W92.aload me at_173 rfl rfl ?_
            show Fi p e below s Z _ _ _ _ T92 (mkF m 175 #[.val (.int p0), .val (.int p1), .val (.int p2), .val (.int p3), .val (.int p4), .val (.int (4 : Int32)), .val (.ref a1), .val (.ref a56), .val (.int (0 : Int32)), .val (.ref d92), .val (.int (3 : Int32))] [(.ref d92)])
            refine W92.callV me hEL (hw _ (List.mem_of_getElem? (i := 133) rfl)) (hw _ (List.mem_of_getElem? (i := 51) rfl)) (fun hZ' => notFace_of_selects (args := #[]) (mvT (s := s.setVm _) hZ' (hw _ (List.mem_of_getElem? (i := 53) rfl)))) (hw _ (List.mem_of_getElem? (i := 53) rfl)) (hw _ (List.mem_of_getElem? (i := 52) rfl)) (hw _ (List.mem_of_getElem? (i := 11) rfl)) (hw _ (List.mem_of_getElem? (i := 54) rfl)) (a := d92) (argsL := []) (rest := []) M92.exa (c_length (ss := []) g W92.old (cs := [c1, c2, c3]) M92) at_175 (by decide) (fun _ q => nomatch q) rfl (lenOf pd_12 rfl) (own_le rfl) (own_le rfl) (own_le rfl) (own_le rfl) rfl ?_
            intro T93 h93 v93 W93 z93 q93
            obtain ⟨_, rfl, rfl, rfl⟩ := q93
            show Fi p e below s Z _ _ _ _ T93 (mkF m 178 #[.val (.int p0), .val (.int p1), .val (.int p2), .val (.int p3), .val (.int p4), .val (.int (4 : Int32)), .val (.ref a1), .val (.ref a56), .val (.int (0 : Int32)), .val (.ref d92), .val (.int (3 : Int32))] [(.int (3 : Int32))])
            refine W93.iload me at_178 rfl ?_
            show Fi p e below s Z _ _ _ _ T93 (mkF m 180 #[.val (.int p0), .val (.int p1), .val (.int p2), .val (.int p3), .val (.int p4), .val (.int (4 : Int32)), .val (.ref a1), .val (.ref a56), .val (.int (0 : Int32)), .val (.ref d92), .val (.int (3 : Int32))] [(.int (3 : Int32)), (.int (3 : Int32))])
            refine W93.icY_eq me at_180 (by decide) (pc' := 185) (by decide) (by decide) ?_
            show Fi p e below s Z _ _ _ _ T93 (mkF m 185 #[.val (.int p0), .val (.int p1), .val (.int p2), .val (.int p3), .val (.int p4), .val (.int (4 : Int32)), .val (.ref a1), .val (.ref a56), .val (.int (0 : Int32)), .val (.ref d92), .val (.int (3 : Int32))] [])
            refine W93.iload me at_185 rfl ?_
            show Fi p e below s Z _ _ _ _ T93 (mkF m 187 #[.val (.int p0), .val (.int p1), .val (.int p2), .val (.int p3), .val (.int p4), .val (.int (4 : Int32)), .val (.ref a1), .val (.ref a56), .val (.int (0 : Int32)), .val (.ref d92), .val (.int (3 : Int32))] [(.int (3 : Int32))])
            refine W93.ifN_le me at_187 (by decide) ?_
            show Fi p e below s Z _ _ _ _ T93 (mkF m 190 #[.val (.int p0), .val (.int p1), .val (.int p2), .val (.int p3), .val (.int p4), .val (.int (4 : Int32)), .val (.ref a1), .val (.ref a56), .val (.int (0 : Int32)), .val (.ref d92), .val (.int (3 : Int32))] [])
            refine W93.aload me at_190 rfl rfl ?_
            refine W93.iconst me at_192 (v := 0) rfl ?_
            show Fi p e below s Z _ _ _ _ T93 (mkF m 193 #[.val (.int p0), .val (.int p1), .val (.int p2), .val (.int p3), .val (.int p4), .val (.int (4 : Int32)), .val (.ref a1), .val (.ref a56), .val (.int (0 : Int32)), .val (.ref d92), .val (.int (3 : Int32))] [(.int (0 : Int32)), (.ref d92)])
            refine W93.callV me hEL (hw _ (List.mem_of_getElem? (i := 134) rfl)) (hw _ (List.mem_of_getElem? (i := 135) rfl)) (fun hZ' => notFace_of_selects (args := #[]) (mvT (s := s.setVm _) hZ' (hw _ (List.mem_of_getElem? (i := 137) rfl)))) (hw _ (List.mem_of_getElem? (i := 137) rfl)) (hw _ (List.mem_of_getElem? (i := 136) rfl)) (hw _ (List.mem_of_getElem? (i := 11) rfl)) (hw _ (List.mem_of_getElem? (i := 138) rfl)) (a := d92) (argsL := [(.int (0 : Int32))]) (rest := []) M92.exa (c_charat (ss := []) g W93.old (cs := [c1, c2, c3]) (i := 0) M92 (own_le rfl)) at_193 (by decide) (fun _ q => nomatch q) rfl (lenOf pd_22 rfl) (own_le rfl) (own_le rfl) (own_le rfl) (own_le rfl) rfl ?_
            intro T94 h94 v94 W94 z94 q94
            obtain ⟨_, rfl, rfl, rfl⟩ := q94
            show Fi p e below s Z _ _ _ _ T94 (mkF m 196 #[.val (.int p0), .val (.int p1), .val (.int p2), .val (.int p3), .val (.int p4), .val (.int (4 : Int32)), .val (.ref a1), .val (.ref a56), .val (.int (0 : Int32)), .val (.ref d92), .val (.int (3 : Int32))] [(.int c1)])
            refine W94.aload me at_196 rfl rfl ?_
            refine W94.iload me at_198 rfl ?_
            refine W94.iconst me at_200 (v := 1) rfl ?_
            refine W94.iadd me at_201 ?_
            show Fi p e below s Z _ _ _ _ T94 (mkF m 202 #[.val (.int p0), .val (.int p1), .val (.int p2), .val (.int p3), .val (.int p4), .val (.int (4 : Int32)), .val (.ref a1), .val (.ref a56), .val (.int (0 : Int32)), .val (.ref d92), .val (.int (3 : Int32))] [(.int ((0 : Int32) + (1 : Int32))), (.ref a1), (.int c1)])
            show Fi p e below s Z _ _ _ _ T94 (mkF m 202 #[.val (.int p0), .val (.int p1), .val (.int p2), .val (.int p3), .val (.int p4), .val (.int (4 : Int32)), .val (.ref a1), .val (.ref a56), .val (.int (0 : Int32)), .val (.ref d92), .val (.int (3 : Int32))] [(.int (1 : Int32)), (.ref a1), (.int c1)])
            refine W94.caload me A9 at_202 (by decide) (v := .int c1) rfl ?_
            show Fi p e below s Z _ _ _ _ T94 (mkF m 203 #[.val (.int p0), .val (.int p1), .val (.int p2), .val (.int p3), .val (.int p4), .val (.int (4 : Int32)), .val (.ref a1), .val (.ref a56), .val (.int (0 : Int32)), .val (.ref d92), .val (.int (3 : Int32))] [(.int c1), (.int c1)])
            refine W94.icY_eq me at_203 rfl (pc' := 208) (by decide) (by decide) ?_
            show Fi p e below s Z _ _ _ _ T94 (mkF m 208 #[.val (.int p0), .val (.int p1), .val (.int p2), .val (.int p3), .val (.int p4), .val (.int (4 : Int32)), .val (.ref a1), .val (.ref a56), .val (.int (0 : Int32)), .val (.ref d92), .val (.int (3 : Int32))] [])
            refine W94.iload me at_208 rfl ?_
            refine W94.iconst me at_210 (v := 1) rfl ?_
            show Fi p e below s Z _ _ _ _ T94 (mkF m 211 #[.val (.int p0), .val (.int p1), .val (.int p2), .val (.int p3), .val (.int p4), .val (.int (4 : Int32)), .val (.ref a1), .val (.ref a56), .val (.int (0 : Int32)), .val (.ref d92), .val (.int (3 : Int32))] [(.int (1 : Int32)), (.int (3 : Int32))])
            refine W94.icN_le me at_211 (by decide) ?_
            show Fi p e below s Z _ _ _ _ T94 (mkF m 214 #[.val (.int p0), .val (.int p1), .val (.int p2), .val (.int p3), .val (.int p4), .val (.int (4 : Int32)), .val (.ref a1), .val (.ref a56), .val (.int (0 : Int32)), .val (.ref d92), .val (.int (3 : Int32))] [])
            refine W94.aload me at_214 rfl rfl ?_
            refine W94.iconst me at_216 (v := 1) rfl ?_
            show Fi p e below s Z _ _ _ _ T94 (mkF m 217 #[.val (.int p0), .val (.int p1), .val (.int p2), .val (.int p3), .val (.int p4), .val (.int (4 : Int32)), .val (.ref a1), .val (.ref a56), .val (.int (0 : Int32)), .val (.ref d92), .val (.int (3 : Int32))] [(.int (1 : Int32)), (.ref d92)])
            refine W94.callV me hEL (hw _ (List.mem_of_getElem? (i := 134) rfl)) (hw _ (List.mem_of_getElem? (i := 135) rfl)) (fun hZ' => notFace_of_selects (args := #[]) (mvT (s := s.setVm _) hZ' (hw _ (List.mem_of_getElem? (i := 137) rfl)))) (hw _ (List.mem_of_getElem? (i := 137) rfl)) (hw _ (List.mem_of_getElem? (i := 136) rfl)) (hw _ (List.mem_of_getElem? (i := 11) rfl)) (hw _ (List.mem_of_getElem? (i := 138) rfl)) (a := d92) (argsL := [(.int (1 : Int32))]) (rest := []) M92.exa (c_charat (ss := []) g W94.old (cs := [c1, c2, c3]) (i := 1) M92 (own_le rfl)) at_217 (by decide) (fun _ q => nomatch q) rfl (lenOf pd_22 rfl) (own_le rfl) (own_le rfl) (own_le rfl) (own_le rfl) rfl ?_
            intro T95 h95 v95 W95 z95 q95
            obtain ⟨_, rfl, rfl, rfl⟩ := q95
            show Fi p e below s Z _ _ _ _ T95 (mkF m 220 #[.val (.int p0), .val (.int p1), .val (.int p2), .val (.int p3), .val (.int p4), .val (.int (4 : Int32)), .val (.ref a1), .val (.ref a56), .val (.int (0 : Int32)), .val (.ref d92), .val (.int (3 : Int32))] [(.int c2)])
            refine W95.aload me at_220 rfl rfl ?_
            refine W95.iload me at_222 rfl ?_
            refine W95.iconst me at_224 (v := 2) rfl ?_
            refine W95.iadd me at_225 ?_
            show Fi p e below s Z _ _ _ _ T95 (mkF m 226 #[.val (.int p0), .val (.int p1), .val (.int p2), .val (.int p3), .val (.int p4), .val (.int (4 : Int32)), .val (.ref a1), .val (.ref a56), .val (.int (0 : Int32)), .val (.ref d92), .val (.int (3 : Int32))] [(.int ((0 : Int32) + (2 : Int32))), (.ref a1), (.int c2)])
            show Fi p e below s Z _ _ _ _ T95 (mkF m 226 #[.val (.int p0), .val (.int p1), .val (.int p2), .val (.int p3), .val (.int p4), .val (.int (4 : Int32)), .val (.ref a1), .val (.ref a56), .val (.int (0 : Int32)), .val (.ref d92), .val (.int (3 : Int32))] [(.int (2 : Int32)), (.ref a1), (.int c2)])
            refine W95.caload me A9 at_226 (by decide) (v := .int c2) rfl ?_
            show Fi p e below s Z _ _ _ _ T95 (mkF m 227 #[.val (.int p0), .val (.int p1), .val (.int p2), .val (.int p3), .val (.int p4), .val (.int (4 : Int32)), .val (.ref a1), .val (.ref a56), .val (.int (0 : Int32)), .val (.ref d92), .val (.int (3 : Int32))] [(.int c2), (.int c2)])
            refine W95.icY_eq me at_227 rfl (pc' := 232) (by decide) (by decide) ?_
            show Fi p e below s Z _ _ _ _ T95 (mkF m 232 #[.val (.int p0), .val (.int p1), .val (.int p2), .val (.int p3), .val (.int p4), .val (.int (4 : Int32)), .val (.ref a1), .val (.ref a56), .val (.int (0 : Int32)), .val (.ref d92), .val (.int (3 : Int32))] [])
            refine W95.iload me at_232 rfl ?_
            refine W95.iconst me at_234 (v := 2) rfl ?_
            show Fi p e below s Z _ _ _ _ T95 (mkF m 235 #[.val (.int p0), .val (.int p1), .val (.int p2), .val (.int p3), .val (.int p4), .val (.int (4 : Int32)), .val (.ref a1), .val (.ref a56), .val (.int (0 : Int32)), .val (.ref d92), .val (.int (3 : Int32))] [(.int (2 : Int32)), (.int (3 : Int32))])
            refine W95.icN_le me at_235 (by decide) ?_
            show Fi p e below s Z _ _ _ _ T95 (mkF m 238 #[.val (.int p0), .val (.int p1), .val (.int p2), .val (.int p3), .val (.int p4), .val (.int (4 : Int32)), .val (.ref a1), .val (.ref a56), .val (.int (0 : Int32)), .val (.ref d92), .val (.int (3 : Int32))] [])
            refine W95.aload me at_238 rfl rfl ?_
            refine W95.iconst me at_240 (v := 2) rfl ?_
            show Fi p e below s Z _ _ _ _ T95 (mkF m 241 #[.val (.int p0), .val (.int p1), .val (.int p2), .val (.int p3), .val (.int p4), .val (.int (4 : Int32)), .val (.ref a1), .val (.ref a56), .val (.int (0 : Int32)), .val (.ref d92), .val (.int (3 : Int32))] [(.int (2 : Int32)), (.ref d92)])
            refine W95.callV me hEL (hw _ (List.mem_of_getElem? (i := 134) rfl)) (hw _ (List.mem_of_getElem? (i := 135) rfl)) (fun hZ' => notFace_of_selects (args := #[]) (mvT (s := s.setVm _) hZ' (hw _ (List.mem_of_getElem? (i := 137) rfl)))) (hw _ (List.mem_of_getElem? (i := 137) rfl)) (hw _ (List.mem_of_getElem? (i := 136) rfl)) (hw _ (List.mem_of_getElem? (i := 11) rfl)) (hw _ (List.mem_of_getElem? (i := 138) rfl)) (a := d92) (argsL := [(.int (2 : Int32))]) (rest := []) M92.exa (c_charat (ss := []) g W95.old (cs := [c1, c2, c3]) (i := 2) M92 (own_le rfl)) at_241 (by decide) (fun _ q => nomatch q) rfl (lenOf pd_22 rfl) (own_le rfl) (own_le rfl) (own_le rfl) (own_le rfl) rfl ?_
            intro T96 h96 v96 W96 z96 q96
            obtain ⟨_, rfl, rfl, rfl⟩ := q96
            show Fi p e below s Z _ _ _ _ T96 (mkF m 244 #[.val (.int p0), .val (.int p1), .val (.int p2), .val (.int p3), .val (.int p4), .val (.int (4 : Int32)), .val (.ref a1), .val (.ref a56), .val (.int (0 : Int32)), .val (.ref d92), .val (.int (3 : Int32))] [(.int c3)])
            refine W96.aload me at_244 rfl rfl ?_
            refine W96.iload me at_246 rfl ?_
            refine W96.iconst me at_248 (v := 3) rfl ?_
            refine W96.iadd me at_249 ?_
            show Fi p e below s Z _ _ _ _ T96 (mkF m 250 #[.val (.int p0), .val (.int p1), .val (.int p2), .val (.int p3), .val (.int p4), .val (.int (4 : Int32)), .val (.ref a1), .val (.ref a56), .val (.int (0 : Int32)), .val (.ref d92), .val (.int (3 : Int32))] [(.int ((0 : Int32) + (3 : Int32))), (.ref a1), (.int c3)])
            show Fi p e below s Z _ _ _ _ T96 (mkF m 250 #[.val (.int p0), .val (.int p1), .val (.int p2), .val (.int p3), .val (.int p4), .val (.int (4 : Int32)), .val (.ref a1), .val (.ref a56), .val (.int (0 : Int32)), .val (.ref d92), .val (.int (3 : Int32))] [(.int (3 : Int32)), (.ref a1), (.int c3)])
            refine W96.caload me A9 at_250 (by decide) (v := .int c3) rfl ?_
            show Fi p e below s Z _ _ _ _ T96 (mkF m 251 #[.val (.int p0), .val (.int p1), .val (.int p2), .val (.int p3), .val (.int p4), .val (.int (4 : Int32)), .val (.ref a1), .val (.ref a56), .val (.int (0 : Int32)), .val (.ref d92), .val (.int (3 : Int32))] [(.int c3), (.int c3)])
            refine W96.icY_eq me at_251 rfl (pc' := 256) (by decide) (by decide) ?_
            show Fi p e below s Z _ _ _ _ T96 (mkF m 256 #[.val (.int p0), .val (.int p1), .val (.int p2), .val (.int p3), .val (.int p4), .val (.int (4 : Int32)), .val (.ref a1), .val (.ref a56), .val (.int (0 : Int32)), .val (.ref d92), .val (.int (3 : Int32))] [])
            refine W96.iconst me at_256 (v := 1) rfl ?_
            show Fi p e below s Z _ _ _ _ T96 (mkF m 257 #[.val (.int p0), .val (.int p1), .val (.int p2), .val (.int p3), .val (.int p4), .val (.int (4 : Int32)), .val (.ref a1), .val (.ref a56), .val (.int (0 : Int32)), .val (.ref d92), .val (.int (3 : Int32))] [(.int (1 : Int32))])
            exact W96.retN hEL me (Or.inl rfl) at_257 rfl (by decide) (by decide)
        ·
          show Fi p e below s Z _ _ _ _ T56 (mkF m 124 #[.val (.int p0), .val (.int p1), .val (.int p2), .val (.int p3), .val (.int p4), .val (.int (4 : Int32)), .val (.ref a1), .val (.ref a56), .val (.int (3 : Int32)), .unset, .unset] [])
          refine W56.iconst me at_124 (v := 1) rfl ?_
          refine W56.istore me at_125 (l' := #[.val (.int p0), .val (.int p1), .val (.int p2), .val (.int p3), .val (.int p4), .val (.int (4 : Int32)), .val (.ref a1), .val (.ref a56), .val (.int (1 : Int32)), .unset, .unset]) rfl ?_
          refine W56.iload me at_127 rfl ?_
          show Fi p e below s Z _ _ _ _ T56 (mkF m 129 #[.val (.int p0), .val (.int p1), .val (.int p2), .val (.int p3), .val (.int p4), .val (.int (4 : Int32)), .val (.ref a1), .val (.ref a56), .val (.int (1 : Int32)), .unset, .unset] [(.int (4 : Int32))])
          refine W56.ifN_le me at_129 (by decide) ?_
          show Fi p e below s Z _ _ _ _ T56 (mkF m 132 #[.val (.int p0), .val (.int p1), .val (.int p2), .val (.int p3), .val (.int p4), .val (.int (4 : Int32)), .val (.ref a1), .val (.ref a56), .val (.int (1 : Int32)), .unset, .unset] [])
          refine W56.aload me at_132 rfl rfl ?_
          refine W56.iconst me at_134 (v := 0) rfl ?_
          show Fi p e below s Z _ _ _ _ T56 (mkF m 135 #[.val (.int p0), .val (.int p1), .val (.int p2), .val (.int p3), .val (.int p4), .val (.int (4 : Int32)), .val (.ref a1), .val (.ref a56), .val (.int (1 : Int32)), .unset, .unset] [(.int (0 : Int32)), (.ref a1)])
          refine W56.caload me A9 at_135 (by decide) (v := .int c0) rfl ?_
          show Fi p e below s Z _ _ _ _ T56 (mkF m 136 #[.val (.int p0), .val (.int p1), .val (.int p2), .val (.int p3), .val (.int p4), .val (.int (4 : Int32)), .val (.ref a1), .val (.ref a56), .val (.int (1 : Int32)), .unset, .unset] [(.int c0)])
          refine W56.bipush me at_136 (v := 35) rfl ?_
          show Fi p e below s Z _ _ _ _ T56 (mkF m 138 #[.val (.int p0), .val (.int p1), .val (.int p2), .val (.int p3), .val (.int p4), .val (.int (4 : Int32)), .val (.ref a1), .val (.ref a56), .val (.int (1 : Int32)), .unset, .unset] [(.int (35 : Int32)), (.int c0)])
          refine W56.ic_ne me at_138 (pc' := 144) (by decide) (by decide) (fun hh0 => ?_) (fun hh0 => ?_)
          ·
            show Fi p e below s Z _ _ _ _ T56 (mkF m 144 #[.val (.int p0), .val (.int p1), .val (.int p2), .val (.int p3), .val (.int p4), .val (.int (4 : Int32)), .val (.ref a1), .val (.ref a56), .val (.int (1 : Int32)), .unset, .unset] [])
            refine W56.aload me at_144 rfl rfl ?_
            show Fi p e below s Z _ _ _ _ T56 (mkF m 146 #[.val (.int p0), .val (.int p1), .val (.int p2), .val (.int p3), .val (.int p4), .val (.int (4 : Int32)), .val (.ref a1), .val (.ref a56), .val (.int (1 : Int32)), .unset, .unset] [(.ref a56)])
            show Fi p e below s Z _ _ _ _ T56 (mkF m 146 #[.val (.int p0), .val (.int p1), .val (.int p2), .val (.int p3), .val (.int p4), .val (.int (4 : Int32)), .val (.ref a1), .val (.ref a56), .val (.int (1 : Int32)), .unset, .unset] [(.ref a56)])
            refine W56.callS me hEL (hw _ (List.mem_of_getElem? (i := 30) rfl)) (hw _ (List.mem_of_getElem? (i := 31) rfl)) (hw _ (List.mem_of_getElem? (i := 32) rfl)) (hw _ (List.mem_of_getElem? (i := 33) rfl)) (argsL := [(.ref a56)]) (rest := []) (c_fr1 (ss := []) g W56.old (cs := [c0, c1, c2, c3]) L56 1 2 (own_le rfl) hh1 (alS al0 hh0) (by decide) rfl) at_146 (by decide) (fun _ q => nomatch q) rfl (lenOf pd_24 rfl) (own_le rfl) (own_le rfl) (own_le rfl) (own_le rfl) rfl ?_
            intro T97 h97 v97 W97 z97 q97
            obtain ⟨_, rfl, E97, d97, rfl, M97⟩ := q97
            show Fi p e below s Z _ _ _ _ T97 (mkF m 149 #[.val (.int p0), .val (.int p1), .val (.int p2), .val (.int p3), .val (.int p4), .val (.int (4 : Int32)), .val (.ref a1), .val (.ref a56), .val (.int (1 : Int32)), .unset, .unset] [(.ref d97)])
            replace A9 := A9.ext E97
            replace L56 := L56.ext E97
            refine W97.astore me at_149 (l' := #[.val (.int p0), .val (.int p1), .val (.int p2), .val (.int p3), .val (.int p4), .val (.int (4 : Int32)), .val (.ref a1), .val (.ref a56), .val (.int (1 : Int32)), .val (.ref d97), .unset]) rfl rfl ?_
            refine W97.iload me at_151 rfl ?_
            refine W97.iload me at_153 rfl ?_
            show Fi p e below s Z _ _ _ _ T97 (mkF m 155 #[.val (.int p0), .val (.int p1), .val (.int p2), .val (.int p3), .val (.int p4), .val (.int (4 : Int32)), .val (.ref a1), .val (.ref a56), .val (.int (1 : Int32)), .val (.ref d97), .unset] [(.int (4 : Int32)), (.int (1 : Int32))])
            refine W97.icY_ne me at_155 (by decide) (pc' := 164) (by decide) (by decide) ?_
            show Fi p e below s Z _ _ _ _ T97 (mkF m 164 #[.val (.int p0), .val (.int p1), .val (.int p2), .val (.int p3), .val (.int p4), .val (.int (4 : Int32)), .val (.ref a1), .val (.ref a56), .val (.int (1 : Int32)), .val (.ref d97), .unset] [])
            refine W97.iload me at_164 rfl ?_
            refine W97.iload me at_166 rfl ?_
            refine W97.isub me at_168 ?_
            refine W97.iconst me at_169 (v := 1) rfl ?_
            refine W97.isub me at_170 ?_
            show Fi p e below s Z _ _ _ _ T97 (mkF m 171 #[.val (.int p0), .val (.int p1), .val (.int p2), .val (.int p3), .val (.int p4), .val (.int (4 : Int32)), .val (.ref a1), .val (.ref a56), .val (.int (1 : Int32)), .val (.ref d97), .unset] [(.int (((4 : Int32) - (1 : Int32)) - (1 : Int32)))])
            show Fi p e below s Z _ _ _ _ T97 (mkF m 171 #[.val (.int p0), .val (.int p1), .val (.int p2), .val (.int p3), .val (.int p4), .val (.int (4 : Int32)), .val (.ref a1), .val (.ref a56), .val (.int (1 : Int32)), .val (.ref d97), .unset] [(.int (2 : Int32))])
            refine W97.istore me at_171 (l' := #[.val (.int p0), .val (.int p1), .val (.int p2), .val (.int p3), .val (.int p4), .val (.int (4 : Int32)), .val (.ref a1), .val (.ref a56), .val (.int (1 : Int32)), .val (.ref d97), .val (.int (2 : Int32))]) rfl ?_
            refine W97.aload me at_173 rfl rfl ?_
            show Fi p e below s Z _ _ _ _ T97 (mkF m 175 #[.val (.int p0), .val (.int p1), .val (.int p2), .val (.int p3), .val (.int p4), .val (.int (4 : Int32)), .val (.ref a1), .val (.ref a56), .val (.int (1 : Int32)), .val (.ref d97), .val (.int (2 : Int32))] [(.ref d97)])
            refine W97.callV me hEL (hw _ (List.mem_of_getElem? (i := 133) rfl)) (hw _ (List.mem_of_getElem? (i := 51) rfl)) (fun hZ' => notFace_of_selects (args := #[]) (mvT (s := s.setVm _) hZ' (hw _ (List.mem_of_getElem? (i := 53) rfl)))) (hw _ (List.mem_of_getElem? (i := 53) rfl)) (hw _ (List.mem_of_getElem? (i := 52) rfl)) (hw _ (List.mem_of_getElem? (i := 11) rfl)) (hw _ (List.mem_of_getElem? (i := 54) rfl)) (a := d97) (argsL := []) (rest := []) M97.exa (c_length (ss := []) g W97.old (cs := [c2, c3]) M97) at_175 (by decide) (fun _ q => nomatch q) rfl (lenOf pd_12 rfl) (own_le rfl) (own_le rfl) (own_le rfl) (own_le rfl) rfl ?_
            intro T98 h98 v98 W98 z98 q98
            obtain ⟨_, rfl, rfl, rfl⟩ := q98
            show Fi p e below s Z _ _ _ _ T98 (mkF m 178 #[.val (.int p0), .val (.int p1), .val (.int p2), .val (.int p3), .val (.int p4), .val (.int (4 : Int32)), .val (.ref a1), .val (.ref a56), .val (.int (1 : Int32)), .val (.ref d97), .val (.int (2 : Int32))] [(.int (2 : Int32))])
            refine W98.iload me at_178 rfl ?_
            show Fi p e below s Z _ _ _ _ T98 (mkF m 180 #[.val (.int p0), .val (.int p1), .val (.int p2), .val (.int p3), .val (.int p4), .val (.int (4 : Int32)), .val (.ref a1), .val (.ref a56), .val (.int (1 : Int32)), .val (.ref d97), .val (.int (2 : Int32))] [(.int (2 : Int32)), (.int (2 : Int32))])
            refine W98.icY_eq me at_180 (by decide) (pc' := 185) (by decide) (by decide) ?_
            show Fi p e below s Z _ _ _ _ T98 (mkF m 185 #[.val (.int p0), .val (.int p1), .val (.int p2), .val (.int p3), .val (.int p4), .val (.int (4 : Int32)), .val (.ref a1), .val (.ref a56), .val (.int (1 : Int32)), .val (.ref d97), .val (.int (2 : Int32))] [])
            refine W98.iload me at_185 rfl ?_
            show Fi p e below s Z _ _ _ _ T98 (mkF m 187 #[.val (.int p0), .val (.int p1), .val (.int p2), .val (.int p3), .val (.int p4), .val (.int (4 : Int32)), .val (.ref a1), .val (.ref a56), .val (.int (1 : Int32)), .val (.ref d97), .val (.int (2 : Int32))] [(.int (2 : Int32))])
            refine W98.ifN_le me at_187 (by decide) ?_
            show Fi p e below s Z _ _ _ _ T98 (mkF m 190 #[.val (.int p0), .val (.int p1), .val (.int p2), .val (.int p3), .val (.int p4), .val (.int (4 : Int32)), .val (.ref a1), .val (.ref a56), .val (.int (1 : Int32)), .val (.ref d97), .val (.int (2 : Int32))] [])
            refine W98.aload me at_190 rfl rfl ?_
            refine W98.iconst me at_192 (v := 0) rfl ?_
            show Fi p e below s Z _ _ _ _ T98 (mkF m 193 #[.val (.int p0), .val (.int p1), .val (.int p2), .val (.int p3), .val (.int p4), .val (.int (4 : Int32)), .val (.ref a1), .val (.ref a56), .val (.int (1 : Int32)), .val (.ref d97), .val (.int (2 : Int32))] [(.int (0 : Int32)), (.ref d97)])
            refine W98.callV me hEL (hw _ (List.mem_of_getElem? (i := 134) rfl)) (hw _ (List.mem_of_getElem? (i := 135) rfl)) (fun hZ' => notFace_of_selects (args := #[]) (mvT (s := s.setVm _) hZ' (hw _ (List.mem_of_getElem? (i := 137) rfl)))) (hw _ (List.mem_of_getElem? (i := 137) rfl)) (hw _ (List.mem_of_getElem? (i := 136) rfl)) (hw _ (List.mem_of_getElem? (i := 11) rfl)) (hw _ (List.mem_of_getElem? (i := 138) rfl)) (a := d97) (argsL := [(.int (0 : Int32))]) (rest := []) M97.exa (c_charat (ss := []) g W98.old (cs := [c2, c3]) (i := 0) M97 (own_le rfl)) at_193 (by decide) (fun _ q => nomatch q) rfl (lenOf pd_22 rfl) (own_le rfl) (own_le rfl) (own_le rfl) (own_le rfl) rfl ?_
            intro T99 h99 v99 W99 z99 q99
            obtain ⟨_, rfl, rfl, rfl⟩ := q99
            show Fi p e below s Z _ _ _ _ T99 (mkF m 196 #[.val (.int p0), .val (.int p1), .val (.int p2), .val (.int p3), .val (.int p4), .val (.int (4 : Int32)), .val (.ref a1), .val (.ref a56), .val (.int (1 : Int32)), .val (.ref d97), .val (.int (2 : Int32))] [(.int c2)])
            refine W99.aload me at_196 rfl rfl ?_
            refine W99.iload me at_198 rfl ?_
            refine W99.iconst me at_200 (v := 1) rfl ?_
            refine W99.iadd me at_201 ?_
            show Fi p e below s Z _ _ _ _ T99 (mkF m 202 #[.val (.int p0), .val (.int p1), .val (.int p2), .val (.int p3), .val (.int p4), .val (.int (4 : Int32)), .val (.ref a1), .val (.ref a56), .val (.int (1 : Int32)), .val (.ref d97), .val (.int (2 : Int32))] [(.int ((1 : Int32) + (1 : Int32))), (.ref a1), (.int c2)])
            show Fi p e below s Z _ _ _ _ T99 (mkF m 202 #[.val (.int p0), .val (.int p1), .val (.int p2), .val (.int p3), .val (.int p4), .val (.int (4 : Int32)), .val (.ref a1), .val (.ref a56), .val (.int (1 : Int32)), .val (.ref d97), .val (.int (2 : Int32))] [(.int (2 : Int32)), (.ref a1), (.int c2)])
            refine W99.caload me A9 at_202 (by decide) (v := .int c2) rfl ?_
            show Fi p e below s Z _ _ _ _ T99 (mkF m 203 #[.val (.int p0), .val (.int p1), .val (.int p2), .val (.int p3), .val (.int p4), .val (.int (4 : Int32)), .val (.ref a1), .val (.ref a56), .val (.int (1 : Int32)), .val (.ref d97), .val (.int (2 : Int32))] [(.int c2), (.int c2)])
            refine W99.icY_eq me at_203 rfl (pc' := 208) (by decide) (by decide) ?_
            show Fi p e below s Z _ _ _ _ T99 (mkF m 208 #[.val (.int p0), .val (.int p1), .val (.int p2), .val (.int p3), .val (.int p4), .val (.int (4 : Int32)), .val (.ref a1), .val (.ref a56), .val (.int (1 : Int32)), .val (.ref d97), .val (.int (2 : Int32))] [])
            refine W99.iload me at_208 rfl ?_
            refine W99.iconst me at_210 (v := 1) rfl ?_
            show Fi p e below s Z _ _ _ _ T99 (mkF m 211 #[.val (.int p0), .val (.int p1), .val (.int p2), .val (.int p3), .val (.int p4), .val (.int (4 : Int32)), .val (.ref a1), .val (.ref a56), .val (.int (1 : Int32)), .val (.ref d97), .val (.int (2 : Int32))] [(.int (1 : Int32)), (.int (2 : Int32))])
            refine W99.icN_le me at_211 (by decide) ?_
            show Fi p e below s Z _ _ _ _ T99 (mkF m 214 #[.val (.int p0), .val (.int p1), .val (.int p2), .val (.int p3), .val (.int p4), .val (.int (4 : Int32)), .val (.ref a1), .val (.ref a56), .val (.int (1 : Int32)), .val (.ref d97), .val (.int (2 : Int32))] [])
            refine W99.aload me at_214 rfl rfl ?_
            refine W99.iconst me at_216 (v := 1) rfl ?_
            show Fi p e below s Z _ _ _ _ T99 (mkF m 217 #[.val (.int p0), .val (.int p1), .val (.int p2), .val (.int p3), .val (.int p4), .val (.int (4 : Int32)), .val (.ref a1), .val (.ref a56), .val (.int (1 : Int32)), .val (.ref d97), .val (.int (2 : Int32))] [(.int (1 : Int32)), (.ref d97)])
            refine W99.callV me hEL (hw _ (List.mem_of_getElem? (i := 134) rfl)) (hw _ (List.mem_of_getElem? (i := 135) rfl)) (fun hZ' => notFace_of_selects (args := #[]) (mvT (s := s.setVm _) hZ' (hw _ (List.mem_of_getElem? (i := 137) rfl)))) (hw _ (List.mem_of_getElem? (i := 137) rfl)) (hw _ (List.mem_of_getElem? (i := 136) rfl)) (hw _ (List.mem_of_getElem? (i := 11) rfl)) (hw _ (List.mem_of_getElem? (i := 138) rfl)) (a := d97) (argsL := [(.int (1 : Int32))]) (rest := []) M97.exa (c_charat (ss := []) g W99.old (cs := [c2, c3]) (i := 1) M97 (own_le rfl)) at_217 (by decide) (fun _ q => nomatch q) rfl (lenOf pd_22 rfl) (own_le rfl) (own_le rfl) (own_le rfl) (own_le rfl) rfl ?_
            intro T100 h100 v100 W100 z100 q100
            obtain ⟨_, rfl, rfl, rfl⟩ := q100
            show Fi p e below s Z _ _ _ _ T100 (mkF m 220 #[.val (.int p0), .val (.int p1), .val (.int p2), .val (.int p3), .val (.int p4), .val (.int (4 : Int32)), .val (.ref a1), .val (.ref a56), .val (.int (1 : Int32)), .val (.ref d97), .val (.int (2 : Int32))] [(.int c3)])
            refine W100.aload me at_220 rfl rfl ?_
            refine W100.iload me at_222 rfl ?_
            refine W100.iconst me at_224 (v := 2) rfl ?_
            refine W100.iadd me at_225 ?_
            show Fi p e below s Z _ _ _ _ T100 (mkF m 226 #[.val (.int p0), .val (.int p1), .val (.int p2), .val (.int p3), .val (.int p4), .val (.int (4 : Int32)), .val (.ref a1), .val (.ref a56), .val (.int (1 : Int32)), .val (.ref d97), .val (.int (2 : Int32))] [(.int ((1 : Int32) + (2 : Int32))), (.ref a1), (.int c3)])
            show Fi p e below s Z _ _ _ _ T100 (mkF m 226 #[.val (.int p0), .val (.int p1), .val (.int p2), .val (.int p3), .val (.int p4), .val (.int (4 : Int32)), .val (.ref a1), .val (.ref a56), .val (.int (1 : Int32)), .val (.ref d97), .val (.int (2 : Int32))] [(.int (3 : Int32)), (.ref a1), (.int c3)])
            refine W100.caload me A9 at_226 (by decide) (v := .int c3) rfl ?_
            show Fi p e below s Z _ _ _ _ T100 (mkF m 227 #[.val (.int p0), .val (.int p1), .val (.int p2), .val (.int p3), .val (.int p4), .val (.int (4 : Int32)), .val (.ref a1), .val (.ref a56), .val (.int (1 : Int32)), .val (.ref d97), .val (.int (2 : Int32))] [(.int c3), (.int c3)])
            refine W100.icY_eq me at_227 rfl (pc' := 232) (by decide) (by decide) ?_
            show Fi p e below s Z _ _ _ _ T100 (mkF m 232 #[.val (.int p0), .val (.int p1), .val (.int p2), .val (.int p3), .val (.int p4), .val (.int (4 : Int32)), .val (.ref a1), .val (.ref a56), .val (.int (1 : Int32)), .val (.ref d97), .val (.int (2 : Int32))] [])
            refine W100.iload me at_232 rfl ?_
            refine W100.iconst me at_234 (v := 2) rfl ?_
            show Fi p e below s Z _ _ _ _ T100 (mkF m 235 #[.val (.int p0), .val (.int p1), .val (.int p2), .val (.int p3), .val (.int p4), .val (.int (4 : Int32)), .val (.ref a1), .val (.ref a56), .val (.int (1 : Int32)), .val (.ref d97), .val (.int (2 : Int32))] [(.int (2 : Int32)), (.int (2 : Int32))])
            refine W100.icY_le me at_235 (by decide) (pc' := 256) (by decide) (by decide) ?_
            show Fi p e below s Z _ _ _ _ T100 (mkF m 256 #[.val (.int p0), .val (.int p1), .val (.int p2), .val (.int p3), .val (.int p4), .val (.int (4 : Int32)), .val (.ref a1), .val (.ref a56), .val (.int (1 : Int32)), .val (.ref d97), .val (.int (2 : Int32))] [])
            refine W100.iconst me at_256 (v := 1) rfl ?_
            show Fi p e below s Z _ _ _ _ T100 (mkF m 257 #[.val (.int p0), .val (.int p1), .val (.int p2), .val (.int p3), .val (.int p4), .val (.int (4 : Int32)), .val (.ref a1), .val (.ref a56), .val (.int (1 : Int32)), .val (.ref d97), .val (.int (2 : Int32))] [(.int (1 : Int32))])
            exact W100.retN hEL me (Or.inl rfl) at_257 rfl (by decide) (by decide)
          ·
            show Fi p e below s Z _ _ _ _ T56 (mkF m 141 #[.val (.int p0), .val (.int p1), .val (.int p2), .val (.int p3), .val (.int p4), .val (.int (4 : Int32)), .val (.ref a1), .val (.ref a56), .val (.int (1 : Int32)), .unset, .unset] [])
            refine W56.iconst me at_141 (v := 0) rfl ?_
            refine W56.istore me at_142 (l' := #[.val (.int p0), .val (.int p1), .val (.int p2), .val (.int p3), .val (.int p4), .val (.int (4 : Int32)), .val (.ref a1), .val (.ref a56), .val (.int (0 : Int32)), .unset, .unset]) rfl ?_
            refine W56.aload me at_144 rfl rfl ?_
            show Fi p e below s Z _ _ _ _ T56 (mkF m 146 #[.val (.int p0), .val (.int p1), .val (.int p2), .val (.int p3), .val (.int p4), .val (.int (4 : Int32)), .val (.ref a1), .val (.ref a56), .val (.int (0 : Int32)), .unset, .unset] [(.ref a56)])
            show Fi p e below s Z _ _ _ _ T56 (mkF m 146 #[.val (.int p0), .val (.int p1), .val (.int p2), .val (.int p3), .val (.int p4), .val (.int (4 : Int32)), .val (.ref a1), .val (.ref a56), .val (.int (0 : Int32)), .unset, .unset] [(.ref a56)])
            refine W56.callS me hEL (hw _ (List.mem_of_getElem? (i := 30) rfl)) (hw _ (List.mem_of_getElem? (i := 31) rfl)) (hw _ (List.mem_of_getElem? (i := 32) rfl)) (hw _ (List.mem_of_getElem? (i := 33) rfl)) (argsL := [(.ref a56)]) (rest := []) (c_fr1 (ss := []) g W56.old (cs := [c0, c1, c2, c3]) L56 0 3 (own_le rfl) hh0 al0 (by decide) rfl) at_146 (by decide) (fun _ q => nomatch q) rfl (lenOf pd_24 rfl) (own_le rfl) (own_le rfl) (own_le rfl) (own_le rfl) rfl ?_
            intro T101 h101 v101 W101 z101 q101
            obtain ⟨_, rfl, E101, d101, rfl, M101⟩ := q101
            show Fi p e below s Z _ _ _ _ T101 (mkF m 149 #[.val (.int p0), .val (.int p1), .val (.int p2), .val (.int p3), .val (.int p4), .val (.int (4 : Int32)), .val (.ref a1), .val (.ref a56), .val (.int (0 : Int32)), .unset, .unset] [(.ref d101)])
            replace A9 := A9.ext E101
            replace L56 := L56.ext E101
            refine W101.astore me at_149 (l' := #[.val (.int p0), .val (.int p1), .val (.int p2), .val (.int p3), .val (.int p4), .val (.int (4 : Int32)), .val (.ref a1), .val (.ref a56), .val (.int (0 : Int32)), .val (.ref d101), .unset]) rfl rfl ?_
            refine W101.iload me at_151 rfl ?_
            refine W101.iload me at_153 rfl ?_
            show Fi p e below s Z _ _ _ _ T101 (mkF m 155 #[.val (.int p0), .val (.int p1), .val (.int p2), .val (.int p3), .val (.int p4), .val (.int (4 : Int32)), .val (.ref a1), .val (.ref a56), .val (.int (0 : Int32)), .val (.ref d101), .unset] [(.int (4 : Int32)), (.int (0 : Int32))])
            refine W101.icY_ne me at_155 (by decide) (pc' := 164) (by decide) (by decide) ?_
            show Fi p e below s Z _ _ _ _ T101 (mkF m 164 #[.val (.int p0), .val (.int p1), .val (.int p2), .val (.int p3), .val (.int p4), .val (.int (4 : Int32)), .val (.ref a1), .val (.ref a56), .val (.int (0 : Int32)), .val (.ref d101), .unset] [])
            refine W101.iload me at_164 rfl ?_
            refine W101.iload me at_166 rfl ?_
            refine W101.isub me at_168 ?_
            refine W101.iconst me at_169 (v := 1) rfl ?_
            refine W101.isub me at_170 ?_
            show Fi p e below s Z _ _ _ _ T101 (mkF m 171 #[.val (.int p0), .val (.int p1), .val (.int p2), .val (.int p3), .val (.int p4), .val (.int (4 : Int32)), .val (.ref a1), .val (.ref a56), .val (.int (0 : Int32)), .val (.ref d101), .unset] [(.int (((4 : Int32) - (0 : Int32)) - (1 : Int32)))])
            show Fi p e below s Z _ _ _ _ T101 (mkF m 171 #[.val (.int p0), .val (.int p1), .val (.int p2), .val (.int p3), .val (.int p4), .val (.int (4 : Int32)), .val (.ref a1), .val (.ref a56), .val (.int (0 : Int32)), .val (.ref d101), .unset] [(.int (3 : Int32))])
            refine W101.istore me at_171 (l' := #[.val (.int p0), .val (.int p1), .val (.int p2), .val (.int p3), .val (.int p4), .val (.int (4 : Int32)), .val (.ref a1), .val (.ref a56), .val (.int (0 : Int32)), .val (.ref d101), .val (.int (3 : Int32))]) rfl ?_
            refine W101.aload me at_173 rfl rfl ?_
            show Fi p e below s Z _ _ _ _ T101 (mkF m 175 #[.val (.int p0), .val (.int p1), .val (.int p2), .val (.int p3), .val (.int p4), .val (.int (4 : Int32)), .val (.ref a1), .val (.ref a56), .val (.int (0 : Int32)), .val (.ref d101), .val (.int (3 : Int32))] [(.ref d101)])
            refine W101.callV me hEL (hw _ (List.mem_of_getElem? (i := 133) rfl)) (hw _ (List.mem_of_getElem? (i := 51) rfl)) (fun hZ' => notFace_of_selects (args := #[]) (mvT (s := s.setVm _) hZ' (hw _ (List.mem_of_getElem? (i := 53) rfl)))) (hw _ (List.mem_of_getElem? (i := 53) rfl)) (hw _ (List.mem_of_getElem? (i := 52) rfl)) (hw _ (List.mem_of_getElem? (i := 11) rfl)) (hw _ (List.mem_of_getElem? (i := 54) rfl)) (a := d101) (argsL := []) (rest := []) M101.exa (c_length (ss := []) g W101.old (cs := [c1, c2, c3]) M101) at_175 (by decide) (fun _ q => nomatch q) rfl (lenOf pd_12 rfl) (own_le rfl) (own_le rfl) (own_le rfl) (own_le rfl) rfl ?_
            intro T102 h102 v102 W102 z102 q102
            obtain ⟨_, rfl, rfl, rfl⟩ := q102
            show Fi p e below s Z _ _ _ _ T102 (mkF m 178 #[.val (.int p0), .val (.int p1), .val (.int p2), .val (.int p3), .val (.int p4), .val (.int (4 : Int32)), .val (.ref a1), .val (.ref a56), .val (.int (0 : Int32)), .val (.ref d101), .val (.int (3 : Int32))] [(.int (3 : Int32))])
            refine W102.iload me at_178 rfl ?_
            show Fi p e below s Z _ _ _ _ T102 (mkF m 180 #[.val (.int p0), .val (.int p1), .val (.int p2), .val (.int p3), .val (.int p4), .val (.int (4 : Int32)), .val (.ref a1), .val (.ref a56), .val (.int (0 : Int32)), .val (.ref d101), .val (.int (3 : Int32))] [(.int (3 : Int32)), (.int (3 : Int32))])
            refine W102.icY_eq me at_180 (by decide) (pc' := 185) (by decide) (by decide) ?_
            show Fi p e below s Z _ _ _ _ T102 (mkF m 185 #[.val (.int p0), .val (.int p1), .val (.int p2), .val (.int p3), .val (.int p4), .val (.int (4 : Int32)), .val (.ref a1), .val (.ref a56), .val (.int (0 : Int32)), .val (.ref d101), .val (.int (3 : Int32))] [])
            refine W102.iload me at_185 rfl ?_
            show Fi p e below s Z _ _ _ _ T102 (mkF m 187 #[.val (.int p0), .val (.int p1), .val (.int p2), .val (.int p3), .val (.int p4), .val (.int (4 : Int32)), .val (.ref a1), .val (.ref a56), .val (.int (0 : Int32)), .val (.ref d101), .val (.int (3 : Int32))] [(.int (3 : Int32))])
            refine W102.ifN_le me at_187 (by decide) ?_
            show Fi p e below s Z _ _ _ _ T102 (mkF m 190 #[.val (.int p0), .val (.int p1), .val (.int p2), .val (.int p3), .val (.int p4), .val (.int (4 : Int32)), .val (.ref a1), .val (.ref a56), .val (.int (0 : Int32)), .val (.ref d101), .val (.int (3 : Int32))] [])
            refine W102.aload me at_190 rfl rfl ?_
            refine W102.iconst me at_192 (v := 0) rfl ?_
            show Fi p e below s Z _ _ _ _ T102 (mkF m 193 #[.val (.int p0), .val (.int p1), .val (.int p2), .val (.int p3), .val (.int p4), .val (.int (4 : Int32)), .val (.ref a1), .val (.ref a56), .val (.int (0 : Int32)), .val (.ref d101), .val (.int (3 : Int32))] [(.int (0 : Int32)), (.ref d101)])
            refine W102.callV me hEL (hw _ (List.mem_of_getElem? (i := 134) rfl)) (hw _ (List.mem_of_getElem? (i := 135) rfl)) (fun hZ' => notFace_of_selects (args := #[]) (mvT (s := s.setVm _) hZ' (hw _ (List.mem_of_getElem? (i := 137) rfl)))) (hw _ (List.mem_of_getElem? (i := 137) rfl)) (hw _ (List.mem_of_getElem? (i := 136) rfl)) (hw _ (List.mem_of_getElem? (i := 11) rfl)) (hw _ (List.mem_of_getElem? (i := 138) rfl)) (a := d101) (argsL := [(.int (0 : Int32))]) (rest := []) M101.exa (c_charat (ss := []) g W102.old (cs := [c1, c2, c3]) (i := 0) M101 (own_le rfl)) at_193 (by decide) (fun _ q => nomatch q) rfl (lenOf pd_22 rfl) (own_le rfl) (own_le rfl) (own_le rfl) (own_le rfl) rfl ?_
            intro T103 h103 v103 W103 z103 q103
            obtain ⟨_, rfl, rfl, rfl⟩ := q103
            show Fi p e below s Z _ _ _ _ T103 (mkF m 196 #[.val (.int p0), .val (.int p1), .val (.int p2), .val (.int p3), .val (.int p4), .val (.int (4 : Int32)), .val (.ref a1), .val (.ref a56), .val (.int (0 : Int32)), .val (.ref d101), .val (.int (3 : Int32))] [(.int c1)])
            refine W103.aload me at_196 rfl rfl ?_
            refine W103.iload me at_198 rfl ?_
            refine W103.iconst me at_200 (v := 1) rfl ?_
            refine W103.iadd me at_201 ?_
            show Fi p e below s Z _ _ _ _ T103 (mkF m 202 #[.val (.int p0), .val (.int p1), .val (.int p2), .val (.int p3), .val (.int p4), .val (.int (4 : Int32)), .val (.ref a1), .val (.ref a56), .val (.int (0 : Int32)), .val (.ref d101), .val (.int (3 : Int32))] [(.int ((0 : Int32) + (1 : Int32))), (.ref a1), (.int c1)])
            show Fi p e below s Z _ _ _ _ T103 (mkF m 202 #[.val (.int p0), .val (.int p1), .val (.int p2), .val (.int p3), .val (.int p4), .val (.int (4 : Int32)), .val (.ref a1), .val (.ref a56), .val (.int (0 : Int32)), .val (.ref d101), .val (.int (3 : Int32))] [(.int (1 : Int32)), (.ref a1), (.int c1)])
            refine W103.caload me A9 at_202 (by decide) (v := .int c1) rfl ?_
            show Fi p e below s Z _ _ _ _ T103 (mkF m 203 #[.val (.int p0), .val (.int p1), .val (.int p2), .val (.int p3), .val (.int p4), .val (.int (4 : Int32)), .val (.ref a1), .val (.ref a56), .val (.int (0 : Int32)), .val (.ref d101), .val (.int (3 : Int32))] [(.int c1), (.int c1)])
            refine W103.icY_eq me at_203 rfl (pc' := 208) (by decide) (by decide) ?_
            show Fi p e below s Z _ _ _ _ T103 (mkF m 208 #[.val (.int p0), .val (.int p1), .val (.int p2), .val (.int p3), .val (.int p4), .val (.int (4 : Int32)), .val (.ref a1), .val (.ref a56), .val (.int (0 : Int32)), .val (.ref d101), .val (.int (3 : Int32))] [])
            refine W103.iload me at_208 rfl ?_
            refine W103.iconst me at_210 (v := 1) rfl ?_
            show Fi p e below s Z _ _ _ _ T103 (mkF m 211 #[.val (.int p0), .val (.int p1), .val (.int p2), .val (.int p3), .val (.int p4), .val (.int (4 : Int32)), .val (.ref a1), .val (.ref a56), .val (.int (0 : Int32)), .val (.ref d101), .val (.int (3 : Int32))] [(.int (1 : Int32)), (.int (3 : Int32))])
            refine W103.icN_le me at_211 (by decide) ?_
            show Fi p e below s Z _ _ _ _ T103 (mkF m 214 #[.val (.int p0), .val (.int p1), .val (.int p2), .val (.int p3), .val (.int p4), .val (.int (4 : Int32)), .val (.ref a1), .val (.ref a56), .val (.int (0 : Int32)), .val (.ref d101), .val (.int (3 : Int32))] [])
            refine W103.aload me at_214 rfl rfl ?_
            refine W103.iconst me at_216 (v := 1) rfl ?_
            show Fi p e below s Z _ _ _ _ T103 (mkF m 217 #[.val (.int p0), .val (.int p1), .val (.int p2), .val (.int p3), .val (.int p4), .val (.int (4 : Int32)), .val (.ref a1), .val (.ref a56), .val (.int (0 : Int32)), .val (.ref d101), .val (.int (3 : Int32))] [(.int (1 : Int32)), (.ref d101)])
            refine W103.callV me hEL (hw _ (List.mem_of_getElem? (i := 134) rfl)) (hw _ (List.mem_of_getElem? (i := 135) rfl)) (fun hZ' => notFace_of_selects (args := #[]) (mvT (s := s.setVm _) hZ' (hw _ (List.mem_of_getElem? (i := 137) rfl)))) (hw _ (List.mem_of_getElem? (i := 137) rfl)) (hw _ (List.mem_of_getElem? (i := 136) rfl)) (hw _ (List.mem_of_getElem? (i := 11) rfl)) (hw _ (List.mem_of_getElem? (i := 138) rfl)) (a := d101) (argsL := [(.int (1 : Int32))]) (rest := []) M101.exa (c_charat (ss := []) g W103.old (cs := [c1, c2, c3]) (i := 1) M101 (own_le rfl)) at_217 (by decide) (fun _ q => nomatch q) rfl (lenOf pd_22 rfl) (own_le rfl) (own_le rfl) (own_le rfl) (own_le rfl) rfl ?_
            intro T104 h104 v104 W104 z104 q104
            obtain ⟨_, rfl, rfl, rfl⟩ := q104
            show Fi p e below s Z _ _ _ _ T104 (mkF m 220 #[.val (.int p0), .val (.int p1), .val (.int p2), .val (.int p3), .val (.int p4), .val (.int (4 : Int32)), .val (.ref a1), .val (.ref a56), .val (.int (0 : Int32)), .val (.ref d101), .val (.int (3 : Int32))] [(.int c2)])
            refine W104.aload me at_220 rfl rfl ?_
            refine W104.iload me at_222 rfl ?_
            refine W104.iconst me at_224 (v := 2) rfl ?_
            refine W104.iadd me at_225 ?_
            show Fi p e below s Z _ _ _ _ T104 (mkF m 226 #[.val (.int p0), .val (.int p1), .val (.int p2), .val (.int p3), .val (.int p4), .val (.int (4 : Int32)), .val (.ref a1), .val (.ref a56), .val (.int (0 : Int32)), .val (.ref d101), .val (.int (3 : Int32))] [(.int ((0 : Int32) + (2 : Int32))), (.ref a1), (.int c2)])
            show Fi p e below s Z _ _ _ _ T104 (mkF m 226 #[.val (.int p0), .val (.int p1), .val (.int p2), .val (.int p3), .val (.int p4), .val (.int (4 : Int32)), .val (.ref a1), .val (.ref a56), .val (.int (0 : Int32)), .val (.ref d101), .val (.int (3 : Int32))] [(.int (2 : Int32)), (.ref a1), (.int c2)])
            refine W104.caload me A9 at_226 (by decide) (v := .int c2) rfl ?_
            show Fi p e below s Z _ _ _ _ T104 (mkF m 227 #[.val (.int p0), .val (.int p1), .val (.int p2), .val (.int p3), .val (.int p4), .val (.int (4 : Int32)), .val (.ref a1), .val (.ref a56), .val (.int (0 : Int32)), .val (.ref d101), .val (.int (3 : Int32))] [(.int c2), (.int c2)])
            refine W104.icY_eq me at_227 rfl (pc' := 232) (by decide) (by decide) ?_
            show Fi p e below s Z _ _ _ _ T104 (mkF m 232 #[.val (.int p0), .val (.int p1), .val (.int p2), .val (.int p3), .val (.int p4), .val (.int (4 : Int32)), .val (.ref a1), .val (.ref a56), .val (.int (0 : Int32)), .val (.ref d101), .val (.int (3 : Int32))] [])
            refine W104.iload me at_232 rfl ?_
            refine W104.iconst me at_234 (v := 2) rfl ?_
            show Fi p e below s Z _ _ _ _ T104 (mkF m 235 #[.val (.int p0), .val (.int p1), .val (.int p2), .val (.int p3), .val (.int p4), .val (.int (4 : Int32)), .val (.ref a1), .val (.ref a56), .val (.int (0 : Int32)), .val (.ref d101), .val (.int (3 : Int32))] [(.int (2 : Int32)), (.int (3 : Int32))])
            refine W104.icN_le me at_235 (by decide) ?_
            show Fi p e below s Z _ _ _ _ T104 (mkF m 238 #[.val (.int p0), .val (.int p1), .val (.int p2), .val (.int p3), .val (.int p4), .val (.int (4 : Int32)), .val (.ref a1), .val (.ref a56), .val (.int (0 : Int32)), .val (.ref d101), .val (.int (3 : Int32))] [])
            refine W104.aload me at_238 rfl rfl ?_
            refine W104.iconst me at_240 (v := 2) rfl ?_
            show Fi p e below s Z _ _ _ _ T104 (mkF m 241 #[.val (.int p0), .val (.int p1), .val (.int p2), .val (.int p3), .val (.int p4), .val (.int (4 : Int32)), .val (.ref a1), .val (.ref a56), .val (.int (0 : Int32)), .val (.ref d101), .val (.int (3 : Int32))] [(.int (2 : Int32)), (.ref d101)])
            refine W104.callV me hEL (hw _ (List.mem_of_getElem? (i := 134) rfl)) (hw _ (List.mem_of_getElem? (i := 135) rfl)) (fun hZ' => notFace_of_selects (args := #[]) (mvT (s := s.setVm _) hZ' (hw _ (List.mem_of_getElem? (i := 137) rfl)))) (hw _ (List.mem_of_getElem? (i := 137) rfl)) (hw _ (List.mem_of_getElem? (i := 136) rfl)) (hw _ (List.mem_of_getElem? (i := 11) rfl)) (hw _ (List.mem_of_getElem? (i := 138) rfl)) (a := d101) (argsL := [(.int (2 : Int32))]) (rest := []) M101.exa (c_charat (ss := []) g W104.old (cs := [c1, c2, c3]) (i := 2) M101 (own_le rfl)) at_241 (by decide) (fun _ q => nomatch q) rfl (lenOf pd_22 rfl) (own_le rfl) (own_le rfl) (own_le rfl) (own_le rfl) rfl ?_
            intro T105 h105 v105 W105 z105 q105
            obtain ⟨_, rfl, rfl, rfl⟩ := q105
            show Fi p e below s Z _ _ _ _ T105 (mkF m 244 #[.val (.int p0), .val (.int p1), .val (.int p2), .val (.int p3), .val (.int p4), .val (.int (4 : Int32)), .val (.ref a1), .val (.ref a56), .val (.int (0 : Int32)), .val (.ref d101), .val (.int (3 : Int32))] [(.int c3)])
            refine W105.aload me at_244 rfl rfl ?_
            refine W105.iload me at_246 rfl ?_
            refine W105.iconst me at_248 (v := 3) rfl ?_
            refine W105.iadd me at_249 ?_
            show Fi p e below s Z _ _ _ _ T105 (mkF m 250 #[.val (.int p0), .val (.int p1), .val (.int p2), .val (.int p3), .val (.int p4), .val (.int (4 : Int32)), .val (.ref a1), .val (.ref a56), .val (.int (0 : Int32)), .val (.ref d101), .val (.int (3 : Int32))] [(.int ((0 : Int32) + (3 : Int32))), (.ref a1), (.int c3)])
            show Fi p e below s Z _ _ _ _ T105 (mkF m 250 #[.val (.int p0), .val (.int p1), .val (.int p2), .val (.int p3), .val (.int p4), .val (.int (4 : Int32)), .val (.ref a1), .val (.ref a56), .val (.int (0 : Int32)), .val (.ref d101), .val (.int (3 : Int32))] [(.int (3 : Int32)), (.ref a1), (.int c3)])
            refine W105.caload me A9 at_250 (by decide) (v := .int c3) rfl ?_
            show Fi p e below s Z _ _ _ _ T105 (mkF m 251 #[.val (.int p0), .val (.int p1), .val (.int p2), .val (.int p3), .val (.int p4), .val (.int (4 : Int32)), .val (.ref a1), .val (.ref a56), .val (.int (0 : Int32)), .val (.ref d101), .val (.int (3 : Int32))] [(.int c3), (.int c3)])
            refine W105.icY_eq me at_251 rfl (pc' := 256) (by decide) (by decide) ?_
            show Fi p e below s Z _ _ _ _ T105 (mkF m 256 #[.val (.int p0), .val (.int p1), .val (.int p2), .val (.int p3), .val (.int p4), .val (.int (4 : Int32)), .val (.ref a1), .val (.ref a56), .val (.int (0 : Int32)), .val (.ref d101), .val (.int (3 : Int32))] [])
            refine W105.iconst me at_256 (v := 1) rfl ?_
            show Fi p e below s Z _ _ _ _ T105 (mkF m 257 #[.val (.int p0), .val (.int p1), .val (.int p2), .val (.int p3), .val (.int p4), .val (.int (4 : Int32)), .val (.ref a1), .val (.ref a56), .val (.int (0 : Int32)), .val (.ref d101), .val (.int (3 : Int32))] [(.int (1 : Int32))])
            exact W105.retN hEL me (Or.inl rfl) at_257 rfl (by decide) (by decide)
      ·
        show Fi p e below s Z _ _ _ _ T56 (mkF m 106 #[.val (.int p0), .val (.int p1), .val (.int p2), .val (.int p3), .val (.int p4), .val (.int (4 : Int32)), .val (.ref a1), .val (.ref a56), .val (.int (3 : Int32)), .unset, .unset] [])
        refine W56.iconst me at_106 (v := 2) rfl ?_
        refine W56.istore me at_107 (l' := #[.val (.int p0), .val (.int p1), .val (.int p2), .val (.int p3), .val (.int p4), .val (.int (4 : Int32)), .val (.ref a1), .val (.ref a56), .val (.int (2 : Int32)), .unset, .unset]) rfl ?_
        refine W56.iload me at_109 rfl ?_
        refine W56.iconst me at_111 (v := 1) rfl ?_
        show Fi p e below s Z _ _ _ _ T56 (mkF m 112 #[.val (.int p0), .val (.int p1), .val (.int p2), .val (.int p3), .val (.int p4), .val (.int (4 : Int32)), .val (.ref a1), .val (.ref a56), .val (.int (2 : Int32)), .unset, .unset] [(.int (1 : Int32)), (.int (4 : Int32))])
        refine W56.icN_le me at_112 (by decide) ?_
        show Fi p e below s Z _ _ _ _ T56 (mkF m 115 #[.val (.int p0), .val (.int p1), .val (.int p2), .val (.int p3), .val (.int p4), .val (.int (4 : Int32)), .val (.ref a1), .val (.ref a56), .val (.int (2 : Int32)), .unset, .unset] [])
        refine W56.aload me at_115 rfl rfl ?_
        refine W56.iconst me at_117 (v := 1) rfl ?_
        show Fi p e below s Z _ _ _ _ T56 (mkF m 118 #[.val (.int p0), .val (.int p1), .val (.int p2), .val (.int p3), .val (.int p4), .val (.int (4 : Int32)), .val (.ref a1), .val (.ref a56), .val (.int (2 : Int32)), .unset, .unset] [(.int (1 : Int32)), (.ref a1)])
        refine W56.caload me A9 at_118 (by decide) (v := .int c1) rfl ?_
        show Fi p e below s Z _ _ _ _ T56 (mkF m 119 #[.val (.int p0), .val (.int p1), .val (.int p2), .val (.int p3), .val (.int p4), .val (.int (4 : Int32)), .val (.ref a1), .val (.ref a56), .val (.int (2 : Int32)), .unset, .unset] [(.int c1)])
        refine W56.bipush me at_119 (v := 35) rfl ?_
        show Fi p e below s Z _ _ _ _ T56 (mkF m 121 #[.val (.int p0), .val (.int p1), .val (.int p2), .val (.int p3), .val (.int p4), .val (.int (4 : Int32)), .val (.ref a1), .val (.ref a56), .val (.int (2 : Int32)), .unset, .unset] [(.int (35 : Int32)), (.int c1)])
        refine W56.ic_ne me at_121 (pc' := 127) (by decide) (by decide) (fun hh1 => ?_) (fun hh1 => ?_)
        ·
          show Fi p e below s Z _ _ _ _ T56 (mkF m 127 #[.val (.int p0), .val (.int p1), .val (.int p2), .val (.int p3), .val (.int p4), .val (.int (4 : Int32)), .val (.ref a1), .val (.ref a56), .val (.int (2 : Int32)), .unset, .unset] [])
          refine W56.iload me at_127 rfl ?_
          show Fi p e below s Z _ _ _ _ T56 (mkF m 129 #[.val (.int p0), .val (.int p1), .val (.int p2), .val (.int p3), .val (.int p4), .val (.int (4 : Int32)), .val (.ref a1), .val (.ref a56), .val (.int (2 : Int32)), .unset, .unset] [(.int (4 : Int32))])
          refine W56.ifN_le me at_129 (by decide) ?_
          show Fi p e below s Z _ _ _ _ T56 (mkF m 132 #[.val (.int p0), .val (.int p1), .val (.int p2), .val (.int p3), .val (.int p4), .val (.int (4 : Int32)), .val (.ref a1), .val (.ref a56), .val (.int (2 : Int32)), .unset, .unset] [])
          refine W56.aload me at_132 rfl rfl ?_
          refine W56.iconst me at_134 (v := 0) rfl ?_
          show Fi p e below s Z _ _ _ _ T56 (mkF m 135 #[.val (.int p0), .val (.int p1), .val (.int p2), .val (.int p3), .val (.int p4), .val (.int (4 : Int32)), .val (.ref a1), .val (.ref a56), .val (.int (2 : Int32)), .unset, .unset] [(.int (0 : Int32)), (.ref a1)])
          refine W56.caload me A9 at_135 (by decide) (v := .int c0) rfl ?_
          show Fi p e below s Z _ _ _ _ T56 (mkF m 136 #[.val (.int p0), .val (.int p1), .val (.int p2), .val (.int p3), .val (.int p4), .val (.int (4 : Int32)), .val (.ref a1), .val (.ref a56), .val (.int (2 : Int32)), .unset, .unset] [(.int c0)])
          refine W56.bipush me at_136 (v := 35) rfl ?_
          show Fi p e below s Z _ _ _ _ T56 (mkF m 138 #[.val (.int p0), .val (.int p1), .val (.int p2), .val (.int p3), .val (.int p4), .val (.int (4 : Int32)), .val (.ref a1), .val (.ref a56), .val (.int (2 : Int32)), .unset, .unset] [(.int (35 : Int32)), (.int c0)])
          refine W56.ic_ne me at_138 (pc' := 144) (by decide) (by decide) (fun hh0 => ?_) (fun hh0 => ?_)
          ·
            show Fi p e below s Z _ _ _ _ T56 (mkF m 144 #[.val (.int p0), .val (.int p1), .val (.int p2), .val (.int p3), .val (.int p4), .val (.int (4 : Int32)), .val (.ref a1), .val (.ref a56), .val (.int (2 : Int32)), .unset, .unset] [])
            refine W56.aload me at_144 rfl rfl ?_
            show Fi p e below s Z _ _ _ _ T56 (mkF m 146 #[.val (.int p0), .val (.int p1), .val (.int p2), .val (.int p3), .val (.int p4), .val (.int (4 : Int32)), .val (.ref a1), .val (.ref a56), .val (.int (2 : Int32)), .unset, .unset] [(.ref a56)])
            show Fi p e below s Z _ _ _ _ T56 (mkF m 146 #[.val (.int p0), .val (.int p1), .val (.int p2), .val (.int p3), .val (.int p4), .val (.int (4 : Int32)), .val (.ref a1), .val (.ref a56), .val (.int (2 : Int32)), .unset, .unset] [(.ref a56)])
            refine W56.callS me hEL (hw _ (List.mem_of_getElem? (i := 30) rfl)) (hw _ (List.mem_of_getElem? (i := 31) rfl)) (hw _ (List.mem_of_getElem? (i := 32) rfl)) (hw _ (List.mem_of_getElem? (i := 33) rfl)) (argsL := [(.ref a56)]) (rest := []) (c_fr1 (ss := []) g W56.old (cs := [c0, c1, c2, c3]) L56 2 1 (own_le rfl) hh2 (alS (alS al0 hh0) hh1) (by decide) rfl) at_146 (by decide) (fun _ q => nomatch q) rfl (lenOf pd_24 rfl) (own_le rfl) (own_le rfl) (own_le rfl) (own_le rfl) rfl ?_
            intro T106 h106 v106 W106 z106 q106
            obtain ⟨_, rfl, E106, d106, rfl, M106⟩ := q106
            show Fi p e below s Z _ _ _ _ T106 (mkF m 149 #[.val (.int p0), .val (.int p1), .val (.int p2), .val (.int p3), .val (.int p4), .val (.int (4 : Int32)), .val (.ref a1), .val (.ref a56), .val (.int (2 : Int32)), .unset, .unset] [(.ref d106)])
            replace A9 := A9.ext E106
            replace L56 := L56.ext E106
            refine W106.astore me at_149 (l' := #[.val (.int p0), .val (.int p1), .val (.int p2), .val (.int p3), .val (.int p4), .val (.int (4 : Int32)), .val (.ref a1), .val (.ref a56), .val (.int (2 : Int32)), .val (.ref d106), .unset]) rfl rfl ?_
            refine W106.iload me at_151 rfl ?_
            refine W106.iload me at_153 rfl ?_
            show Fi p e below s Z _ _ _ _ T106 (mkF m 155 #[.val (.int p0), .val (.int p1), .val (.int p2), .val (.int p3), .val (.int p4), .val (.int (4 : Int32)), .val (.ref a1), .val (.ref a56), .val (.int (2 : Int32)), .val (.ref d106), .unset] [(.int (4 : Int32)), (.int (2 : Int32))])
            refine W106.icY_ne me at_155 (by decide) (pc' := 164) (by decide) (by decide) ?_
            show Fi p e below s Z _ _ _ _ T106 (mkF m 164 #[.val (.int p0), .val (.int p1), .val (.int p2), .val (.int p3), .val (.int p4), .val (.int (4 : Int32)), .val (.ref a1), .val (.ref a56), .val (.int (2 : Int32)), .val (.ref d106), .unset] [])
            refine W106.iload me at_164 rfl ?_
            refine W106.iload me at_166 rfl ?_
            refine W106.isub me at_168 ?_
            refine W106.iconst me at_169 (v := 1) rfl ?_
            refine W106.isub me at_170 ?_
            show Fi p e below s Z _ _ _ _ T106 (mkF m 171 #[.val (.int p0), .val (.int p1), .val (.int p2), .val (.int p3), .val (.int p4), .val (.int (4 : Int32)), .val (.ref a1), .val (.ref a56), .val (.int (2 : Int32)), .val (.ref d106), .unset] [(.int (((4 : Int32) - (2 : Int32)) - (1 : Int32)))])
            show Fi p e below s Z _ _ _ _ T106 (mkF m 171 #[.val (.int p0), .val (.int p1), .val (.int p2), .val (.int p3), .val (.int p4), .val (.int (4 : Int32)), .val (.ref a1), .val (.ref a56), .val (.int (2 : Int32)), .val (.ref d106), .unset] [(.int (1 : Int32))])
            refine W106.istore me at_171 (l' := #[.val (.int p0), .val (.int p1), .val (.int p2), .val (.int p3), .val (.int p4), .val (.int (4 : Int32)), .val (.ref a1), .val (.ref a56), .val (.int (2 : Int32)), .val (.ref d106), .val (.int (1 : Int32))]) rfl ?_
            refine W106.aload me at_173 rfl rfl ?_
            show Fi p e below s Z _ _ _ _ T106 (mkF m 175 #[.val (.int p0), .val (.int p1), .val (.int p2), .val (.int p3), .val (.int p4), .val (.int (4 : Int32)), .val (.ref a1), .val (.ref a56), .val (.int (2 : Int32)), .val (.ref d106), .val (.int (1 : Int32))] [(.ref d106)])
            refine W106.callV me hEL (hw _ (List.mem_of_getElem? (i := 133) rfl)) (hw _ (List.mem_of_getElem? (i := 51) rfl)) (fun hZ' => notFace_of_selects (args := #[]) (mvT (s := s.setVm _) hZ' (hw _ (List.mem_of_getElem? (i := 53) rfl)))) (hw _ (List.mem_of_getElem? (i := 53) rfl)) (hw _ (List.mem_of_getElem? (i := 52) rfl)) (hw _ (List.mem_of_getElem? (i := 11) rfl)) (hw _ (List.mem_of_getElem? (i := 54) rfl)) (a := d106) (argsL := []) (rest := []) M106.exa (c_length (ss := []) g W106.old (cs := [c3]) M106) at_175 (by decide) (fun _ q => nomatch q) rfl (lenOf pd_12 rfl) (own_le rfl) (own_le rfl) (own_le rfl) (own_le rfl) rfl ?_
            intro T107 h107 v107 W107 z107 q107
            obtain ⟨_, rfl, rfl, rfl⟩ := q107
            show Fi p e below s Z _ _ _ _ T107 (mkF m 178 #[.val (.int p0), .val (.int p1), .val (.int p2), .val (.int p3), .val (.int p4), .val (.int (4 : Int32)), .val (.ref a1), .val (.ref a56), .val (.int (2 : Int32)), .val (.ref d106), .val (.int (1 : Int32))] [(.int (1 : Int32))])
            refine W107.iload me at_178 rfl ?_
            show Fi p e below s Z _ _ _ _ T107 (mkF m 180 #[.val (.int p0), .val (.int p1), .val (.int p2), .val (.int p3), .val (.int p4), .val (.int (4 : Int32)), .val (.ref a1), .val (.ref a56), .val (.int (2 : Int32)), .val (.ref d106), .val (.int (1 : Int32))] [(.int (1 : Int32)), (.int (1 : Int32))])
            refine W107.icY_eq me at_180 (by decide) (pc' := 185) (by decide) (by decide) ?_
            show Fi p e below s Z _ _ _ _ T107 (mkF m 185 #[.val (.int p0), .val (.int p1), .val (.int p2), .val (.int p3), .val (.int p4), .val (.int (4 : Int32)), .val (.ref a1), .val (.ref a56), .val (.int (2 : Int32)), .val (.ref d106), .val (.int (1 : Int32))] [])
            refine W107.iload me at_185 rfl ?_
            show Fi p e below s Z _ _ _ _ T107 (mkF m 187 #[.val (.int p0), .val (.int p1), .val (.int p2), .val (.int p3), .val (.int p4), .val (.int (4 : Int32)), .val (.ref a1), .val (.ref a56), .val (.int (2 : Int32)), .val (.ref d106), .val (.int (1 : Int32))] [(.int (1 : Int32))])
            refine W107.ifN_le me at_187 (by decide) ?_
            show Fi p e below s Z _ _ _ _ T107 (mkF m 190 #[.val (.int p0), .val (.int p1), .val (.int p2), .val (.int p3), .val (.int p4), .val (.int (4 : Int32)), .val (.ref a1), .val (.ref a56), .val (.int (2 : Int32)), .val (.ref d106), .val (.int (1 : Int32))] [])
            refine W107.aload me at_190 rfl rfl ?_
            refine W107.iconst me at_192 (v := 0) rfl ?_
            show Fi p e below s Z _ _ _ _ T107 (mkF m 193 #[.val (.int p0), .val (.int p1), .val (.int p2), .val (.int p3), .val (.int p4), .val (.int (4 : Int32)), .val (.ref a1), .val (.ref a56), .val (.int (2 : Int32)), .val (.ref d106), .val (.int (1 : Int32))] [(.int (0 : Int32)), (.ref d106)])
            refine W107.callV me hEL (hw _ (List.mem_of_getElem? (i := 134) rfl)) (hw _ (List.mem_of_getElem? (i := 135) rfl)) (fun hZ' => notFace_of_selects (args := #[]) (mvT (s := s.setVm _) hZ' (hw _ (List.mem_of_getElem? (i := 137) rfl)))) (hw _ (List.mem_of_getElem? (i := 137) rfl)) (hw _ (List.mem_of_getElem? (i := 136) rfl)) (hw _ (List.mem_of_getElem? (i := 11) rfl)) (hw _ (List.mem_of_getElem? (i := 138) rfl)) (a := d106) (argsL := [(.int (0 : Int32))]) (rest := []) M106.exa (c_charat (ss := []) g W107.old (cs := [c3]) (i := 0) M106 (own_le rfl)) at_193 (by decide) (fun _ q => nomatch q) rfl (lenOf pd_22 rfl) (own_le rfl) (own_le rfl) (own_le rfl) (own_le rfl) rfl ?_
            intro T108 h108 v108 W108 z108 q108
            obtain ⟨_, rfl, rfl, rfl⟩ := q108
            show Fi p e below s Z _ _ _ _ T108 (mkF m 196 #[.val (.int p0), .val (.int p1), .val (.int p2), .val (.int p3), .val (.int p4), .val (.int (4 : Int32)), .val (.ref a1), .val (.ref a56), .val (.int (2 : Int32)), .val (.ref d106), .val (.int (1 : Int32))] [(.int c3)])
            refine W108.aload me at_196 rfl rfl ?_
            refine W108.iload me at_198 rfl ?_
            refine W108.iconst me at_200 (v := 1) rfl ?_
            refine W108.iadd me at_201 ?_
            show Fi p e below s Z _ _ _ _ T108 (mkF m 202 #[.val (.int p0), .val (.int p1), .val (.int p2), .val (.int p3), .val (.int p4), .val (.int (4 : Int32)), .val (.ref a1), .val (.ref a56), .val (.int (2 : Int32)), .val (.ref d106), .val (.int (1 : Int32))] [(.int ((2 : Int32) + (1 : Int32))), (.ref a1), (.int c3)])
            show Fi p e below s Z _ _ _ _ T108 (mkF m 202 #[.val (.int p0), .val (.int p1), .val (.int p2), .val (.int p3), .val (.int p4), .val (.int (4 : Int32)), .val (.ref a1), .val (.ref a56), .val (.int (2 : Int32)), .val (.ref d106), .val (.int (1 : Int32))] [(.int (3 : Int32)), (.ref a1), (.int c3)])
            refine W108.caload me A9 at_202 (by decide) (v := .int c3) rfl ?_
            show Fi p e below s Z _ _ _ _ T108 (mkF m 203 #[.val (.int p0), .val (.int p1), .val (.int p2), .val (.int p3), .val (.int p4), .val (.int (4 : Int32)), .val (.ref a1), .val (.ref a56), .val (.int (2 : Int32)), .val (.ref d106), .val (.int (1 : Int32))] [(.int c3), (.int c3)])
            refine W108.icY_eq me at_203 rfl (pc' := 208) (by decide) (by decide) ?_
            show Fi p e below s Z _ _ _ _ T108 (mkF m 208 #[.val (.int p0), .val (.int p1), .val (.int p2), .val (.int p3), .val (.int p4), .val (.int (4 : Int32)), .val (.ref a1), .val (.ref a56), .val (.int (2 : Int32)), .val (.ref d106), .val (.int (1 : Int32))] [])
            refine W108.iload me at_208 rfl ?_
            refine W108.iconst me at_210 (v := 1) rfl ?_
            show Fi p e below s Z _ _ _ _ T108 (mkF m 211 #[.val (.int p0), .val (.int p1), .val (.int p2), .val (.int p3), .val (.int p4), .val (.int (4 : Int32)), .val (.ref a1), .val (.ref a56), .val (.int (2 : Int32)), .val (.ref d106), .val (.int (1 : Int32))] [(.int (1 : Int32)), (.int (1 : Int32))])
            refine W108.icY_le me at_211 (by decide) (pc' := 232) (by decide) (by decide) ?_
            show Fi p e below s Z _ _ _ _ T108 (mkF m 232 #[.val (.int p0), .val (.int p1), .val (.int p2), .val (.int p3), .val (.int p4), .val (.int (4 : Int32)), .val (.ref a1), .val (.ref a56), .val (.int (2 : Int32)), .val (.ref d106), .val (.int (1 : Int32))] [])
            refine W108.iload me at_232 rfl ?_
            refine W108.iconst me at_234 (v := 2) rfl ?_
            show Fi p e below s Z _ _ _ _ T108 (mkF m 235 #[.val (.int p0), .val (.int p1), .val (.int p2), .val (.int p3), .val (.int p4), .val (.int (4 : Int32)), .val (.ref a1), .val (.ref a56), .val (.int (2 : Int32)), .val (.ref d106), .val (.int (1 : Int32))] [(.int (2 : Int32)), (.int (1 : Int32))])
            refine W108.icY_le me at_235 (by decide) (pc' := 256) (by decide) (by decide) ?_
            show Fi p e below s Z _ _ _ _ T108 (mkF m 256 #[.val (.int p0), .val (.int p1), .val (.int p2), .val (.int p3), .val (.int p4), .val (.int (4 : Int32)), .val (.ref a1), .val (.ref a56), .val (.int (2 : Int32)), .val (.ref d106), .val (.int (1 : Int32))] [])
            refine W108.iconst me at_256 (v := 1) rfl ?_
            show Fi p e below s Z _ _ _ _ T108 (mkF m 257 #[.val (.int p0), .val (.int p1), .val (.int p2), .val (.int p3), .val (.int p4), .val (.int (4 : Int32)), .val (.ref a1), .val (.ref a56), .val (.int (2 : Int32)), .val (.ref d106), .val (.int (1 : Int32))] [(.int (1 : Int32))])
            exact W108.retN hEL me (Or.inl rfl) at_257 rfl (by decide) (by decide)
          ·
            show Fi p e below s Z _ _ _ _ T56 (mkF m 141 #[.val (.int p0), .val (.int p1), .val (.int p2), .val (.int p3), .val (.int p4), .val (.int (4 : Int32)), .val (.ref a1), .val (.ref a56), .val (.int (2 : Int32)), .unset, .unset] [])
            refine W56.iconst me at_141 (v := 0) rfl ?_
            refine W56.istore me at_142 (l' := #[.val (.int p0), .val (.int p1), .val (.int p2), .val (.int p3), .val (.int p4), .val (.int (4 : Int32)), .val (.ref a1), .val (.ref a56), .val (.int (0 : Int32)), .unset, .unset]) rfl ?_
            refine W56.aload me at_144 rfl rfl ?_
            show Fi p e below s Z _ _ _ _ T56 (mkF m 146 #[.val (.int p0), .val (.int p1), .val (.int p2), .val (.int p3), .val (.int p4), .val (.int (4 : Int32)), .val (.ref a1), .val (.ref a56), .val (.int (0 : Int32)), .unset, .unset] [(.ref a56)])
            show Fi p e below s Z _ _ _ _ T56 (mkF m 146 #[.val (.int p0), .val (.int p1), .val (.int p2), .val (.int p3), .val (.int p4), .val (.int (4 : Int32)), .val (.ref a1), .val (.ref a56), .val (.int (0 : Int32)), .unset, .unset] [(.ref a56)])
            refine W56.callS me hEL (hw _ (List.mem_of_getElem? (i := 30) rfl)) (hw _ (List.mem_of_getElem? (i := 31) rfl)) (hw _ (List.mem_of_getElem? (i := 32) rfl)) (hw _ (List.mem_of_getElem? (i := 33) rfl)) (argsL := [(.ref a56)]) (rest := []) (c_fr1 (ss := []) g W56.old (cs := [c0, c1, c2, c3]) L56 0 3 (own_le rfl) hh0 al0 (by decide) rfl) at_146 (by decide) (fun _ q => nomatch q) rfl (lenOf pd_24 rfl) (own_le rfl) (own_le rfl) (own_le rfl) (own_le rfl) rfl ?_
            intro T109 h109 v109 W109 z109 q109
            obtain ⟨_, rfl, E109, d109, rfl, M109⟩ := q109
            show Fi p e below s Z _ _ _ _ T109 (mkF m 149 #[.val (.int p0), .val (.int p1), .val (.int p2), .val (.int p3), .val (.int p4), .val (.int (4 : Int32)), .val (.ref a1), .val (.ref a56), .val (.int (0 : Int32)), .unset, .unset] [(.ref d109)])
            replace A9 := A9.ext E109
            replace L56 := L56.ext E109
            refine W109.astore me at_149 (l' := #[.val (.int p0), .val (.int p1), .val (.int p2), .val (.int p3), .val (.int p4), .val (.int (4 : Int32)), .val (.ref a1), .val (.ref a56), .val (.int (0 : Int32)), .val (.ref d109), .unset]) rfl rfl ?_
            refine W109.iload me at_151 rfl ?_
            refine W109.iload me at_153 rfl ?_
            show Fi p e below s Z _ _ _ _ T109 (mkF m 155 #[.val (.int p0), .val (.int p1), .val (.int p2), .val (.int p3), .val (.int p4), .val (.int (4 : Int32)), .val (.ref a1), .val (.ref a56), .val (.int (0 : Int32)), .val (.ref d109), .unset] [(.int (4 : Int32)), (.int (0 : Int32))])
            refine W109.icY_ne me at_155 (by decide) (pc' := 164) (by decide) (by decide) ?_
            show Fi p e below s Z _ _ _ _ T109 (mkF m 164 #[.val (.int p0), .val (.int p1), .val (.int p2), .val (.int p3), .val (.int p4), .val (.int (4 : Int32)), .val (.ref a1), .val (.ref a56), .val (.int (0 : Int32)), .val (.ref d109), .unset] [])
            refine W109.iload me at_164 rfl ?_
            refine W109.iload me at_166 rfl ?_
            refine W109.isub me at_168 ?_
            refine W109.iconst me at_169 (v := 1) rfl ?_
            refine W109.isub me at_170 ?_
            show Fi p e below s Z _ _ _ _ T109 (mkF m 171 #[.val (.int p0), .val (.int p1), .val (.int p2), .val (.int p3), .val (.int p4), .val (.int (4 : Int32)), .val (.ref a1), .val (.ref a56), .val (.int (0 : Int32)), .val (.ref d109), .unset] [(.int (((4 : Int32) - (0 : Int32)) - (1 : Int32)))])
            show Fi p e below s Z _ _ _ _ T109 (mkF m 171 #[.val (.int p0), .val (.int p1), .val (.int p2), .val (.int p3), .val (.int p4), .val (.int (4 : Int32)), .val (.ref a1), .val (.ref a56), .val (.int (0 : Int32)), .val (.ref d109), .unset] [(.int (3 : Int32))])
            refine W109.istore me at_171 (l' := #[.val (.int p0), .val (.int p1), .val (.int p2), .val (.int p3), .val (.int p4), .val (.int (4 : Int32)), .val (.ref a1), .val (.ref a56), .val (.int (0 : Int32)), .val (.ref d109), .val (.int (3 : Int32))]) rfl ?_
            refine W109.aload me at_173 rfl rfl ?_
            show Fi p e below s Z _ _ _ _ T109 (mkF m 175 #[.val (.int p0), .val (.int p1), .val (.int p2), .val (.int p3), .val (.int p4), .val (.int (4 : Int32)), .val (.ref a1), .val (.ref a56), .val (.int (0 : Int32)), .val (.ref d109), .val (.int (3 : Int32))] [(.ref d109)])
            refine W109.callV me hEL (hw _ (List.mem_of_getElem? (i := 133) rfl)) (hw _ (List.mem_of_getElem? (i := 51) rfl)) (fun hZ' => notFace_of_selects (args := #[]) (mvT (s := s.setVm _) hZ' (hw _ (List.mem_of_getElem? (i := 53) rfl)))) (hw _ (List.mem_of_getElem? (i := 53) rfl)) (hw _ (List.mem_of_getElem? (i := 52) rfl)) (hw _ (List.mem_of_getElem? (i := 11) rfl)) (hw _ (List.mem_of_getElem? (i := 54) rfl)) (a := d109) (argsL := []) (rest := []) M109.exa (c_length (ss := []) g W109.old (cs := [c1, c2, c3]) M109) at_175 (by decide) (fun _ q => nomatch q) rfl (lenOf pd_12 rfl) (own_le rfl) (own_le rfl) (own_le rfl) (own_le rfl) rfl ?_
            intro T110 h110 v110 W110 z110 q110
            obtain ⟨_, rfl, rfl, rfl⟩ := q110
            show Fi p e below s Z _ _ _ _ T110 (mkF m 178 #[.val (.int p0), .val (.int p1), .val (.int p2), .val (.int p3), .val (.int p4), .val (.int (4 : Int32)), .val (.ref a1), .val (.ref a56), .val (.int (0 : Int32)), .val (.ref d109), .val (.int (3 : Int32))] [(.int (3 : Int32))])
            refine W110.iload me at_178 rfl ?_
            show Fi p e below s Z _ _ _ _ T110 (mkF m 180 #[.val (.int p0), .val (.int p1), .val (.int p2), .val (.int p3), .val (.int p4), .val (.int (4 : Int32)), .val (.ref a1), .val (.ref a56), .val (.int (0 : Int32)), .val (.ref d109), .val (.int (3 : Int32))] [(.int (3 : Int32)), (.int (3 : Int32))])
            refine W110.icY_eq me at_180 (by decide) (pc' := 185) (by decide) (by decide) ?_
            show Fi p e below s Z _ _ _ _ T110 (mkF m 185 #[.val (.int p0), .val (.int p1), .val (.int p2), .val (.int p3), .val (.int p4), .val (.int (4 : Int32)), .val (.ref a1), .val (.ref a56), .val (.int (0 : Int32)), .val (.ref d109), .val (.int (3 : Int32))] [])
            refine W110.iload me at_185 rfl ?_
            show Fi p e below s Z _ _ _ _ T110 (mkF m 187 #[.val (.int p0), .val (.int p1), .val (.int p2), .val (.int p3), .val (.int p4), .val (.int (4 : Int32)), .val (.ref a1), .val (.ref a56), .val (.int (0 : Int32)), .val (.ref d109), .val (.int (3 : Int32))] [(.int (3 : Int32))])
            refine W110.ifN_le me at_187 (by decide) ?_
            show Fi p e below s Z _ _ _ _ T110 (mkF m 190 #[.val (.int p0), .val (.int p1), .val (.int p2), .val (.int p3), .val (.int p4), .val (.int (4 : Int32)), .val (.ref a1), .val (.ref a56), .val (.int (0 : Int32)), .val (.ref d109), .val (.int (3 : Int32))] [])
            refine W110.aload me at_190 rfl rfl ?_
            refine W110.iconst me at_192 (v := 0) rfl ?_
            show Fi p e below s Z _ _ _ _ T110 (mkF m 193 #[.val (.int p0), .val (.int p1), .val (.int p2), .val (.int p3), .val (.int p4), .val (.int (4 : Int32)), .val (.ref a1), .val (.ref a56), .val (.int (0 : Int32)), .val (.ref d109), .val (.int (3 : Int32))] [(.int (0 : Int32)), (.ref d109)])
            refine W110.callV me hEL (hw _ (List.mem_of_getElem? (i := 134) rfl)) (hw _ (List.mem_of_getElem? (i := 135) rfl)) (fun hZ' => notFace_of_selects (args := #[]) (mvT (s := s.setVm _) hZ' (hw _ (List.mem_of_getElem? (i := 137) rfl)))) (hw _ (List.mem_of_getElem? (i := 137) rfl)) (hw _ (List.mem_of_getElem? (i := 136) rfl)) (hw _ (List.mem_of_getElem? (i := 11) rfl)) (hw _ (List.mem_of_getElem? (i := 138) rfl)) (a := d109) (argsL := [(.int (0 : Int32))]) (rest := []) M109.exa (c_charat (ss := []) g W110.old (cs := [c1, c2, c3]) (i := 0) M109 (own_le rfl)) at_193 (by decide) (fun _ q => nomatch q) rfl (lenOf pd_22 rfl) (own_le rfl) (own_le rfl) (own_le rfl) (own_le rfl) rfl ?_
            intro T111 h111 v111 W111 z111 q111
            obtain ⟨_, rfl, rfl, rfl⟩ := q111
            show Fi p e below s Z _ _ _ _ T111 (mkF m 196 #[.val (.int p0), .val (.int p1), .val (.int p2), .val (.int p3), .val (.int p4), .val (.int (4 : Int32)), .val (.ref a1), .val (.ref a56), .val (.int (0 : Int32)), .val (.ref d109), .val (.int (3 : Int32))] [(.int c1)])
            refine W111.aload me at_196 rfl rfl ?_
            refine W111.iload me at_198 rfl ?_
            refine W111.iconst me at_200 (v := 1) rfl ?_
            refine W111.iadd me at_201 ?_
            show Fi p e below s Z _ _ _ _ T111 (mkF m 202 #[.val (.int p0), .val (.int p1), .val (.int p2), .val (.int p3), .val (.int p4), .val (.int (4 : Int32)), .val (.ref a1), .val (.ref a56), .val (.int (0 : Int32)), .val (.ref d109), .val (.int (3 : Int32))] [(.int ((0 : Int32) + (1 : Int32))), (.ref a1), (.int c1)])
            show Fi p e below s Z _ _ _ _ T111 (mkF m 202 #[.val (.int p0), .val (.int p1), .val (.int p2), .val (.int p3), .val (.int p4), .val (.int (4 : Int32)), .val (.ref a1), .val (.ref a56), .val (.int (0 : Int32)), .val (.ref d109), .val (.int (3 : Int32))] [(.int (1 : Int32)), (.ref a1), (.int c1)])
            refine W111.caload me A9 at_202 (by decide) (v := .int c1) rfl ?_
            show Fi p e below s Z _ _ _ _ T111 (mkF m 203 #[.val (.int p0), .val (.int p1), .val (.int p2), .val (.int p3), .val (.int p4), .val (.int (4 : Int32)), .val (.ref a1), .val (.ref a56), .val (.int (0 : Int32)), .val (.ref d109), .val (.int (3 : Int32))] [(.int c1), (.int c1)])
            refine W111.icY_eq me at_203 rfl (pc' := 208) (by decide) (by decide) ?_
            show Fi p e below s Z _ _ _ _ T111 (mkF m 208 #[.val (.int p0), .val (.int p1), .val (.int p2), .val (.int p3), .val (.int p4), .val (.int (4 : Int32)), .val (.ref a1), .val (.ref a56), .val (.int (0 : Int32)), .val (.ref d109), .val (.int (3 : Int32))] [])
            refine W111.iload me at_208 rfl ?_
            refine W111.iconst me at_210 (v := 1) rfl ?_
            show Fi p e below s Z _ _ _ _ T111 (mkF m 211 #[.val (.int p0), .val (.int p1), .val (.int p2), .val (.int p3), .val (.int p4), .val (.int (4 : Int32)), .val (.ref a1), .val (.ref a56), .val (.int (0 : Int32)), .val (.ref d109), .val (.int (3 : Int32))] [(.int (1 : Int32)), (.int (3 : Int32))])
            refine W111.icN_le me at_211 (by decide) ?_
            show Fi p e below s Z _ _ _ _ T111 (mkF m 214 #[.val (.int p0), .val (.int p1), .val (.int p2), .val (.int p3), .val (.int p4), .val (.int (4 : Int32)), .val (.ref a1), .val (.ref a56), .val (.int (0 : Int32)), .val (.ref d109), .val (.int (3 : Int32))] [])
            refine W111.aload me at_214 rfl rfl ?_
            refine W111.iconst me at_216 (v := 1) rfl ?_
            show Fi p e below s Z _ _ _ _ T111 (mkF m 217 #[.val (.int p0), .val (.int p1), .val (.int p2), .val (.int p3), .val (.int p4), .val (.int (4 : Int32)), .val (.ref a1), .val (.ref a56), .val (.int (0 : Int32)), .val (.ref d109), .val (.int (3 : Int32))] [(.int (1 : Int32)), (.ref d109)])
            refine W111.callV me hEL (hw _ (List.mem_of_getElem? (i := 134) rfl)) (hw _ (List.mem_of_getElem? (i := 135) rfl)) (fun hZ' => notFace_of_selects (args := #[]) (mvT (s := s.setVm _) hZ' (hw _ (List.mem_of_getElem? (i := 137) rfl)))) (hw _ (List.mem_of_getElem? (i := 137) rfl)) (hw _ (List.mem_of_getElem? (i := 136) rfl)) (hw _ (List.mem_of_getElem? (i := 11) rfl)) (hw _ (List.mem_of_getElem? (i := 138) rfl)) (a := d109) (argsL := [(.int (1 : Int32))]) (rest := []) M109.exa (c_charat (ss := []) g W111.old (cs := [c1, c2, c3]) (i := 1) M109 (own_le rfl)) at_217 (by decide) (fun _ q => nomatch q) rfl (lenOf pd_22 rfl) (own_le rfl) (own_le rfl) (own_le rfl) (own_le rfl) rfl ?_
            intro T112 h112 v112 W112 z112 q112
            obtain ⟨_, rfl, rfl, rfl⟩ := q112
            show Fi p e below s Z _ _ _ _ T112 (mkF m 220 #[.val (.int p0), .val (.int p1), .val (.int p2), .val (.int p3), .val (.int p4), .val (.int (4 : Int32)), .val (.ref a1), .val (.ref a56), .val (.int (0 : Int32)), .val (.ref d109), .val (.int (3 : Int32))] [(.int c2)])
            refine W112.aload me at_220 rfl rfl ?_
            refine W112.iload me at_222 rfl ?_
            refine W112.iconst me at_224 (v := 2) rfl ?_
            refine W112.iadd me at_225 ?_
            show Fi p e below s Z _ _ _ _ T112 (mkF m 226 #[.val (.int p0), .val (.int p1), .val (.int p2), .val (.int p3), .val (.int p4), .val (.int (4 : Int32)), .val (.ref a1), .val (.ref a56), .val (.int (0 : Int32)), .val (.ref d109), .val (.int (3 : Int32))] [(.int ((0 : Int32) + (2 : Int32))), (.ref a1), (.int c2)])
            show Fi p e below s Z _ _ _ _ T112 (mkF m 226 #[.val (.int p0), .val (.int p1), .val (.int p2), .val (.int p3), .val (.int p4), .val (.int (4 : Int32)), .val (.ref a1), .val (.ref a56), .val (.int (0 : Int32)), .val (.ref d109), .val (.int (3 : Int32))] [(.int (2 : Int32)), (.ref a1), (.int c2)])
            refine W112.caload me A9 at_226 (by decide) (v := .int c2) rfl ?_
            show Fi p e below s Z _ _ _ _ T112 (mkF m 227 #[.val (.int p0), .val (.int p1), .val (.int p2), .val (.int p3), .val (.int p4), .val (.int (4 : Int32)), .val (.ref a1), .val (.ref a56), .val (.int (0 : Int32)), .val (.ref d109), .val (.int (3 : Int32))] [(.int c2), (.int c2)])
            refine W112.icY_eq me at_227 rfl (pc' := 232) (by decide) (by decide) ?_
            show Fi p e below s Z _ _ _ _ T112 (mkF m 232 #[.val (.int p0), .val (.int p1), .val (.int p2), .val (.int p3), .val (.int p4), .val (.int (4 : Int32)), .val (.ref a1), .val (.ref a56), .val (.int (0 : Int32)), .val (.ref d109), .val (.int (3 : Int32))] [])
            refine W112.iload me at_232 rfl ?_
            refine W112.iconst me at_234 (v := 2) rfl ?_
            show Fi p e below s Z _ _ _ _ T112 (mkF m 235 #[.val (.int p0), .val (.int p1), .val (.int p2), .val (.int p3), .val (.int p4), .val (.int (4 : Int32)), .val (.ref a1), .val (.ref a56), .val (.int (0 : Int32)), .val (.ref d109), .val (.int (3 : Int32))] [(.int (2 : Int32)), (.int (3 : Int32))])
            refine W112.icN_le me at_235 (by decide) ?_
            show Fi p e below s Z _ _ _ _ T112 (mkF m 238 #[.val (.int p0), .val (.int p1), .val (.int p2), .val (.int p3), .val (.int p4), .val (.int (4 : Int32)), .val (.ref a1), .val (.ref a56), .val (.int (0 : Int32)), .val (.ref d109), .val (.int (3 : Int32))] [])
            refine W112.aload me at_238 rfl rfl ?_
            refine W112.iconst me at_240 (v := 2) rfl ?_
            show Fi p e below s Z _ _ _ _ T112 (mkF m 241 #[.val (.int p0), .val (.int p1), .val (.int p2), .val (.int p3), .val (.int p4), .val (.int (4 : Int32)), .val (.ref a1), .val (.ref a56), .val (.int (0 : Int32)), .val (.ref d109), .val (.int (3 : Int32))] [(.int (2 : Int32)), (.ref d109)])
            refine W112.callV me hEL (hw _ (List.mem_of_getElem? (i := 134) rfl)) (hw _ (List.mem_of_getElem? (i := 135) rfl)) (fun hZ' => notFace_of_selects (args := #[]) (mvT (s := s.setVm _) hZ' (hw _ (List.mem_of_getElem? (i := 137) rfl)))) (hw _ (List.mem_of_getElem? (i := 137) rfl)) (hw _ (List.mem_of_getElem? (i := 136) rfl)) (hw _ (List.mem_of_getElem? (i := 11) rfl)) (hw _ (List.mem_of_getElem? (i := 138) rfl)) (a := d109) (argsL := [(.int (2 : Int32))]) (rest := []) M109.exa (c_charat (ss := []) g W112.old (cs := [c1, c2, c3]) (i := 2) M109 (own_le rfl)) at_241 (by decide) (fun _ q => nomatch q) rfl (lenOf pd_22 rfl) (own_le rfl) (own_le rfl) (own_le rfl) (own_le rfl) rfl ?_
            intro T113 h113 v113 W113 z113 q113
            obtain ⟨_, rfl, rfl, rfl⟩ := q113
            show Fi p e below s Z _ _ _ _ T113 (mkF m 244 #[.val (.int p0), .val (.int p1), .val (.int p2), .val (.int p3), .val (.int p4), .val (.int (4 : Int32)), .val (.ref a1), .val (.ref a56), .val (.int (0 : Int32)), .val (.ref d109), .val (.int (3 : Int32))] [(.int c3)])
            refine W113.aload me at_244 rfl rfl ?_
            refine W113.iload me at_246 rfl ?_
            refine W113.iconst me at_248 (v := 3) rfl ?_
            refine W113.iadd me at_249 ?_
            show Fi p e below s Z _ _ _ _ T113 (mkF m 250 #[.val (.int p0), .val (.int p1), .val (.int p2), .val (.int p3), .val (.int p4), .val (.int (4 : Int32)), .val (.ref a1), .val (.ref a56), .val (.int (0 : Int32)), .val (.ref d109), .val (.int (3 : Int32))] [(.int ((0 : Int32) + (3 : Int32))), (.ref a1), (.int c3)])
            show Fi p e below s Z _ _ _ _ T113 (mkF m 250 #[.val (.int p0), .val (.int p1), .val (.int p2), .val (.int p3), .val (.int p4), .val (.int (4 : Int32)), .val (.ref a1), .val (.ref a56), .val (.int (0 : Int32)), .val (.ref d109), .val (.int (3 : Int32))] [(.int (3 : Int32)), (.ref a1), (.int c3)])
            refine W113.caload me A9 at_250 (by decide) (v := .int c3) rfl ?_
            show Fi p e below s Z _ _ _ _ T113 (mkF m 251 #[.val (.int p0), .val (.int p1), .val (.int p2), .val (.int p3), .val (.int p4), .val (.int (4 : Int32)), .val (.ref a1), .val (.ref a56), .val (.int (0 : Int32)), .val (.ref d109), .val (.int (3 : Int32))] [(.int c3), (.int c3)])
            refine W113.icY_eq me at_251 rfl (pc' := 256) (by decide) (by decide) ?_
            show Fi p e below s Z _ _ _ _ T113 (mkF m 256 #[.val (.int p0), .val (.int p1), .val (.int p2), .val (.int p3), .val (.int p4), .val (.int (4 : Int32)), .val (.ref a1), .val (.ref a56), .val (.int (0 : Int32)), .val (.ref d109), .val (.int (3 : Int32))] [])
            refine W113.iconst me at_256 (v := 1) rfl ?_
            show Fi p e below s Z _ _ _ _ T113 (mkF m 257 #[.val (.int p0), .val (.int p1), .val (.int p2), .val (.int p3), .val (.int p4), .val (.int (4 : Int32)), .val (.ref a1), .val (.ref a56), .val (.int (0 : Int32)), .val (.ref d109), .val (.int (3 : Int32))] [(.int (1 : Int32))])
            exact W113.retN hEL me (Or.inl rfl) at_257 rfl (by decide) (by decide)
        ·
          show Fi p e below s Z _ _ _ _ T56 (mkF m 124 #[.val (.int p0), .val (.int p1), .val (.int p2), .val (.int p3), .val (.int p4), .val (.int (4 : Int32)), .val (.ref a1), .val (.ref a56), .val (.int (2 : Int32)), .unset, .unset] [])
          refine W56.iconst me at_124 (v := 1) rfl ?_
          refine W56.istore me at_125 (l' := #[.val (.int p0), .val (.int p1), .val (.int p2), .val (.int p3), .val (.int p4), .val (.int (4 : Int32)), .val (.ref a1), .val (.ref a56), .val (.int (1 : Int32)), .unset, .unset]) rfl ?_
          refine W56.iload me at_127 rfl ?_
          show Fi p e below s Z _ _ _ _ T56 (mkF m 129 #[.val (.int p0), .val (.int p1), .val (.int p2), .val (.int p3), .val (.int p4), .val (.int (4 : Int32)), .val (.ref a1), .val (.ref a56), .val (.int (1 : Int32)), .unset, .unset] [(.int (4 : Int32))])
          refine W56.ifN_le me at_129 (by decide) ?_
          show Fi p e below s Z _ _ _ _ T56 (mkF m 132 #[.val (.int p0), .val (.int p1), .val (.int p2), .val (.int p3), .val (.int p4), .val (.int (4 : Int32)), .val (.ref a1), .val (.ref a56), .val (.int (1 : Int32)), .unset, .unset] [])
          refine W56.aload me at_132 rfl rfl ?_
          refine W56.iconst me at_134 (v := 0) rfl ?_
          show Fi p e below s Z _ _ _ _ T56 (mkF m 135 #[.val (.int p0), .val (.int p1), .val (.int p2), .val (.int p3), .val (.int p4), .val (.int (4 : Int32)), .val (.ref a1), .val (.ref a56), .val (.int (1 : Int32)), .unset, .unset] [(.int (0 : Int32)), (.ref a1)])
          refine W56.caload me A9 at_135 (by decide) (v := .int c0) rfl ?_
          show Fi p e below s Z _ _ _ _ T56 (mkF m 136 #[.val (.int p0), .val (.int p1), .val (.int p2), .val (.int p3), .val (.int p4), .val (.int (4 : Int32)), .val (.ref a1), .val (.ref a56), .val (.int (1 : Int32)), .unset, .unset] [(.int c0)])
          refine W56.bipush me at_136 (v := 35) rfl ?_
          show Fi p e below s Z _ _ _ _ T56 (mkF m 138 #[.val (.int p0), .val (.int p1), .val (.int p2), .val (.int p3), .val (.int p4), .val (.int (4 : Int32)), .val (.ref a1), .val (.ref a56), .val (.int (1 : Int32)), .unset, .unset] [(.int (35 : Int32)), (.int c0)])
          refine W56.ic_ne me at_138 (pc' := 144) (by decide) (by decide) (fun hh0 => ?_) (fun hh0 => ?_)
          ·
            show Fi p e below s Z _ _ _ _ T56 (mkF m 144 #[.val (.int p0), .val (.int p1), .val (.int p2), .val (.int p3), .val (.int p4), .val (.int (4 : Int32)), .val (.ref a1), .val (.ref a56), .val (.int (1 : Int32)), .unset, .unset] [])
            refine W56.aload me at_144 rfl rfl ?_
            show Fi p e below s Z _ _ _ _ T56 (mkF m 146 #[.val (.int p0), .val (.int p1), .val (.int p2), .val (.int p3), .val (.int p4), .val (.int (4 : Int32)), .val (.ref a1), .val (.ref a56), .val (.int (1 : Int32)), .unset, .unset] [(.ref a56)])
            show Fi p e below s Z _ _ _ _ T56 (mkF m 146 #[.val (.int p0), .val (.int p1), .val (.int p2), .val (.int p3), .val (.int p4), .val (.int (4 : Int32)), .val (.ref a1), .val (.ref a56), .val (.int (1 : Int32)), .unset, .unset] [(.ref a56)])
            refine W56.callS me hEL (hw _ (List.mem_of_getElem? (i := 30) rfl)) (hw _ (List.mem_of_getElem? (i := 31) rfl)) (hw _ (List.mem_of_getElem? (i := 32) rfl)) (hw _ (List.mem_of_getElem? (i := 33) rfl)) (argsL := [(.ref a56)]) (rest := []) (c_fr1 (ss := []) g W56.old (cs := [c0, c1, c2, c3]) L56 1 2 (own_le rfl) hh1 (alS al0 hh0) (by decide) rfl) at_146 (by decide) (fun _ q => nomatch q) rfl (lenOf pd_24 rfl) (own_le rfl) (own_le rfl) (own_le rfl) (own_le rfl) rfl ?_
            intro T114 h114 v114 W114 z114 q114
            obtain ⟨_, rfl, E114, d114, rfl, M114⟩ := q114
            show Fi p e below s Z _ _ _ _ T114 (mkF m 149 #[.val (.int p0), .val (.int p1), .val (.int p2), .val (.int p3), .val (.int p4), .val (.int (4 : Int32)), .val (.ref a1), .val (.ref a56), .val (.int (1 : Int32)), .unset, .unset] [(.ref d114)])
            replace A9 := A9.ext E114
            replace L56 := L56.ext E114
            refine W114.astore me at_149 (l' := #[.val (.int p0), .val (.int p1), .val (.int p2), .val (.int p3), .val (.int p4), .val (.int (4 : Int32)), .val (.ref a1), .val (.ref a56), .val (.int (1 : Int32)), .val (.ref d114), .unset]) rfl rfl ?_
            refine W114.iload me at_151 rfl ?_
            refine W114.iload me at_153 rfl ?_
            show Fi p e below s Z _ _ _ _ T114 (mkF m 155 #[.val (.int p0), .val (.int p1), .val (.int p2), .val (.int p3), .val (.int p4), .val (.int (4 : Int32)), .val (.ref a1), .val (.ref a56), .val (.int (1 : Int32)), .val (.ref d114), .unset] [(.int (4 : Int32)), (.int (1 : Int32))])
            refine W114.icY_ne me at_155 (by decide) (pc' := 164) (by decide) (by decide) ?_
            show Fi p e below s Z _ _ _ _ T114 (mkF m 164 #[.val (.int p0), .val (.int p1), .val (.int p2), .val (.int p3), .val (.int p4), .val (.int (4 : Int32)), .val (.ref a1), .val (.ref a56), .val (.int (1 : Int32)), .val (.ref d114), .unset] [])
            refine W114.iload me at_164 rfl ?_
            refine W114.iload me at_166 rfl ?_
            refine W114.isub me at_168 ?_
            refine W114.iconst me at_169 (v := 1) rfl ?_
            refine W114.isub me at_170 ?_
            show Fi p e below s Z _ _ _ _ T114 (mkF m 171 #[.val (.int p0), .val (.int p1), .val (.int p2), .val (.int p3), .val (.int p4), .val (.int (4 : Int32)), .val (.ref a1), .val (.ref a56), .val (.int (1 : Int32)), .val (.ref d114), .unset] [(.int (((4 : Int32) - (1 : Int32)) - (1 : Int32)))])
            show Fi p e below s Z _ _ _ _ T114 (mkF m 171 #[.val (.int p0), .val (.int p1), .val (.int p2), .val (.int p3), .val (.int p4), .val (.int (4 : Int32)), .val (.ref a1), .val (.ref a56), .val (.int (1 : Int32)), .val (.ref d114), .unset] [(.int (2 : Int32))])
            refine W114.istore me at_171 (l' := #[.val (.int p0), .val (.int p1), .val (.int p2), .val (.int p3), .val (.int p4), .val (.int (4 : Int32)), .val (.ref a1), .val (.ref a56), .val (.int (1 : Int32)), .val (.ref d114), .val (.int (2 : Int32))]) rfl ?_
            refine W114.aload me at_173 rfl rfl ?_
            show Fi p e below s Z _ _ _ _ T114 (mkF m 175 #[.val (.int p0), .val (.int p1), .val (.int p2), .val (.int p3), .val (.int p4), .val (.int (4 : Int32)), .val (.ref a1), .val (.ref a56), .val (.int (1 : Int32)), .val (.ref d114), .val (.int (2 : Int32))] [(.ref d114)])
            refine W114.callV me hEL (hw _ (List.mem_of_getElem? (i := 133) rfl)) (hw _ (List.mem_of_getElem? (i := 51) rfl)) (fun hZ' => notFace_of_selects (args := #[]) (mvT (s := s.setVm _) hZ' (hw _ (List.mem_of_getElem? (i := 53) rfl)))) (hw _ (List.mem_of_getElem? (i := 53) rfl)) (hw _ (List.mem_of_getElem? (i := 52) rfl)) (hw _ (List.mem_of_getElem? (i := 11) rfl)) (hw _ (List.mem_of_getElem? (i := 54) rfl)) (a := d114) (argsL := []) (rest := []) M114.exa (c_length (ss := []) g W114.old (cs := [c2, c3]) M114) at_175 (by decide) (fun _ q => nomatch q) rfl (lenOf pd_12 rfl) (own_le rfl) (own_le rfl) (own_le rfl) (own_le rfl) rfl ?_
            intro T115 h115 v115 W115 z115 q115
            obtain ⟨_, rfl, rfl, rfl⟩ := q115
            show Fi p e below s Z _ _ _ _ T115 (mkF m 178 #[.val (.int p0), .val (.int p1), .val (.int p2), .val (.int p3), .val (.int p4), .val (.int (4 : Int32)), .val (.ref a1), .val (.ref a56), .val (.int (1 : Int32)), .val (.ref d114), .val (.int (2 : Int32))] [(.int (2 : Int32))])
            refine W115.iload me at_178 rfl ?_
            show Fi p e below s Z _ _ _ _ T115 (mkF m 180 #[.val (.int p0), .val (.int p1), .val (.int p2), .val (.int p3), .val (.int p4), .val (.int (4 : Int32)), .val (.ref a1), .val (.ref a56), .val (.int (1 : Int32)), .val (.ref d114), .val (.int (2 : Int32))] [(.int (2 : Int32)), (.int (2 : Int32))])
            refine W115.icY_eq me at_180 (by decide) (pc' := 185) (by decide) (by decide) ?_
            show Fi p e below s Z _ _ _ _ T115 (mkF m 185 #[.val (.int p0), .val (.int p1), .val (.int p2), .val (.int p3), .val (.int p4), .val (.int (4 : Int32)), .val (.ref a1), .val (.ref a56), .val (.int (1 : Int32)), .val (.ref d114), .val (.int (2 : Int32))] [])
            refine W115.iload me at_185 rfl ?_
            show Fi p e below s Z _ _ _ _ T115 (mkF m 187 #[.val (.int p0), .val (.int p1), .val (.int p2), .val (.int p3), .val (.int p4), .val (.int (4 : Int32)), .val (.ref a1), .val (.ref a56), .val (.int (1 : Int32)), .val (.ref d114), .val (.int (2 : Int32))] [(.int (2 : Int32))])
            refine W115.ifN_le me at_187 (by decide) ?_
            show Fi p e below s Z _ _ _ _ T115 (mkF m 190 #[.val (.int p0), .val (.int p1), .val (.int p2), .val (.int p3), .val (.int p4), .val (.int (4 : Int32)), .val (.ref a1), .val (.ref a56), .val (.int (1 : Int32)), .val (.ref d114), .val (.int (2 : Int32))] [])
            refine W115.aload me at_190 rfl rfl ?_
            refine W115.iconst me at_192 (v := 0) rfl ?_
            show Fi p e below s Z _ _ _ _ T115 (mkF m 193 #[.val (.int p0), .val (.int p1), .val (.int p2), .val (.int p3), .val (.int p4), .val (.int (4 : Int32)), .val (.ref a1), .val (.ref a56), .val (.int (1 : Int32)), .val (.ref d114), .val (.int (2 : Int32))] [(.int (0 : Int32)), (.ref d114)])
            refine W115.callV me hEL (hw _ (List.mem_of_getElem? (i := 134) rfl)) (hw _ (List.mem_of_getElem? (i := 135) rfl)) (fun hZ' => notFace_of_selects (args := #[]) (mvT (s := s.setVm _) hZ' (hw _ (List.mem_of_getElem? (i := 137) rfl)))) (hw _ (List.mem_of_getElem? (i := 137) rfl)) (hw _ (List.mem_of_getElem? (i := 136) rfl)) (hw _ (List.mem_of_getElem? (i := 11) rfl)) (hw _ (List.mem_of_getElem? (i := 138) rfl)) (a := d114) (argsL := [(.int (0 : Int32))]) (rest := []) M114.exa (c_charat (ss := []) g W115.old (cs := [c2, c3]) (i := 0) M114 (own_le rfl)) at_193 (by decide) (fun _ q => nomatch q) rfl (lenOf pd_22 rfl) (own_le rfl) (own_le rfl) (own_le rfl) (own_le rfl) rfl ?_
            intro T116 h116 v116 W116 z116 q116
            obtain ⟨_, rfl, rfl, rfl⟩ := q116
            show Fi p e below s Z _ _ _ _ T116 (mkF m 196 #[.val (.int p0), .val (.int p1), .val (.int p2), .val (.int p3), .val (.int p4), .val (.int (4 : Int32)), .val (.ref a1), .val (.ref a56), .val (.int (1 : Int32)), .val (.ref d114), .val (.int (2 : Int32))] [(.int c2)])
            refine W116.aload me at_196 rfl rfl ?_
            refine W116.iload me at_198 rfl ?_
            refine W116.iconst me at_200 (v := 1) rfl ?_
            refine W116.iadd me at_201 ?_
            show Fi p e below s Z _ _ _ _ T116 (mkF m 202 #[.val (.int p0), .val (.int p1), .val (.int p2), .val (.int p3), .val (.int p4), .val (.int (4 : Int32)), .val (.ref a1), .val (.ref a56), .val (.int (1 : Int32)), .val (.ref d114), .val (.int (2 : Int32))] [(.int ((1 : Int32) + (1 : Int32))), (.ref a1), (.int c2)])
            show Fi p e below s Z _ _ _ _ T116 (mkF m 202 #[.val (.int p0), .val (.int p1), .val (.int p2), .val (.int p3), .val (.int p4), .val (.int (4 : Int32)), .val (.ref a1), .val (.ref a56), .val (.int (1 : Int32)), .val (.ref d114), .val (.int (2 : Int32))] [(.int (2 : Int32)), (.ref a1), (.int c2)])
            refine W116.caload me A9 at_202 (by decide) (v := .int c2) rfl ?_
            show Fi p e below s Z _ _ _ _ T116 (mkF m 203 #[.val (.int p0), .val (.int p1), .val (.int p2), .val (.int p3), .val (.int p4), .val (.int (4 : Int32)), .val (.ref a1), .val (.ref a56), .val (.int (1 : Int32)), .val (.ref d114), .val (.int (2 : Int32))] [(.int c2), (.int c2)])
            refine W116.icY_eq me at_203 rfl (pc' := 208) (by decide) (by decide) ?_
            show Fi p e below s Z _ _ _ _ T116 (mkF m 208 #[.val (.int p0), .val (.int p1), .val (.int p2), .val (.int p3), .val (.int p4), .val (.int (4 : Int32)), .val (.ref a1), .val (.ref a56), .val (.int (1 : Int32)), .val (.ref d114), .val (.int (2 : Int32))] [])
            refine W116.iload me at_208 rfl ?_
            refine W116.iconst me at_210 (v := 1) rfl ?_
            show Fi p e below s Z _ _ _ _ T116 (mkF m 211 #[.val (.int p0), .val (.int p1), .val (.int p2), .val (.int p3), .val (.int p4), .val (.int (4 : Int32)), .val (.ref a1), .val (.ref a56), .val (.int (1 : Int32)), .val (.ref d114), .val (.int (2 : Int32))] [(.int (1 : Int32)), (.int (2 : Int32))])
            refine W116.icN_le me at_211 (by decide) ?_
            show Fi p e below s Z _ _ _ _ T116 (mkF m 214 #[.val (.int p0), .val (.int p1), .val (.int p2), .val (.int p3), .val (.int p4), .val (.int (4 : Int32)), .val (.ref a1), .val (.ref a56), .val (.int (1 : Int32)), .val (.ref d114), .val (.int (2 : Int32))] [])
            refine W116.aload me at_214 rfl rfl ?_
            refine W116.iconst me at_216 (v := 1) rfl ?_
            show Fi p e below s Z _ _ _ _ T116 (mkF m 217 #[.val (.int p0), .val (.int p1), .val (.int p2), .val (.int p3), .val (.int p4), .val (.int (4 : Int32)), .val (.ref a1), .val (.ref a56), .val (.int (1 : Int32)), .val (.ref d114), .val (.int (2 : Int32))] [(.int (1 : Int32)), (.ref d114)])
            refine W116.callV me hEL (hw _ (List.mem_of_getElem? (i := 134) rfl)) (hw _ (List.mem_of_getElem? (i := 135) rfl)) (fun hZ' => notFace_of_selects (args := #[]) (mvT (s := s.setVm _) hZ' (hw _ (List.mem_of_getElem? (i := 137) rfl)))) (hw _ (List.mem_of_getElem? (i := 137) rfl)) (hw _ (List.mem_of_getElem? (i := 136) rfl)) (hw _ (List.mem_of_getElem? (i := 11) rfl)) (hw _ (List.mem_of_getElem? (i := 138) rfl)) (a := d114) (argsL := [(.int (1 : Int32))]) (rest := []) M114.exa (c_charat (ss := []) g W116.old (cs := [c2, c3]) (i := 1) M114 (own_le rfl)) at_217 (by decide) (fun _ q => nomatch q) rfl (lenOf pd_22 rfl) (own_le rfl) (own_le rfl) (own_le rfl) (own_le rfl) rfl ?_
            intro T117 h117 v117 W117 z117 q117
            obtain ⟨_, rfl, rfl, rfl⟩ := q117
            show Fi p e below s Z _ _ _ _ T117 (mkF m 220 #[.val (.int p0), .val (.int p1), .val (.int p2), .val (.int p3), .val (.int p4), .val (.int (4 : Int32)), .val (.ref a1), .val (.ref a56), .val (.int (1 : Int32)), .val (.ref d114), .val (.int (2 : Int32))] [(.int c3)])
            refine W117.aload me at_220 rfl rfl ?_
            refine W117.iload me at_222 rfl ?_
            refine W117.iconst me at_224 (v := 2) rfl ?_
            refine W117.iadd me at_225 ?_
            show Fi p e below s Z _ _ _ _ T117 (mkF m 226 #[.val (.int p0), .val (.int p1), .val (.int p2), .val (.int p3), .val (.int p4), .val (.int (4 : Int32)), .val (.ref a1), .val (.ref a56), .val (.int (1 : Int32)), .val (.ref d114), .val (.int (2 : Int32))] [(.int ((1 : Int32) + (2 : Int32))), (.ref a1), (.int c3)])
            show Fi p e below s Z _ _ _ _ T117 (mkF m 226 #[.val (.int p0), .val (.int p1), .val (.int p2), .val (.int p3), .val (.int p4), .val (.int (4 : Int32)), .val (.ref a1), .val (.ref a56), .val (.int (1 : Int32)), .val (.ref d114), .val (.int (2 : Int32))] [(.int (3 : Int32)), (.ref a1), (.int c3)])
            refine W117.caload me A9 at_226 (by decide) (v := .int c3) rfl ?_
            show Fi p e below s Z _ _ _ _ T117 (mkF m 227 #[.val (.int p0), .val (.int p1), .val (.int p2), .val (.int p3), .val (.int p4), .val (.int (4 : Int32)), .val (.ref a1), .val (.ref a56), .val (.int (1 : Int32)), .val (.ref d114), .val (.int (2 : Int32))] [(.int c3), (.int c3)])
            refine W117.icY_eq me at_227 rfl (pc' := 232) (by decide) (by decide) ?_
            show Fi p e below s Z _ _ _ _ T117 (mkF m 232 #[.val (.int p0), .val (.int p1), .val (.int p2), .val (.int p3), .val (.int p4), .val (.int (4 : Int32)), .val (.ref a1), .val (.ref a56), .val (.int (1 : Int32)), .val (.ref d114), .val (.int (2 : Int32))] [])
            refine W117.iload me at_232 rfl ?_
            refine W117.iconst me at_234 (v := 2) rfl ?_
            show Fi p e below s Z _ _ _ _ T117 (mkF m 235 #[.val (.int p0), .val (.int p1), .val (.int p2), .val (.int p3), .val (.int p4), .val (.int (4 : Int32)), .val (.ref a1), .val (.ref a56), .val (.int (1 : Int32)), .val (.ref d114), .val (.int (2 : Int32))] [(.int (2 : Int32)), (.int (2 : Int32))])
            refine W117.icY_le me at_235 (by decide) (pc' := 256) (by decide) (by decide) ?_
            show Fi p e below s Z _ _ _ _ T117 (mkF m 256 #[.val (.int p0), .val (.int p1), .val (.int p2), .val (.int p3), .val (.int p4), .val (.int (4 : Int32)), .val (.ref a1), .val (.ref a56), .val (.int (1 : Int32)), .val (.ref d114), .val (.int (2 : Int32))] [])
            refine W117.iconst me at_256 (v := 1) rfl ?_
            show Fi p e below s Z _ _ _ _ T117 (mkF m 257 #[.val (.int p0), .val (.int p1), .val (.int p2), .val (.int p3), .val (.int p4), .val (.int (4 : Int32)), .val (.ref a1), .val (.ref a56), .val (.int (1 : Int32)), .val (.ref d114), .val (.int (2 : Int32))] [(.int (1 : Int32))])
            exact W117.retN hEL me (Or.inl rfl) at_257 rfl (by decide) (by decide)
          ·
            show Fi p e below s Z _ _ _ _ T56 (mkF m 141 #[.val (.int p0), .val (.int p1), .val (.int p2), .val (.int p3), .val (.int p4), .val (.int (4 : Int32)), .val (.ref a1), .val (.ref a56), .val (.int (1 : Int32)), .unset, .unset] [])
            refine W56.iconst me at_141 (v := 0) rfl ?_
            refine W56.istore me at_142 (l' := #[.val (.int p0), .val (.int p1), .val (.int p2), .val (.int p3), .val (.int p4), .val (.int (4 : Int32)), .val (.ref a1), .val (.ref a56), .val (.int (0 : Int32)), .unset, .unset]) rfl ?_
            refine W56.aload me at_144 rfl rfl ?_
            show Fi p e below s Z _ _ _ _ T56 (mkF m 146 #[.val (.int p0), .val (.int p1), .val (.int p2), .val (.int p3), .val (.int p4), .val (.int (4 : Int32)), .val (.ref a1), .val (.ref a56), .val (.int (0 : Int32)), .unset, .unset] [(.ref a56)])
            show Fi p e below s Z _ _ _ _ T56 (mkF m 146 #[.val (.int p0), .val (.int p1), .val (.int p2), .val (.int p3), .val (.int p4), .val (.int (4 : Int32)), .val (.ref a1), .val (.ref a56), .val (.int (0 : Int32)), .unset, .unset] [(.ref a56)])
            refine W56.callS me hEL (hw _ (List.mem_of_getElem? (i := 30) rfl)) (hw _ (List.mem_of_getElem? (i := 31) rfl)) (hw _ (List.mem_of_getElem? (i := 32) rfl)) (hw _ (List.mem_of_getElem? (i := 33) rfl)) (argsL := [(.ref a56)]) (rest := []) (c_fr1 (ss := []) g W56.old (cs := [c0, c1, c2, c3]) L56 0 3 (own_le rfl) hh0 al0 (by decide) rfl) at_146 (by decide) (fun _ q => nomatch q) rfl (lenOf pd_24 rfl) (own_le rfl) (own_le rfl) (own_le rfl) (own_le rfl) rfl ?_
            intro T118 h118 v118 W118 z118 q118
            obtain ⟨_, rfl, E118, d118, rfl, M118⟩ := q118
            show Fi p e below s Z _ _ _ _ T118 (mkF m 149 #[.val (.int p0), .val (.int p1), .val (.int p2), .val (.int p3), .val (.int p4), .val (.int (4 : Int32)), .val (.ref a1), .val (.ref a56), .val (.int (0 : Int32)), .unset, .unset] [(.ref d118)])
            replace A9 := A9.ext E118
            replace L56 := L56.ext E118
            refine W118.astore me at_149 (l' := #[.val (.int p0), .val (.int p1), .val (.int p2), .val (.int p3), .val (.int p4), .val (.int (4 : Int32)), .val (.ref a1), .val (.ref a56), .val (.int (0 : Int32)), .val (.ref d118), .unset]) rfl rfl ?_
            refine W118.iload me at_151 rfl ?_
            refine W118.iload me at_153 rfl ?_
            show Fi p e below s Z _ _ _ _ T118 (mkF m 155 #[.val (.int p0), .val (.int p1), .val (.int p2), .val (.int p3), .val (.int p4), .val (.int (4 : Int32)), .val (.ref a1), .val (.ref a56), .val (.int (0 : Int32)), .val (.ref d118), .unset] [(.int (4 : Int32)), (.int (0 : Int32))])
            refine W118.icY_ne me at_155 (by decide) (pc' := 164) (by decide) (by decide) ?_
            show Fi p e below s Z _ _ _ _ T118 (mkF m 164 #[.val (.int p0), .val (.int p1), .val (.int p2), .val (.int p3), .val (.int p4), .val (.int (4 : Int32)), .val (.ref a1), .val (.ref a56), .val (.int (0 : Int32)), .val (.ref d118), .unset] [])
            refine W118.iload me at_164 rfl ?_
            refine W118.iload me at_166 rfl ?_
            refine W118.isub me at_168 ?_
            refine W118.iconst me at_169 (v := 1) rfl ?_
            refine W118.isub me at_170 ?_
            show Fi p e below s Z _ _ _ _ T118 (mkF m 171 #[.val (.int p0), .val (.int p1), .val (.int p2), .val (.int p3), .val (.int p4), .val (.int (4 : Int32)), .val (.ref a1), .val (.ref a56), .val (.int (0 : Int32)), .val (.ref d118), .unset] [(.int (((4 : Int32) - (0 : Int32)) - (1 : Int32)))])
            show Fi p e below s Z _ _ _ _ T118 (mkF m 171 #[.val (.int p0), .val (.int p1), .val (.int p2), .val (.int p3), .val (.int p4), .val (.int (4 : Int32)), .val (.ref a1), .val (.ref a56), .val (.int (0 : Int32)), .val (.ref d118), .unset] [(.int (3 : Int32))])
            refine W118.istore me at_171 (l' := #[.val (.int p0), .val (.int p1), .val (.int p2), .val (.int p3), .val (.int p4), .val (.int (4 : Int32)), .val (.ref a1), .val (.ref a56), .val (.int (0 : Int32)), .val (.ref d118), .val (.int (3 : Int32))]) rfl ?_
            refine W118.aload me at_173 rfl rfl ?_
            show Fi p e below s Z _ _ _ _ T118 (mkF m 175 #[.val (.int p0), .val (.int p1), .val (.int p2), .val (.int p3), .val (.int p4), .val (.int (4 : Int32)), .val (.ref a1), .val (.ref a56), .val (.int (0 : Int32)), .val (.ref d118), .val (.int (3 : Int32))] [(.ref d118)])
            refine W118.callV me hEL (hw _ (List.mem_of_getElem? (i := 133) rfl)) (hw _ (List.mem_of_getElem? (i := 51) rfl)) (fun hZ' => notFace_of_selects (args := #[]) (mvT (s := s.setVm _) hZ' (hw _ (List.mem_of_getElem? (i := 53) rfl)))) (hw _ (List.mem_of_getElem? (i := 53) rfl)) (hw _ (List.mem_of_getElem? (i := 52) rfl)) (hw _ (List.mem_of_getElem? (i := 11) rfl)) (hw _ (List.mem_of_getElem? (i := 54) rfl)) (a := d118) (argsL := []) (rest := []) M118.exa (c_length (ss := []) g W118.old (cs := [c1, c2, c3]) M118) at_175 (by decide) (fun _ q => nomatch q) rfl (lenOf pd_12 rfl) (own_le rfl) (own_le rfl) (own_le rfl) (own_le rfl) rfl ?_
            intro T119 h119 v119 W119 z119 q119
            obtain ⟨_, rfl, rfl, rfl⟩ := q119
            show Fi p e below s Z _ _ _ _ T119 (mkF m 178 #[.val (.int p0), .val (.int p1), .val (.int p2), .val (.int p3), .val (.int p4), .val (.int (4 : Int32)), .val (.ref a1), .val (.ref a56), .val (.int (0 : Int32)), .val (.ref d118), .val (.int (3 : Int32))] [(.int (3 : Int32))])
            refine W119.iload me at_178 rfl ?_
            show Fi p e below s Z _ _ _ _ T119 (mkF m 180 #[.val (.int p0), .val (.int p1), .val (.int p2), .val (.int p3), .val (.int p4), .val (.int (4 : Int32)), .val (.ref a1), .val (.ref a56), .val (.int (0 : Int32)), .val (.ref d118), .val (.int (3 : Int32))] [(.int (3 : Int32)), (.int (3 : Int32))])
            refine W119.icY_eq me at_180 (by decide) (pc' := 185) (by decide) (by decide) ?_
            show Fi p e below s Z _ _ _ _ T119 (mkF m 185 #[.val (.int p0), .val (.int p1), .val (.int p2), .val (.int p3), .val (.int p4), .val (.int (4 : Int32)), .val (.ref a1), .val (.ref a56), .val (.int (0 : Int32)), .val (.ref d118), .val (.int (3 : Int32))] [])
            refine W119.iload me at_185 rfl ?_
            show Fi p e below s Z _ _ _ _ T119 (mkF m 187 #[.val (.int p0), .val (.int p1), .val (.int p2), .val (.int p3), .val (.int p4), .val (.int (4 : Int32)), .val (.ref a1), .val (.ref a56), .val (.int (0 : Int32)), .val (.ref d118), .val (.int (3 : Int32))] [(.int (3 : Int32))])
            refine W119.ifN_le me at_187 (by decide) ?_
            show Fi p e below s Z _ _ _ _ T119 (mkF m 190 #[.val (.int p0), .val (.int p1), .val (.int p2), .val (.int p3), .val (.int p4), .val (.int (4 : Int32)), .val (.ref a1), .val (.ref a56), .val (.int (0 : Int32)), .val (.ref d118), .val (.int (3 : Int32))] [])
            refine W119.aload me at_190 rfl rfl ?_
            refine W119.iconst me at_192 (v := 0) rfl ?_
            show Fi p e below s Z _ _ _ _ T119 (mkF m 193 #[.val (.int p0), .val (.int p1), .val (.int p2), .val (.int p3), .val (.int p4), .val (.int (4 : Int32)), .val (.ref a1), .val (.ref a56), .val (.int (0 : Int32)), .val (.ref d118), .val (.int (3 : Int32))] [(.int (0 : Int32)), (.ref d118)])
            refine W119.callV me hEL (hw _ (List.mem_of_getElem? (i := 134) rfl)) (hw _ (List.mem_of_getElem? (i := 135) rfl)) (fun hZ' => notFace_of_selects (args := #[]) (mvT (s := s.setVm _) hZ' (hw _ (List.mem_of_getElem? (i := 137) rfl)))) (hw _ (List.mem_of_getElem? (i := 137) rfl)) (hw _ (List.mem_of_getElem? (i := 136) rfl)) (hw _ (List.mem_of_getElem? (i := 11) rfl)) (hw _ (List.mem_of_getElem? (i := 138) rfl)) (a := d118) (argsL := [(.int (0 : Int32))]) (rest := []) M118.exa (c_charat (ss := []) g W119.old (cs := [c1, c2, c3]) (i := 0) M118 (own_le rfl)) at_193 (by decide) (fun _ q => nomatch q) rfl (lenOf pd_22 rfl) (own_le rfl) (own_le rfl) (own_le rfl) (own_le rfl) rfl ?_
            intro T120 h120 v120 W120 z120 q120
            obtain ⟨_, rfl, rfl, rfl⟩ := q120
            show Fi p e below s Z _ _ _ _ T120 (mkF m 196 #[.val (.int p0), .val (.int p1), .val (.int p2), .val (.int p3), .val (.int p4), .val (.int (4 : Int32)), .val (.ref a1), .val (.ref a56), .val (.int (0 : Int32)), .val (.ref d118), .val (.int (3 : Int32))] [(.int c1)])
            refine W120.aload me at_196 rfl rfl ?_
            refine W120.iload me at_198 rfl ?_
            refine W120.iconst me at_200 (v := 1) rfl ?_
            refine W120.iadd me at_201 ?_
            show Fi p e below s Z _ _ _ _ T120 (mkF m 202 #[.val (.int p0), .val (.int p1), .val (.int p2), .val (.int p3), .val (.int p4), .val (.int (4 : Int32)), .val (.ref a1), .val (.ref a56), .val (.int (0 : Int32)), .val (.ref d118), .val (.int (3 : Int32))] [(.int ((0 : Int32) + (1 : Int32))), (.ref a1), (.int c1)])
            show Fi p e below s Z _ _ _ _ T120 (mkF m 202 #[.val (.int p0), .val (.int p1), .val (.int p2), .val (.int p3), .val (.int p4), .val (.int (4 : Int32)), .val (.ref a1), .val (.ref a56), .val (.int (0 : Int32)), .val (.ref d118), .val (.int (3 : Int32))] [(.int (1 : Int32)), (.ref a1), (.int c1)])
            refine W120.caload me A9 at_202 (by decide) (v := .int c1) rfl ?_
            show Fi p e below s Z _ _ _ _ T120 (mkF m 203 #[.val (.int p0), .val (.int p1), .val (.int p2), .val (.int p3), .val (.int p4), .val (.int (4 : Int32)), .val (.ref a1), .val (.ref a56), .val (.int (0 : Int32)), .val (.ref d118), .val (.int (3 : Int32))] [(.int c1), (.int c1)])
            refine W120.icY_eq me at_203 rfl (pc' := 208) (by decide) (by decide) ?_
            show Fi p e below s Z _ _ _ _ T120 (mkF m 208 #[.val (.int p0), .val (.int p1), .val (.int p2), .val (.int p3), .val (.int p4), .val (.int (4 : Int32)), .val (.ref a1), .val (.ref a56), .val (.int (0 : Int32)), .val (.ref d118), .val (.int (3 : Int32))] [])
            refine W120.iload me at_208 rfl ?_
            refine W120.iconst me at_210 (v := 1) rfl ?_
            show Fi p e below s Z _ _ _ _ T120 (mkF m 211 #[.val (.int p0), .val (.int p1), .val (.int p2), .val (.int p3), .val (.int p4), .val (.int (4 : Int32)), .val (.ref a1), .val (.ref a56), .val (.int (0 : Int32)), .val (.ref d118), .val (.int (3 : Int32))] [(.int (1 : Int32)), (.int (3 : Int32))])
            refine W120.icN_le me at_211 (by decide) ?_
            show Fi p e below s Z _ _ _ _ T120 (mkF m 214 #[.val (.int p0), .val (.int p1), .val (.int p2), .val (.int p3), .val (.int p4), .val (.int (4 : Int32)), .val (.ref a1), .val (.ref a56), .val (.int (0 : Int32)), .val (.ref d118), .val (.int (3 : Int32))] [])
            refine W120.aload me at_214 rfl rfl ?_
            refine W120.iconst me at_216 (v := 1) rfl ?_
            show Fi p e below s Z _ _ _ _ T120 (mkF m 217 #[.val (.int p0), .val (.int p1), .val (.int p2), .val (.int p3), .val (.int p4), .val (.int (4 : Int32)), .val (.ref a1), .val (.ref a56), .val (.int (0 : Int32)), .val (.ref d118), .val (.int (3 : Int32))] [(.int (1 : Int32)), (.ref d118)])
            refine W120.callV me hEL (hw _ (List.mem_of_getElem? (i := 134) rfl)) (hw _ (List.mem_of_getElem? (i := 135) rfl)) (fun hZ' => notFace_of_selects (args := #[]) (mvT (s := s.setVm _) hZ' (hw _ (List.mem_of_getElem? (i := 137) rfl)))) (hw _ (List.mem_of_getElem? (i := 137) rfl)) (hw _ (List.mem_of_getElem? (i := 136) rfl)) (hw _ (List.mem_of_getElem? (i := 11) rfl)) (hw _ (List.mem_of_getElem? (i := 138) rfl)) (a := d118) (argsL := [(.int (1 : Int32))]) (rest := []) M118.exa (c_charat (ss := []) g W120.old (cs := [c1, c2, c3]) (i := 1) M118 (own_le rfl)) at_217 (by decide) (fun _ q => nomatch q) rfl (lenOf pd_22 rfl) (own_le rfl) (own_le rfl) (own_le rfl) (own_le rfl) rfl ?_
            intro T121 h121 v121 W121 z121 q121
            obtain ⟨_, rfl, rfl, rfl⟩ := q121
            show Fi p e below s Z _ _ _ _ T121 (mkF m 220 #[.val (.int p0), .val (.int p1), .val (.int p2), .val (.int p3), .val (.int p4), .val (.int (4 : Int32)), .val (.ref a1), .val (.ref a56), .val (.int (0 : Int32)), .val (.ref d118), .val (.int (3 : Int32))] [(.int c2)])
            refine W121.aload me at_220 rfl rfl ?_
            refine W121.iload me at_222 rfl ?_
            refine W121.iconst me at_224 (v := 2) rfl ?_
            refine W121.iadd me at_225 ?_
            show Fi p e below s Z _ _ _ _ T121 (mkF m 226 #[.val (.int p0), .val (.int p1), .val (.int p2), .val (.int p3), .val (.int p4), .val (.int (4 : Int32)), .val (.ref a1), .val (.ref a56), .val (.int (0 : Int32)), .val (.ref d118), .val (.int (3 : Int32))] [(.int ((0 : Int32) + (2 : Int32))), (.ref a1), (.int c2)])
            show Fi p e below s Z _ _ _ _ T121 (mkF m 226 #[.val (.int p0), .val (.int p1), .val (.int p2), .val (.int p3), .val (.int p4), .val (.int (4 : Int32)), .val (.ref a1), .val (.ref a56), .val (.int (0 : Int32)), .val (.ref d118), .val (.int (3 : Int32))] [(.int (2 : Int32)), (.ref a1), (.int c2)])
            refine W121.caload me A9 at_226 (by decide) (v := .int c2) rfl ?_
            show Fi p e below s Z _ _ _ _ T121 (mkF m 227 #[.val (.int p0), .val (.int p1), .val (.int p2), .val (.int p3), .val (.int p4), .val (.int (4 : Int32)), .val (.ref a1), .val (.ref a56), .val (.int (0 : Int32)), .val (.ref d118), .val (.int (3 : Int32))] [(.int c2), (.int c2)])
            refine W121.icY_eq me at_227 rfl (pc' := 232) (by decide) (by decide) ?_
            show Fi p e below s Z _ _ _ _ T121 (mkF m 232 #[.val (.int p0), .val (.int p1), .val (.int p2), .val (.int p3), .val (.int p4), .val (.int (4 : Int32)), .val (.ref a1), .val (.ref a56), .val (.int (0 : Int32)), .val (.ref d118), .val (.int (3 : Int32))] [])
            refine W121.iload me at_232 rfl ?_
            refine W121.iconst me at_234 (v := 2) rfl ?_
            show Fi p e below s Z _ _ _ _ T121 (mkF m 235 #[.val (.int p0), .val (.int p1), .val (.int p2), .val (.int p3), .val (.int p4), .val (.int (4 : Int32)), .val (.ref a1), .val (.ref a56), .val (.int (0 : Int32)), .val (.ref d118), .val (.int (3 : Int32))] [(.int (2 : Int32)), (.int (3 : Int32))])
            refine W121.icN_le me at_235 (by decide) ?_
            show Fi p e below s Z _ _ _ _ T121 (mkF m 238 #[.val (.int p0), .val (.int p1), .val (.int p2), .val (.int p3), .val (.int p4), .val (.int (4 : Int32)), .val (.ref a1), .val (.ref a56), .val (.int (0 : Int32)), .val (.ref d118), .val (.int (3 : Int32))] [])
            refine W121.aload me at_238 rfl rfl ?_
            refine W121.iconst me at_240 (v := 2) rfl ?_
            show Fi p e below s Z _ _ _ _ T121 (mkF m 241 #[.val (.int p0), .val (.int p1), .val (.int p2), .val (.int p3), .val (.int p4), .val (.int (4 : Int32)), .val (.ref a1), .val (.ref a56), .val (.int (0 : Int32)), .val (.ref d118), .val (.int (3 : Int32))] [(.int (2 : Int32)), (.ref d118)])
            refine W121.callV me hEL (hw _ (List.mem_of_getElem? (i := 134) rfl)) (hw _ (List.mem_of_getElem? (i := 135) rfl)) (fun hZ' => notFace_of_selects (args := #[]) (mvT (s := s.setVm _) hZ' (hw _ (List.mem_of_getElem? (i := 137) rfl)))) (hw _ (List.mem_of_getElem? (i := 137) rfl)) (hw _ (List.mem_of_getElem? (i := 136) rfl)) (hw _ (List.mem_of_getElem? (i := 11) rfl)) (hw _ (List.mem_of_getElem? (i := 138) rfl)) (a := d118) (argsL := [(.int (2 : Int32))]) (rest := []) M118.exa (c_charat (ss := []) g W121.old (cs := [c1, c2, c3]) (i := 2) M118 (own_le rfl)) at_241 (by decide) (fun _ q => nomatch q) rfl (lenOf pd_22 rfl) (own_le rfl) (own_le rfl) (own_le rfl) (own_le rfl) rfl ?_
            intro T122 h122 v122 W122 z122 q122
            obtain ⟨_, rfl, rfl, rfl⟩ := q122
            show Fi p e below s Z _ _ _ _ T122 (mkF m 244 #[.val (.int p0), .val (.int p1), .val (.int p2), .val (.int p3), .val (.int p4), .val (.int (4 : Int32)), .val (.ref a1), .val (.ref a56), .val (.int (0 : Int32)), .val (.ref d118), .val (.int (3 : Int32))] [(.int c3)])
            refine W122.aload me at_244 rfl rfl ?_
            refine W122.iload me at_246 rfl ?_
            refine W122.iconst me at_248 (v := 3) rfl ?_
            refine W122.iadd me at_249 ?_
            show Fi p e below s Z _ _ _ _ T122 (mkF m 250 #[.val (.int p0), .val (.int p1), .val (.int p2), .val (.int p3), .val (.int p4), .val (.int (4 : Int32)), .val (.ref a1), .val (.ref a56), .val (.int (0 : Int32)), .val (.ref d118), .val (.int (3 : Int32))] [(.int ((0 : Int32) + (3 : Int32))), (.ref a1), (.int c3)])
            show Fi p e below s Z _ _ _ _ T122 (mkF m 250 #[.val (.int p0), .val (.int p1), .val (.int p2), .val (.int p3), .val (.int p4), .val (.int (4 : Int32)), .val (.ref a1), .val (.ref a56), .val (.int (0 : Int32)), .val (.ref d118), .val (.int (3 : Int32))] [(.int (3 : Int32)), (.ref a1), (.int c3)])
            refine W122.caload me A9 at_250 (by decide) (v := .int c3) rfl ?_
            show Fi p e below s Z _ _ _ _ T122 (mkF m 251 #[.val (.int p0), .val (.int p1), .val (.int p2), .val (.int p3), .val (.int p4), .val (.int (4 : Int32)), .val (.ref a1), .val (.ref a56), .val (.int (0 : Int32)), .val (.ref d118), .val (.int (3 : Int32))] [(.int c3), (.int c3)])
            refine W122.icY_eq me at_251 rfl (pc' := 256) (by decide) (by decide) ?_
            show Fi p e below s Z _ _ _ _ T122 (mkF m 256 #[.val (.int p0), .val (.int p1), .val (.int p2), .val (.int p3), .val (.int p4), .val (.int (4 : Int32)), .val (.ref a1), .val (.ref a56), .val (.int (0 : Int32)), .val (.ref d118), .val (.int (3 : Int32))] [])
            refine W122.iconst me at_256 (v := 1) rfl ?_
            show Fi p e below s Z _ _ _ _ T122 (mkF m 257 #[.val (.int p0), .val (.int p1), .val (.int p2), .val (.int p3), .val (.int p4), .val (.int (4 : Int32)), .val (.ref a1), .val (.ref a56), .val (.int (0 : Int32)), .val (.ref d118), .val (.int (3 : Int32))] [(.int (1 : Int32))])
            exact W122.retN hEL me (Or.inl rfl) at_257 rfl (by decide) (by decide)
set_option maxRecDepth 65536 in
set_option maxHeartbeats 40000000 in
theorem comes_1 {Post : Tables → Env → Array Value → State → Outcome → State → Prop} (hpost : ∀ tb e args s v u, (limb_1_1.after args s (.returned v) u = true ∧ limb_1_2.after args s (.returned v) u = true ∧ True) → ReturnedEndW s (.returned v) u (Jvm.fieldLocs frame_1_writes args s ++ Jvm.arrayLocs frame_1_arrays args s ++ Jvm.staticLocs frame_1_statics s) 32 3200 → Post tb e args s (.returned v) u) :
    ArmFor flags0 classFile x code maxLocals ret World_1 tables_1 room_1 Calls_1 rest_1 Pre_1 Post := by
  intro l hfl _ _ p e ha hc hk s m args below hf hA hF happ hP
  obtain ⟨hcalls, hrest, hpre⟩ := hP
  obtain ⟨hc1, -⟩ := hcalls
  obtain ⟨-, -, -, hnamed, -, -, -, hat⟩ := (Spec.applies_iff hf).mp happ
  obtain ⟨hg, hn⟩ := and_e (Cond.before_iff.mp (show (Jvm.Cond.and given_1 narrow_1).before args s = true from hpre))
  obtain ⟨h1, r0⟩ := and_e hg
  obtain ⟨y0, r1⟩ := and_e r0
  obtain ⟨y1, r2⟩ := and_e r1
  obtain ⟨y2, r3⟩ := and_e r2
  obtain ⟨y3, r4⟩ := and_e r3
  obtain ⟨w0, w1, w2, w3, w4, rfl⟩ : ∃ w0 w1 w2 w3 w4 : Value, args = #[w0, w1, w2, w3, w4] := by
    have hs : args.size = 5 := by simpa [Cond.value, given_1] using h1
    obtain ⟨L⟩ := args
    match L, hs with
    | [w0, w1, w2, w3, w4], _ => exact ⟨w0, w1, w2, w3, w4, rfl⟩
  have hw := fun d (hd : d ∈ tables_1) => atoms_spec (ws := Jvm.Cond.code x code maxLocals ret :: tables_1) hat d (List.mem_cons_of_mem _ hd)
  obtain ⟨hsets, hown0⟩ := atoms_of _ (rest_1_c_eq ▸ (show rest_1_c.before _ s = true from hrest))
  obtain ⟨i0, e0⟩ := is_v y0
  obtain rfl : w0 = (.int i0) := Option.some.inj e0
  obtain ⟨i1, e1⟩ := is_v y1
  obtain rfl : w1 = (.int i1) := Option.some.inj e1
  obtain ⟨i2, e2⟩ := is_v y2
  obtain rfl : w2 = (.int i2) := Option.some.inj e2
  obtain ⟨i3, e3⟩ := is_v y3
  obtain rfl : w3 = (.int i3) := Option.some.inj e3
  obtain ⟨i4, e4⟩ := is_v r4
  obtain rfl : w4 = (.int i4) := Option.some.inj e4
  obtain ⟨G, eG⟩ := is_v (Cond.before_iff.mp (hsets _ (List.mem_of_getElem? (i := 1) rfl)))
  have nG := not_v (Cond.before_iff.mp (hsets _ (List.mem_of_getElem? (i := 2) rfl)))
  have SG : Sta s s.heap "java/lang/String" "COMPACT_STRINGS" "Z" (.int G) := Sta.start eG (Or.inl (hsets _ (List.mem_of_getElem? (i := 0) rfl)))
  have cG : ¬ (G = (0 : Int32)) := gotF (Cond.eq_ints eG (Term.int_eval (0))) nG
  obtain ⟨GF, eF, rF⟩ := isR_v (Cond.before_iff.mp (hsets _ (List.mem_of_getElem? (i := 8) rfl)))
  have SF := Sta.start eF (Or.inl (hsets _ (List.mem_of_getElem? (i := 7) rfl)))
  have hEL : EW s _ consts_1 := (EW.cons (hw _ (List.mem_of_getElem? (i := 74) rfl)) (by decide) (EW.cons (hw _ (List.mem_of_getElem? (i := 22) rfl)) (by decide) (EW.cons (hw _ (List.mem_of_getElem? (i := 148) rfl)) (by decide) EW.nil)))
  have hcw : Jvm.Lit.compactW.before _ s = true := hsets _ (List.mem_of_getElem? (i := 2) rfl)
  have hCH : CHv s consts_1 s.vm s.heap := CHv.start hEL (fun q hq => hc1 q hq) hcw (hw _ (List.mem_of_getElem? (i := 23) rfl)) (hw _ (List.mem_of_getElem? (i := 10) rfl))
  have g : Gl s _ := ⟨hw, hEL, ⟨G, SG, cG⟩, ⟨GF, SF, rF⟩, trivial⟩
  obtain ⟨n, o, h1, h2, h3, v, L, rfl, ⟨⟨_, rfl, rfl⟩, N, -⟩, -, hq⟩ := c_law (l := l) (ws := tables_1) (kn := false) (ss := []) g (Old.start s) i0 i1 i2 i3 i4 p e ha hc hk s m _ below hf ((Spec.applies_iff_loose hf).mp happ).1 ⟨rfl, State.Warmed39.refl s, rfl, hCH, fun _ q => nomatch q⟩ (fun q => nomatch q)
  refine ⟨n, _, h1, h2, h3, hpost _ _ _ _ _ _ ⟨Cond.after_iff.mpr rfl, Cond.after_iff.mpr (eq_i res_at (Term.int_eval (1)) rfl), trivial⟩ ⟨hq.1, hq.2.1, hq.2.2.1, (hq.2.2.2.sift fun y hy => Or.inr (N y hy)).mono (by decide) (by decide)⟩⟩
theorem main_1_1 : Claimed_1_1 := comes_1 fun _ _ _ _ _ _ h hF => ⟨h.1, hF⟩
theorem main_1_2 : Claimed_1_2 := comes_1 fun _ _ _ _ _ _ h hF => ⟨h.2.1, hF⟩
end Jvm.Pilot.@@N@@
namespace Jvm.Pilot.@@N@@
open Jvm Jvm.ClassFile Sem Op Lib Jvm.Free Jvm.Stand Jvm.Pilot.@@N@@.Jvm.D
/-! MADE BY PROGRAM (witnessworld.py) out of the Statement's table words and the real class files: 23 classes; the members and pool entries that the words name. The judged class is class 1, her method 3. -/
namespace start1
open Jvm.ClassFile
def u (s : String) : CpInfo := .utf8 (stringToUtf16 s)
/-- a pool by its gaps: so many unusable entries, then the entry; so many at the end -/
def gap : Nat → List CpInfo → List CpInfo
  | 0, r => r
  | n + 1, r => .unusable :: gap n r
def poolList (es : List (Nat × CpInfo)) (last : Nat) : List CpInfo := es.foldr (fun e r => gap e.1 (e.2 :: r)) (gap last [])
def pool (es : List (Nat × CpInfo)) (last : Nat) : Array CpInfo := ⟨poolList es last⟩
def fileOf (pool : Array CpInfo) (this : Nat) (attrs : Array Attribute := #[]) (ms : Array MethodInfo := #[]) (fl : Nat := 33) (sup : Nat := 0) (ifs : Array Nat := #[]) (fds : Array FieldInfo := #[]) : ClassFile where
  minorVersion := 0
  majorVersion := 65
  constantPool := pool
  accessFlags := fl
  thisClass := this
  superClass := sup
  interfaces := ifs
  fields := fds
  methods := ms
  attributes := attrs
def plain (name : String) (sup : Option ClassId) : Class where
  name := name
  kind := .ordinary
  loader := none
  accessFlags := 33
  super := sup
  interfaces := #[]
  cf := none
  fields := #[]
  methods := #[]
  instanceTypes := #[]
  staticTypes := #[]
  resolved := #[]
  callSites := []
  init := .initialized
  statics := none
  mirror := none

def pool0 : Array CpInfo := pool [(5, u "<init>"), (0, u "()V"), (1, .class_ 10), (1, u "java/lang/Object")] 113

def k0c0 : Code := { maxStack := 0, maxLocals := 1, code := object_method_1_code, exceptionTable := #[], attributes := #[] }
def k0m0 : Method := { name := "<init>", desc := "()V", sig := { parameters := [], returnType := none }, accessFlags := 1, code := some k0c0 }
/-- java/lang/Object -/
def k0 : Class := { plain "java/lang/Object" none with
  accessFlags := 33
  interfaces := #[]
  cf := some (fileOf pool0 8 #[] #[{ accessFlags := 1, nameIndex := 5, descriptorIndex := 6, attributes := #[] }] 33 0 #[] #[])
  fields := #[]
  methods := #[k0m0]
  instanceTypes := #[]
  staticTypes := #[]
  resolved := Array.replicate 124 none
  statics := none }

def pool1 : Array CpInfo := pool [(2, .class_ 4), (1, u "java/lang/Object"), (0, u "<init>"), (0, u "()V"), (0, .class_ 8), (0, u "java/lang/String"), (0, .methodref 7 10), (0, .nameAndType 5 11), (0, u "([C)V"), (0, .integer 2147483647), (0, .methodref 14 15), (0, .class_ 16), (0, .nameAndType 17 18), (0, u "com/example/onum/onum/UrisFragmentPinLaw"), (0, u "ch"), (0, u "(I)C"), (0, .methodref 14 20), (0, .nameAndType 21 22), (0, u "mk"), (0, u "(ICCCC)Ljava/lang/String;"), (0, .methodref 24 25), (0, .class_ 26), (0, .nameAndType 27 28), (0, u "com/example/onum/onum/Uris"), (0, u "fragment"), (0, u "(Ljava/lang/String;)Ljava/lang/String;"), (0, .methodref 7 30), (0, .nameAndType 31 32), (0, u "isEmpty"), (0, u "()Z"), (0, .methodref 7 34), (0, .nameAndType 35 36), (0, u "length"), (0, u "()I"), (0, .methodref 7 38), (0, .nameAndType 39 18), (0, u "charAt"), (3, u "law"), (0, u "(IIIII)Z")] 4

def k1m0 : Method := { name := "<init>", desc := "()V", sig := { parameters := [], returnType := none }, accessFlags := 1, code := none }
def k1c1 : Code := { maxStack := 2, maxLocals := 1, code := method_2_code, exceptionTable := #[], attributes := #[] }
def k1m1 : Method := { name := "ch", desc := "(I)C", sig := { parameters := [.int], returnType := some .char }, accessFlags := 10, code := some k1c1 }
def k1c2 : Code := { maxStack := 6, maxLocals := 5, code := method_3_code, exceptionTable := #[], attributes := #[] }
def k1m2 : Method := { name := "mk", desc := "(ICCCC)Ljava/lang/String;", sig := { parameters := [.int, .char, .char, .char, .char], returnType := some (.object "java/lang/String") }, accessFlags := 10, code := some k1c2 }
def k1c3 : Code := { maxStack := 6, maxLocals := 11, code := code, exceptionTable := #[], attributes := #[] }
def k1m3 : Method := { name := "law", desc := "(IIIII)Z", sig := { parameters := [.int, .int, .int, .int, .int], returnType := some .boolean }, accessFlags := 9, code := some k1c3 }
/-- com/example/onum/onum/UrisFragmentPinLaw -/
def k1 : Class := { plain "com/example/onum/onum/UrisFragmentPinLaw" (some 0) with
  accessFlags := 49
  interfaces := #[]
  cf := some (fileOf pool1 14 #[] #[{ accessFlags := 1, nameIndex := 5, descriptorIndex := 6, attributes := #[] }, { accessFlags := 10, nameIndex := 17, descriptorIndex := 18, attributes := #[] }, { accessFlags := 10, nameIndex := 21, descriptorIndex := 22, attributes := #[] }, { accessFlags := 9, nameIndex := 43, descriptorIndex := 44, attributes := #[] }] 49 2 #[] #[])
  fields := #[]
  methods := #[k1m0, k1m1, k1m2, k1m3]
  instanceTypes := #[]
  staticTypes := #[]
  resolved := Array.replicate 49 none
  statics := none }

def pool2 : Array CpInfo := pool [(1, .class_ 2), (0, u "java/io/Serializable"), (0, .class_ 4), (0, u "java/lang/Object")] 2

/-- java/io/Serializable -/
def k2 : Class := { plain "java/io/Serializable" (some 0) with
  accessFlags := 1537
  interfaces := #[]
  cf := some (fileOf pool2 1 #[] #[] 1537 3 #[] #[])
  fields := #[]
  methods := #[]
  instanceTypes := #[]
  staticTypes := #[]
  resolved := Array.replicate 7 none
  statics := none }

def pool3 : Array CpInfo := pool [(1, .class_ 2), (0, u "java/lang/Comparable"), (0, .class_ 4), (0, u "java/lang/Object")] 7

/-- java/lang/Comparable -/
def k3 : Class := { plain "java/lang/Comparable" (some 0) with
  accessFlags := 1537
  interfaces := #[]
  cf := some (fileOf pool3 1 #[] #[] 1537 3 #[] #[])
  fields := #[]
  methods := #[]
  instanceTypes := #[]
  staticTypes := #[]
  resolved := Array.replicate 12 none
  statics := none }

def pool4 : Array CpInfo := pool [(2, .class_ 4), (1, u "java/lang/CharSequence"), (42, .class_ 48), (0, u "java/lang/CharSequence$1CodePointIterator"), (10, .class_ 60), (0, u "java/lang/CharSequence$1CharIterator"), (5, .class_ 67), (0, u "java/lang/Object")] 63

/-- java/lang/CharSequence -/
def k4 : Class := { plain "java/lang/CharSequence" (some 0) with
  accessFlags := 1537
  interfaces := #[]
  cf := some (fileOf pool4 2 #[.nestMembers #[47, 59]] #[] 1537 66 #[] #[])
  fields := #[]
  methods := #[]
  instanceTypes := #[]
  staticTypes := #[]
  resolved := Array.replicate 131 none
  statics := none }

def pool5 : Array CpInfo := pool [(1, .class_ 2), (0, u "java/lang/constant/Constable"), (0, .class_ 4), (0, u "java/lang/Object")] 6

/-- java/lang/constant/Constable -/
def k5 : Class := { plain "java/lang/constant/Constable" (some 0) with
  accessFlags := 1537
  interfaces := #[]
  cf := some (fileOf pool5 1 #[] #[] 1537 3 #[] #[])
  fields := #[]
  methods := #[]
  instanceTypes := #[]
  staticTypes := #[]
  resolved := Array.replicate 11 none
  statics := none }

def pool6 : Array CpInfo := pool [(1, .class_ 2), (0, u "java/lang/constant/ConstantDesc"), (0, .class_ 4), (0, u "java/lang/Object")] 32

/-- java/lang/constant/ConstantDesc -/
def k6 : Class := { plain "java/lang/constant/ConstantDesc" (some 0) with
  accessFlags := 1537
  interfaces := #[]
  cf := some (fileOf pool6 1 #[] #[] 1537 3 #[] #[])
  fields := #[]
  methods := #[]
  instanceTypes := #[]
  staticTypes := #[]
  resolved := Array.replicate 37 none
  statics := none }

def pool7 : Array CpInfo := pool [(1, .methodref 2 3), (0, .class_ 4), (0, .nameAndType 5 6), (0, u "java/lang/Object"), (0, u "<init>"), (0, u "()V"), (0, .string 8), (0, u ""), (0, .fieldref 10 11), (0, .class_ 12), (0, .nameAndType 13 14), (0, u "java/lang/String"), (0, u "value"), (0, u "[B"), (0, .fieldref 10 16), (0, .nameAndType 17 18), (0, u "coder"), (0, u "B"), (2, u "hash"), (0, u "I"), (2, u "hashIsZero"), (0, u "Z"), (0, .methodref 10 28), (0, .nameAndType 5 29), (0, u "([CIILjava/lang/Void;)V"), (8, .fieldref 10 39), (0, .nameAndType 40 26), (0, u "COMPACT_STRINGS"), (1, .class_ 44), (1, u "java/lang/StringUTF16"), (0, u "compress"), (1, .methodref 42 48), (0, .nameAndType 49 50), (0, u "coderFromArrayLen"), (0, u "([BI)B"), (56, .class_ 109), (1, u "java/lang/StringLatin1"), (32, u "()Z"), (34, .methodref 42 178), (0, .nameAndType 45 179), (0, u "([CII)[B"), (31, u "([BB)V"), (122, u "()I"), (0, .methodref 10 336), (0, .nameAndType 17 337), (0, u "()B"), (25, u "([BI)C"), (27, u "(II)V"), (35, u "(I)C"), (64, .methodref 10 493), (0, .nameAndType 494 142), (0, u "isLatin1"), (0, .methodref 107 496), (0, .nameAndType 497 363), (0, u "charAt"), (3, u "checkIndex"), (3, .methodref 10 506), (0, .nameAndType 507 334), (0, u "length"), (5, u "checkFromToIndex"), (7, .methodref 10 522), (0, .nameAndType 523 524), (0, u "checkBoundsBeginEnd"), (0, u "(III)V"), (50, .class_ 576), (0, u "java/lang/CharSequence"), (22, u "CASE_INSENSITIVE_ORDER"), (0, u "Ljava/util/Comparator;"), (32, .methodref 10 634), (0, .nameAndType 635 636), (0, u "indexOf"), (0, u "(II)I"), (0, .methodref 107 638), (0, .nameAndType 635 639), (0, u "([BIII)I"), (41, .methodref 10 682), (0, .nameAndType 683 684), (0, u "substring"), (0, u "(II)Ljava/lang/String;"), (0, .methodref 107 686), (0, .nameAndType 687 688), (0, u "newString"), (0, u "([BII)Ljava/lang/String;"), (3, u "isEmpty"), (72, u "(I)I"), (126, u "(I)Ljava/lang/String;"), (117, u "([C)V"), (42, .fieldref 1054 1055), (0, .class_ 1056), (0, .nameAndType 1057 1058), (0, u "jdk/internal/util/Preconditions"), (0, u "SIOOBE_FORMATTER"), (0, u "Ljava/util/function/BiFunction;"), (0, .methodref 1054 1060), (0, .nameAndType 501 1061), (0, u "(IILjava/util/function/BiFunction;)I"), (0, .methodref 1054 1063), (0, .nameAndType 513 1064), (0, u "(IIILjava/util/function/BiFunction;)I"), (36, u "serialPersistentFields"), (0, u "[Ljava/io/ObjectStreamField;"), (0, .class_ 1104), (0, u "java/lang/String$CaseInsensitiveComparator"), (1, .class_ 1107), (0, u "java/io/Serializable"), (0, .class_ 1109), (0, u "java/lang/Comparable"), (0, .class_ 1111), (0, u "java/lang/constant/Constable"), (0, .class_ 1113), (0, u "java/lang/constant/ConstantDesc"), (2, u "serialVersionUID"), (0, u "J"), (3, u "REPL"), (0, u "C"), (2, u "LATIN1"), (1, u "UTF16")] 323

def k7m0 : Method := { name := "<init>", desc := "()V", sig := { parameters := [], returnType := none }, accessFlags := 1, code := none }
def k7c1 : Code := { maxStack := 5, maxLocals := 2, code := jdk_42_method_3_code, exceptionTable := #[], attributes := #[] }
def k7m1 : Method := { name := "<init>", desc := "([C)V", sig := { parameters := [(.array .char)], returnType := none }, accessFlags := 1, code := some k7c1 }
def k7c2 : Code := { maxStack := 2, maxLocals := 1, code := jdk_42_method_54_code, exceptionTable := #[], attributes := #[] }
def k7m2 : Method := { name := "length", desc := "()I", sig := { parameters := [], returnType := some .int }, accessFlags := 1, code := some k7c2 }
def k7c3 : Code := { maxStack := 1, maxLocals := 1, code := jdk_42_method_55_code, exceptionTable := #[], attributes := #[] }
def k7m3 : Method := { name := "isEmpty", desc := "()Z", sig := { parameters := [], returnType := some .boolean }, accessFlags := 1, code := some k7c3 }
def k7c4 : Code := { maxStack := 2, maxLocals := 2, code := jdk_42_method_56_code, exceptionTable := #[], attributes := #[] }
def k7m4 : Method := { name := "charAt", desc := "(I)C", sig := { parameters := [.int], returnType := some .char }, accessFlags := 1, code := some k7c4 }
def k7c5 : Code := { maxStack := 3, maxLocals := 2, code := jdk_42_method_79_code, exceptionTable := #[], attributes := #[] }
def k7m5 : Method := { name := "indexOf", desc := "(I)I", sig := { parameters := [.int], returnType := some .int }, accessFlags := 1, code := some k7c5 }
def k7c6 : Code := { maxStack := 4, maxLocals := 3, code := jdk_42_method_80_code, exceptionTable := #[], attributes := #[] }
def k7m6 : Method := { name := "indexOf", desc := "(II)I", sig := { parameters := [.int, .int], returnType := some .int }, accessFlags := 1, code := some k7c6 }
def k7c7 : Code := { maxStack := 3, maxLocals := 2, code := jdk_42_method_91_code, exceptionTable := #[], attributes := #[] }
def k7m7 : Method := { name := "substring", desc := "(I)Ljava/lang/String;", sig := { parameters := [.int], returnType := some (.object "java/lang/String") }, accessFlags := 1, code := some k7c7 }
def k7c8 : Code := { maxStack := 3, maxLocals := 5, code := jdk_42_method_92_code, exceptionTable := #[], attributes := #[] }
def k7m8 : Method := { name := "substring", desc := "(II)Ljava/lang/String;", sig := { parameters := [.int, .int], returnType := some (.object "java/lang/String") }, accessFlags := 1, code := some k7c8 }
def k7c9 : Code := { maxStack := 4, maxLocals := 6, code := jdk_42_method_149_code, exceptionTable := #[], attributes := #[] }
def k7m9 : Method := { name := "<init>", desc := "([CIILjava/lang/Void;)V", sig := { parameters := [(.array .char), .int, .int, (.object "java/lang/Void")], returnType := none }, accessFlags := 2, code := some k7c9 }
def k7c10 : Code := { maxStack := 2, maxLocals := 3, code := jdk_42_method_151_code, exceptionTable := #[], attributes := #[] }
def k7m10 : Method := { name := "<init>", desc := "([BB)V", sig := { parameters := [(.array .byte), .byte], returnType := none }, accessFlags := 0, code := some k7c10 }
def k7c11 : Code := { maxStack := 1, maxLocals := 1, code := jdk_42_method_152_code, exceptionTable := #[], attributes := #[] }
def k7m11 : Method := { name := "coder", desc := "()B", sig := { parameters := [], returnType := some .byte }, accessFlags := 0, code := some k7c11 }
def k7c12 : Code := { maxStack := 1, maxLocals := 1, code := jdk_42_method_154_code, exceptionTable := #[], attributes := #[] }
def k7m12 : Method := { name := "isLatin1", desc := "()Z", sig := { parameters := [], returnType := some .boolean }, accessFlags := 0, code := some k7c12 }
def k7c13 : Code := { maxStack := 3, maxLocals := 2, code := jdk_42_method_155_code, exceptionTable := #[], attributes := #[] }
def k7m13 : Method := { name := "checkIndex", desc := "(II)V", sig := { parameters := [.int, .int], returnType := none }, accessFlags := 8, code := some k7c13 }
def k7c14 : Code := { maxStack := 4, maxLocals := 3, code := jdk_42_method_158_code, exceptionTable := #[], attributes := #[] }
def k7m14 : Method := { name := "checkBoundsBeginEnd", desc := "(III)V", sig := { parameters := [.int, .int, .int], returnType := none }, accessFlags := 8, code := some k7c14 }
/-- java/lang/String -/
def k7 : Class := { plain "java/lang/String" (some 0) with
  accessFlags := 49
  interfaces := #[2, 3, 4, 5, 6]
  cf := some (fileOf pool7 10 #[.nestMembers #[1103]] #[{ accessFlags := 1, nameIndex := 5, descriptorIndex := 6, attributes := #[] }, { accessFlags := 1, nameIndex := 5, descriptorIndex := 1010, attributes := #[] }, { accessFlags := 1, nameIndex := 507, descriptorIndex := 334, attributes := #[] }, { accessFlags := 1, nameIndex := 692, descriptorIndex := 142, attributes := #[] }, { accessFlags := 1, nameIndex := 497, descriptorIndex := 427, attributes := #[] }, { accessFlags := 1, nameIndex := 635, descriptorIndex := 765, attributes := #[] }, { accessFlags := 1, nameIndex := 635, descriptorIndex := 636, attributes := #[] }, { accessFlags := 1, nameIndex := 683, descriptorIndex := 892, attributes := #[] }, { accessFlags := 1, nameIndex := 683, descriptorIndex := 684, attributes := #[] }, { accessFlags := 2, nameIndex := 5, descriptorIndex := 29, attributes := #[] }, { accessFlags := 0, nameIndex := 5, descriptorIndex := 211, attributes := #[] }, { accessFlags := 0, nameIndex := 17, descriptorIndex := 337, attributes := #[] }, { accessFlags := 0, nameIndex := 494, descriptorIndex := 142, attributes := #[] }, { accessFlags := 8, nameIndex := 501, descriptorIndex := 391, attributes := #[] }, { accessFlags := 8, nameIndex := 523, descriptorIndex := 524, attributes := #[] }] 49 2 #[1106, 1108, 575, 1110, 1112] #[{ accessFlags := 18, nameIndex := 13, descriptorIndex := 14, attributes := #[] }, { accessFlags := 18, nameIndex := 17, descriptorIndex := 18, attributes := #[] }, { accessFlags := 2, nameIndex := 21, descriptorIndex := 22, attributes := #[] }, { accessFlags := 2, nameIndex := 25, descriptorIndex := 26, attributes := #[] }, { accessFlags := 26, nameIndex := 1116, descriptorIndex := 1117, attributes := #[] }, { accessFlags := 24, nameIndex := 40, descriptorIndex := 26, attributes := #[] }, { accessFlags := 26, nameIndex := 1101, descriptorIndex := 1102, attributes := #[] }, { accessFlags := 26, nameIndex := 1121, descriptorIndex := 1122, attributes := #[] }, { accessFlags := 25, nameIndex := 599, descriptorIndex := 600, attributes := #[] }, { accessFlags := 24, nameIndex := 1125, descriptorIndex := 18, attributes := #[] }, { accessFlags := 24, nameIndex := 1127, descriptorIndex := 18, attributes := #[] }])
  fields := #[{ name := "value", type := (.array .byte), accessFlags := 18, slot := 0, constantValue := 0 }, { name := "coder", type := .byte, accessFlags := 18, slot := 1, constantValue := 0 }, { name := "hash", type := .int, accessFlags := 2, slot := 2, constantValue := 0 }, { name := "hashIsZero", type := .boolean, accessFlags := 2, slot := 3, constantValue := 0 }, { name := "serialVersionUID", type := .long, accessFlags := 26, slot := 0, constantValue := 0 }, { name := "COMPACT_STRINGS", type := .boolean, accessFlags := 24, slot := 1, constantValue := 0 }, { name := "serialPersistentFields", type := (.array (.object "java/io/ObjectStreamField")), accessFlags := 26, slot := 2, constantValue := 0 }, { name := "REPL", type := .char, accessFlags := 26, slot := 3, constantValue := 0 }, { name := "CASE_INSENSITIVE_ORDER", type := (.object "java/util/Comparator"), accessFlags := 25, slot := 4, constantValue := 0 }, { name := "LATIN1", type := .byte, accessFlags := 24, slot := 5, constantValue := 0 }, { name := "UTF16", type := .byte, accessFlags := 24, slot := 6, constantValue := 0 }]
  methods := #[k7m0, k7m1, k7m2, k7m3, k7m4, k7m5, k7m6, k7m7, k7m8, k7m9, k7m10, k7m11, k7m12, k7m13, k7m14]
  instanceTypes := #[(.array .byte), .byte, .int, .boolean]
  staticTypes := #[.long, .boolean, (.array (.object "java/io/ObjectStreamField")), .char, (.object "java/util/Comparator"), .byte, .byte]
  resolved := Array.replicate 1451 none
  statics := some 0 }

def pool8 : Array CpInfo := pool [(2, .class_ 4), (1, u "java/lang/Object"), (0, u "<init>"), (0, u "()V"), (3, .class_ 12), (1, u "java/lang/String"), (3, .class_ 18), (1, u "com/example/onum/onum/Uris"), (1, u "(Ljava/lang/String;)Ljava/lang/String;"), (13, u "(I)Ljava/lang/String;"), (17, .methodref 10 53), (0, .nameAndType 54 55), (0, u "indexOf"), (0, u "(I)I"), (2, u "substring"), (1, .string 61), (0, u ""), (0, .methodref 10 63), (0, .nameAndType 58 34), (2, u "PARTS"), (0, u "Ljava/util/regex/Pattern;"), (98, u "SCHEME"), (0, u "I"), (2, u "AUTHORITY"), (1, u "PATH"), (1, u "QUERY"), (1, u "FRAGMENT"), (5, u "fragment")] 20

def k8m0 : Method := { name := "<init>", desc := "()V", sig := { parameters := [], returnType := none }, accessFlags := 2, code := none }
def k8c1 : Code := { maxStack := 3, maxLocals := 2, code := prog_5_method_4_code, exceptionTable := #[], attributes := #[] }
def k8m1 : Method := { name := "fragment", desc := "(Ljava/lang/String;)Ljava/lang/String;", sig := { parameters := [(.object "java/lang/String")], returnType := some (.object "java/lang/String") }, accessFlags := 8, code := some k8c1 }
/-- com/example/onum/onum/Uris -/
def k8 : Class := { plain "com/example/onum/onum/Uris" (some 0) with
  accessFlags := 32
  interfaces := #[]
  cf := some (fileOf pool8 16 #[] #[{ accessFlags := 2, nameIndex := 5, descriptorIndex := 6, attributes := #[] }, { accessFlags := 8, nameIndex := 182, descriptorIndex := 20, attributes := #[] }] 32 2 #[] #[{ accessFlags := 26, nameIndex := 66, descriptorIndex := 67, attributes := #[] }, { accessFlags := 26, nameIndex := 166, descriptorIndex := 167, attributes := #[] }, { accessFlags := 26, nameIndex := 170, descriptorIndex := 167, attributes := #[] }, { accessFlags := 26, nameIndex := 172, descriptorIndex := 167, attributes := #[] }, { accessFlags := 26, nameIndex := 174, descriptorIndex := 167, attributes := #[] }, { accessFlags := 26, nameIndex := 176, descriptorIndex := 167, attributes := #[] }])
  fields := #[{ name := "PARTS", type := (.object "java/util/regex/Pattern"), accessFlags := 26, slot := 0, constantValue := 0 }, { name := "SCHEME", type := .int, accessFlags := 26, slot := 1, constantValue := 0 }, { name := "AUTHORITY", type := .int, accessFlags := 26, slot := 2, constantValue := 0 }, { name := "PATH", type := .int, accessFlags := 26, slot := 3, constantValue := 0 }, { name := "QUERY", type := .int, accessFlags := 26, slot := 4, constantValue := 0 }, { name := "FRAGMENT", type := .int, accessFlags := 26, slot := 5, constantValue := 0 }]
  methods := #[k8m0, k8m1]
  instanceTypes := #[]
  staticTypes := #[(.object "java/util/regex/Pattern"), .int, .int, .int, .int, .int]
  resolved := Array.replicate 203 none
  statics := none }

def pool9 : Array CpInfo := pool [(1, .class_ 2), (0, u "java/lang/String"), (1, .class_ 6), (1, u "java/lang/Object"), (0, u "<init>"), (0, u "()V"), (0, .methodref 1 10), (0, .nameAndType 11 12), (0, u "checkIndex"), (0, u "(II)V"), (1, .class_ 16), (1, u "java/lang/StringLatin1"), (21, .methodref 39 40), (0, .class_ 41), (0, .nameAndType 42 43), (0, u "java/lang/Math"), (0, u "min"), (0, u "(II)I"), (9, u "([BI)C"), (34, .methodref 14 89), (0, .nameAndType 90 91), (0, u "canEncode"), (0, u "(I)Z"), (0, .methodref 39 93), (0, .nameAndType 94 43), (0, u "max"), (0, .methodref 14 96), (0, .nameAndType 97 98), (0, u "indexOfChar"), (0, u "([BIII)I"), (2, u "indexOf"), (10, .methodref 1 113), (0, .nameAndType 7 114), (0, u "([BB)V"), (6, u "$assertionsDisabled"), (0, u "Z"), (8, .class_ 133), (1, u "java/util/Arrays"), (17, .string 152), (0, u ""), (43, u "newString"), (0, u "([BII)Ljava/lang/String;"), (23, .class_ 223), (1, u "java/lang/StringLatin1$LinesSpliterator"), (8, .methodref 131 233), (0, .nameAndType 234 235), (0, u "copyOfRange"), (0, u "([BII)[B"), (16, u "charAt"), (137, .class_ 391), (0, u "java/lang/StringLatin1$CharsSpliterator")] 3

def k9m0 : Method := { name := "<init>", desc := "()V", sig := { parameters := [], returnType := none }, accessFlags := 0, code := none }
def k9c1 : Code := { maxStack := 2, maxLocals := 2, code := jdk_43_method_2_code, exceptionTable := #[], attributes := #[] }
def k9m1 : Method := { name := "charAt", desc := "([BI)C", sig := { parameters := [(.array .byte), .int], returnType := some .char }, accessFlags := 9, code := some k9c1 }
def k9c2 : Code := { maxStack := 2, maxLocals := 1, code := jdk_43_method_4_code, exceptionTable := #[], attributes := #[] }
def k9m2 : Method := { name := "canEncode", desc := "(I)Z", sig := { parameters := [.int], returnType := some .boolean }, accessFlags := 9, code := some k9c2 }
def k9c3 : Code := { maxStack := 4, maxLocals := 4, code := jdk_43_method_22_code, exceptionTable := #[], attributes := #[] }
def k9m3 : Method := { name := "indexOf", desc := "([BIII)I", sig := { parameters := [(.array .byte), .int, .int, .int], returnType := some .int }, accessFlags := 9, code := some k9c3 }
def k9c4 : Code := { maxStack := 2, maxLocals := 6, code := jdk_43_method_23_code, exceptionTable := #[], attributes := #[] }
def k9m4 : Method := { name := "indexOfChar", desc := "([BIII)I", sig := { parameters := [(.array .byte), .int, .int, .int], returnType := some .int }, accessFlags := 10, code := some k9c4 }
def k9c5 : Code := { maxStack := 6, maxLocals := 3, code := jdk_43_method_47_code, exceptionTable := #[], attributes := #[] }
def k9m5 : Method := { name := "newString", desc := "([BII)Ljava/lang/String;", sig := { parameters := [(.array .byte), .int, .int], returnType := some (.object "java/lang/String") }, accessFlags := 9, code := some k9c5 }
/-- java/lang/StringLatin1 -/
def k9 : Class := { plain "java/lang/StringLatin1" (some 0) with
  accessFlags := 48
  interfaces := #[]
  cf := some (fileOf pool9 14 #[.nestMembers #[390, 221]] #[{ accessFlags := 0, nameIndex := 7, descriptorIndex := 8, attributes := #[] }, { accessFlags := 9, nameIndex := 252, descriptorIndex := 53, attributes := #[] }, { accessFlags := 9, nameIndex := 90, descriptorIndex := 91, attributes := #[] }, { accessFlags := 9, nameIndex := 101, descriptorIndex := 98, attributes := #[] }, { accessFlags := 10, nameIndex := 97, descriptorIndex := 98, attributes := #[] }, { accessFlags := 9, nameIndex := 196, descriptorIndex := 197, attributes := #[] }] 48 4 #[] #[{ accessFlags := 4120, nameIndex := 121, descriptorIndex := 122, attributes := #[] }])
  fields := #[{ name := "$assertionsDisabled", type := .boolean, accessFlags := 4120, slot := 0, constantValue := 0 }]
  methods := #[k9m0, k9m1, k9m2, k9m3, k9m4, k9m5]
  instanceTypes := #[]
  staticTypes := #[.boolean]
  resolved := Array.replicate 395 none
  statics := none }

def pool10 : Array CpInfo := pool [(1, .class_ 2), (0, u "java/lang/Math"), (1, .class_ 6), (1, u "java/lang/Object"), (0, u "<init>"), (0, u "()V"), (89, .class_ 100), (1, u "java/lang/Math$RandomNumberGeneratorHolder"), (71, u "negativeZeroFloatBits"), (0, u "J"), (2, u "negativeZeroDoubleBits"), (21, u "max"), (2, u "min"), (43, u "$assertionsDisabled"), (0, u "Z"), (88, u "(II)I"), (2, u "twoToTheDoubleScaleDown"), (0, u "D"), (4, u "twoToTheDoubleScaleUp"), (9, u "E"), (3, u "PI"), (2, u "TAU"), (2, u "DEGREES_TO_RADIANS"), (0, u "RADIANS_TO_DEGREES")] 94

def k10m0 : Method := { name := "<init>", desc := "()V", sig := { parameters := [], returnType := none }, accessFlags := 2, code := none }
def k10c1 : Code := { maxStack := 2, maxLocals := 2, code := jdk_29_method_65_code, exceptionTable := #[], attributes := #[] }
def k10m1 : Method := { name := "max", desc := "(II)I", sig := { parameters := [.int, .int], returnType := some .int }, accessFlags := 9, code := some k10c1 }
def k10c2 : Code := { maxStack := 2, maxLocals := 2, code := jdk_29_method_69_code, exceptionTable := #[], attributes := #[] }
def k10m2 : Method := { name := "min", desc := "(II)I", sig := { parameters := [.int, .int], returnType := some .int }, accessFlags := 9, code := some k10c2 }
/-- java/lang/Math -/
def k10 : Class := { plain "java/lang/Math" (some 0) with
  accessFlags := 49
  interfaces := #[]
  cf := some (fileOf pool10 1 #[.nestMembers #[98]] #[{ accessFlags := 2, nameIndex := 7, descriptorIndex := 8, attributes := #[] }, { accessFlags := 9, nameIndex := 198, descriptorIndex := 335, attributes := #[] }, { accessFlags := 9, nameIndex := 201, descriptorIndex := 335, attributes := #[] }] 49 4 #[] #[{ accessFlags := 25, nameIndex := 354, descriptorIndex := 339, attributes := #[] }, { accessFlags := 25, nameIndex := 358, descriptorIndex := 339, attributes := #[] }, { accessFlags := 25, nameIndex := 361, descriptorIndex := 339, attributes := #[] }, { accessFlags := 26, nameIndex := 364, descriptorIndex := 339, attributes := #[] }, { accessFlags := 26, nameIndex := 365, descriptorIndex := 339, attributes := #[] }, { accessFlags := 26, nameIndex := 172, descriptorIndex := 173, attributes := #[] }, { accessFlags := 26, nameIndex := 176, descriptorIndex := 173, attributes := #[] }, { accessFlags := 8, nameIndex := 344, descriptorIndex := 339, attributes := #[] }, { accessFlags := 8, nameIndex := 338, descriptorIndex := 339, attributes := #[] }, { accessFlags := 4120, nameIndex := 245, descriptorIndex := 246, attributes := #[] }])
  fields := #[{ name := "E", type := .double, accessFlags := 25, slot := 0, constantValue := 0 }, { name := "PI", type := .double, accessFlags := 25, slot := 1, constantValue := 0 }, { name := "TAU", type := .double, accessFlags := 25, slot := 2, constantValue := 0 }, { name := "DEGREES_TO_RADIANS", type := .double, accessFlags := 26, slot := 3, constantValue := 0 }, { name := "RADIANS_TO_DEGREES", type := .double, accessFlags := 26, slot := 4, constantValue := 0 }, { name := "negativeZeroFloatBits", type := .long, accessFlags := 26, slot := 5, constantValue := 0 }, { name := "negativeZeroDoubleBits", type := .long, accessFlags := 26, slot := 6, constantValue := 0 }, { name := "twoToTheDoubleScaleUp", type := .double, accessFlags := 8, slot := 7, constantValue := 0 }, { name := "twoToTheDoubleScaleDown", type := .double, accessFlags := 8, slot := 8, constantValue := 0 }, { name := "$assertionsDisabled", type := .boolean, accessFlags := 4120, slot := 9, constantValue := 0 }]
  methods := #[k10m0, k10m1, k10m2]
  instanceTypes := #[]
  staticTypes := #[.double, .double, .double, .double, .double, .long, .long, .double, .double, .boolean]
  resolved := Array.replicate 460 none
  statics := none }

def pool11 : Array CpInfo := pool [(6, .class_ 8), (1, u "java/lang/Object"), (0, u "<init>"), (0, u "()V"), (1, .class_ 14), (1, u "java/lang/StringUTF16"), (31, u "$assertionsDisabled"), (0, u "Z"), (13, u "HI_BYTE_SHIFT"), (0, u "I"), (2, u "LO_BYTE_SHIFT"), (49, .methodref 12 116), (0, .nameAndType 117 118), (0, u "compress"), (0, u "([CI[BII)I"), (3, u "([CII)[B"), (138, u "coderFromArrayLen"), (0, u "([BI)B"), (106, .class_ 371), (1, u "java/lang/StringUTF16$LinesSpliterator"), (58, u "MAX_LENGTH"), (196, .class_ 628), (0, u "java/lang/StringUTF16$CodePointsSpliterator"), (0, .class_ 630), (0, u "java/lang/StringUTF16$CharsSpliterator")] 4

def k11m0 : Method := { name := "<init>", desc := "()V", sig := { parameters := [], returnType := none }, accessFlags := 0, code := none }
def k11c1 : Code := { maxStack := 2, maxLocals := 2, code := jdk_52_method_15_code, exceptionTable := #[], attributes := #[] }
def k11m1 : Method := { name := "coderFromArrayLen", desc := "([BI)B", sig := { parameters := [(.array .byte), .int], returnType := some .byte }, accessFlags := 8, code := some k11c1 }
def k11c2 : Code := { maxStack := 5, maxLocals := 6, code := jdk_52_method_16_code, exceptionTable := #[], attributes := #[] }
def k11m2 : Method := { name := "compress", desc := "([CII)[B", sig := { parameters := [(.array .char), .int, .int], returnType := some (.array .byte) }, accessFlags := 9, code := some k11c2 }
def k11c3 : Code := { maxStack := 3, maxLocals := 7, code := jdk_52_method_21_code, exceptionTable := #[], attributes := #[] }
def k11m3 : Method := { name := "compress", desc := "([CI[BII)I", sig := { parameters := [(.array .char), .int, (.array .byte), .int, .int], returnType := some .int }, accessFlags := 9, code := some k11c3 }
/-- java/lang/StringUTF16 -/
def k11 : Class := { plain "java/lang/StringUTF16" (some 0) with
  accessFlags := 48
  interfaces := #[]
  cf := some (fileOf pool11 12 #[.nestMembers #[627, 629, 369]] #[{ accessFlags := 0, nameIndex := 9, descriptorIndex := 10, attributes := #[] }, { accessFlags := 8, nameIndex := 261, descriptorIndex := 262, attributes := #[] }, { accessFlags := 9, nameIndex := 117, descriptorIndex := 122, attributes := #[] }, { accessFlags := 9, nameIndex := 117, descriptorIndex := 118, attributes := #[] }] 48 6 #[] #[{ accessFlags := 26, nameIndex := 61, descriptorIndex := 62, attributes := #[] }, { accessFlags := 26, nameIndex := 65, descriptorIndex := 62, attributes := #[] }, { accessFlags := 24, nameIndex := 430, descriptorIndex := 62, attributes := #[] }, { accessFlags := 4120, nameIndex := 46, descriptorIndex := 47, attributes := #[] }])
  fields := #[{ name := "HI_BYTE_SHIFT", type := .int, accessFlags := 26, slot := 0, constantValue := 0 }, { name := "LO_BYTE_SHIFT", type := .int, accessFlags := 26, slot := 1, constantValue := 0 }, { name := "MAX_LENGTH", type := .int, accessFlags := 24, slot := 2, constantValue := 0 }, { name := "$assertionsDisabled", type := .boolean, accessFlags := 4120, slot := 3, constantValue := 0 }]
  methods := #[k11m0, k11m1, k11m2, k11m3]
  instanceTypes := #[]
  staticTypes := #[.int, .int, .int, .boolean]
  resolved := Array.replicate 635 none
  statics := none }

def pool12 : Array CpInfo := pool [(2, .class_ 4), (1, u "java/lang/Object"), (0, u "<init>"), (0, u "()V"), (17, .class_ 26), (1, u "jdk/internal/util/Preconditions"), (6, u "checkIndex"), (13, u "checkFromToIndex"), (7, .class_ 56), (0, u "jdk/internal/util/Preconditions$4"), (57, .class_ 115), (0, u "jdk/internal/util/Preconditions$1"), (7, u "SIOOBE_FORMATTER"), (0, u "Ljava/util/function/BiFunction;"), (0, .class_ 126), (0, u "jdk/internal/util/Preconditions$2"), (3, u "AIOOBE_FORMATTER"), (0, .class_ 132), (0, u "jdk/internal/util/Preconditions$3"), (3, u "IOOBE_FORMATTER"), (41, u "(IILjava/util/function/BiFunction;)I"), (4, u "(IIILjava/util/function/BiFunction;)I")] 10

def k12m0 : Method := { name := "<init>", desc := "()V", sig := { parameters := [], returnType := none }, accessFlags := 1, code := none }
def k12c1 : Code := { maxStack := 3, maxLocals := 3, code := jdk_41_method_11_code, exceptionTable := #[], attributes := #[] }
def k12m1 : Method := { name := "checkIndex", desc := "(IILjava/util/function/BiFunction;)I", sig := { parameters := [.int, .int, (.object "java/util/function/BiFunction")], returnType := some .int }, accessFlags := 9, code := some k12c1 }
def k12c2 : Code := { maxStack := 4, maxLocals := 4, code := jdk_41_method_12_code, exceptionTable := #[], attributes := #[] }
def k12m2 : Method := { name := "checkFromToIndex", desc := "(IIILjava/util/function/BiFunction;)I", sig := { parameters := [.int, .int, .int, (.object "java/util/function/BiFunction")], returnType := some .int }, accessFlags := 9, code := some k12c2 }
/-- jdk/internal/util/Preconditions -/
def k12 : Class := { plain "jdk/internal/util/Preconditions" (some 0) with
  accessFlags := 33
  interfaces := #[]
  cf := some (fileOf pool12 24 #[.nestMembers #[55, 131, 125, 114]] #[{ accessFlags := 1, nameIndex := 5, descriptorIndex := 6, attributes := #[] }, { accessFlags := 9, nameIndex := 33, descriptorIndex := 178, attributes := #[] }, { accessFlags := 9, nameIndex := 47, descriptorIndex := 183, attributes := #[] }] 33 2 #[] #[{ accessFlags := 25, nameIndex := 123, descriptorIndex := 124, attributes := #[] }, { accessFlags := 25, nameIndex := 130, descriptorIndex := 124, attributes := #[] }, { accessFlags := 25, nameIndex := 136, descriptorIndex := 124, attributes := #[] }])
  fields := #[{ name := "SIOOBE_FORMATTER", type := (.object "java/util/function/BiFunction"), accessFlags := 25, slot := 0, constantValue := 0 }, { name := "AIOOBE_FORMATTER", type := (.object "java/util/function/BiFunction"), accessFlags := 25, slot := 1, constantValue := 0 }, { name := "IOOBE_FORMATTER", type := (.object "java/util/function/BiFunction"), accessFlags := 25, slot := 2, constantValue := 0 }]
  methods := #[k12m0, k12m1, k12m2]
  instanceTypes := #[]
  staticTypes := #[(.object "java/util/function/BiFunction"), (.object "java/util/function/BiFunction"), (.object "java/util/function/BiFunction")]
  resolved := Array.replicate 194 none
  statics := some 1 }

def pool13 : Array CpInfo := pool [(2, .class_ 4), (1, u "java/lang/Object"), (0, u "<init>"), (0, u "()V"), (7, .class_ 16), (1, u "java/util/Arrays"), (57, .class_ 76), (1, u "java/util/Arrays$NaturalOrder"), (36, .class_ 115), (1, u "java/util/Arrays$LegacyMergeSort"), (1, u "Z"), (21, u "copyOfRange"), (10, .methodref 151 152), (0, .class_ 153), (0, .nameAndType 154 155), (0, u "java/lang/System"), (0, u "arraycopy"), (0, u "(Ljava/lang/Object;ILjava/lang/Object;II)V"), (148, .methodref 305 306), (0, .class_ 307), (0, .nameAndType 308 309), (0, u "java/lang/Math"), (0, u "min"), (0, u "(II)I"), (29, .methodref 14 340), (0, .nameAndType 341 342), (0, u "copyOfRangeByte"), (0, u "([BII)[B"), (0, .methodref 14 344), (0, .nameAndType 345 346), (0, u "checkLength"), (0, u "(II)V"), (28, .class_ 376), (0, u "java/util/Arrays$ArrayList"), (68, u "$assertionsDisabled"), (269, u "MIN_ARRAY_SORT_GRAN"), (0, u "I"), (2, u "INSERTIONSORT_THRESHOLD"), (255, .class_ 976), (0, u "java/util/Arrays$ArrayItr")] 52

def k13m0 : Method := { name := "<init>", desc := "()V", sig := { parameters := [], returnType := none }, accessFlags := 2, code := none }
def k13c1 : Code := { maxStack := 4, maxLocals := 2, code := jdk_65_method_131_code, exceptionTable := #[], attributes := #[] }
def k13m1 : Method := { name := "checkLength", desc := "(II)V", sig := { parameters := [.int, .int], returnType := none }, accessFlags := 10, code := some k13c1 }
def k13c2 : Code := { maxStack := 3, maxLocals := 3, code := jdk_65_method_132_code, exceptionTable := #[], attributes := #[] }
def k13m2 : Method := { name := "copyOfRange", desc := "([BII)[B", sig := { parameters := [(.array .byte), .int, .int], returnType := some (.array .byte) }, accessFlags := 9, code := some k13c2 }
def k13c3 : Code := { maxStack := 6, maxLocals := 5, code := jdk_65_method_133_code, exceptionTable := #[], attributes := #[] }
def k13m3 : Method := { name := "copyOfRangeByte", desc := "([BII)[B", sig := { parameters := [(.array .byte), .int, .int], returnType := some (.array .byte) }, accessFlags := 10, code := some k13c3 }
/-- java/util/Arrays -/
def k13 : Class := { plain "java/util/Arrays" (some 0) with
  accessFlags := 49
  interfaces := #[]
  cf := some (fileOf pool13 14 #[.nestMembers #[975, 375, 113, 74]] #[{ accessFlags := 2, nameIndex := 5, descriptorIndex := 6, attributes := #[] }, { accessFlags := 10, nameIndex := 345, descriptorIndex := 346, attributes := #[] }, { accessFlags := 9, nameIndex := 139, descriptorIndex := 342, attributes := #[] }, { accessFlags := 10, nameIndex := 341, descriptorIndex := 342, attributes := #[] }] 49 2 #[] #[{ accessFlags := 26, nameIndex := 715, descriptorIndex := 716, attributes := #[] }, { accessFlags := 26, nameIndex := 719, descriptorIndex := 716, attributes := #[] }, { accessFlags := 4120, nameIndex := 445, descriptorIndex := 117, attributes := #[] }])
  fields := #[{ name := "MIN_ARRAY_SORT_GRAN", type := .int, accessFlags := 26, slot := 0, constantValue := 0 }, { name := "INSERTIONSORT_THRESHOLD", type := .int, accessFlags := 26, slot := 1, constantValue := 0 }, { name := "$assertionsDisabled", type := .boolean, accessFlags := 4120, slot := 2, constantValue := 0 }]
  methods := #[k13m0, k13m1, k13m2, k13m3]
  instanceTypes := #[]
  staticTypes := #[.int, .int, .boolean]
  resolved := Array.replicate 1029 none
  statics := none }

def pool14 : Array CpInfo := pool [(2, .class_ 4), (1, u "java/lang/Object"), (0, u "<init>"), (0, u "()V"), (1, .class_ 10), (1, u "java/lang/System"), (0, u "allowSecurityManager"), (0, u "I"), (16, u "cons"), (0, u "Ljava/io/Console;"), (77, .class_ 110), (1, u "java/lang/System$CallersHolder"), (43, u "initialErrStream"), (0, u "Ljava/io/PrintStream;"), (19, u "security"), (0, u "Ljava/lang/SecurityManager;"), (31, .class_ 209), (0, u "java/lang/System$1"), (7, u "props"), (0, u "Ljava/util/Properties;"), (2, u "lineSeparator"), (0, u "Ljava/lang/String;"), (96, .class_ 321), (1, u "java/lang/System$LoggerFinder"), (5, .class_ 328), (0, u "java/lang/System$Logger"), (67, u "err"), (2, u "out"), (91, u "notSupportedJnuEncoding"), (15, u "in"), (17, u "initialIn"), (0, u "Ljava/io/InputStream;"), (35, u "bootLayer"), (0, u "Ljava/lang/ModuleLayer;"), (99, .class_ 664), (0, u "java/lang/System$2"), (9, u "NEVER"), (2, u "MAYBE"), (49, u "arraycopy"), (0, u "(Ljava/lang/Object;ILjava/lang/Object;II)V"), (72, .class_ 802), (0, u "java/lang/System$Logger$Level")] 31

def k14m0 : Method := { name := "<init>", desc := "()V", sig := { parameters := [], returnType := none }, accessFlags := 2, code := none }
def k14m1 : Method := { name := "arraycopy", desc := "(Ljava/lang/Object;ILjava/lang/Object;II)V", sig := { parameters := [(.object "java/lang/Object"), .int, (.object "java/lang/Object"), .int, .int], returnType := none }, accessFlags := 265, code := none }
/-- java/lang/System -/
def k14 : Class := { plain "java/lang/System" (some 0) with
  accessFlags := 49
  interfaces := #[]
  cf := some (fileOf pool14 8 #[.nestMembers #[319, 327, 801, 108, 663, 208]] #[{ accessFlags := 2, nameIndex := 5, descriptorIndex := 6, attributes := #[] }, { accessFlags := 265, nameIndex := 727, descriptorIndex := 728, attributes := #[] }] 49 2 #[] #[{ accessFlags := 25, nameIndex := 507, descriptorIndex := 526, attributes := #[] }, { accessFlags := 25, nameIndex := 399, descriptorIndex := 155, attributes := #[] }, { accessFlags := 25, nameIndex := 396, descriptorIndex := 155, attributes := #[] }, { accessFlags := 10, nameIndex := 525, descriptorIndex := 526, attributes := #[] }, { accessFlags := 26, nameIndex := 674, descriptorIndex := 12, attributes := #[] }, { accessFlags := 26, nameIndex := 677, descriptorIndex := 12, attributes := #[] }, { accessFlags := 10, nameIndex := 11, descriptorIndex := 12, attributes := #[] }, { accessFlags := 74, nameIndex := 175, descriptorIndex := 176, attributes := #[] }, { accessFlags := 10, nameIndex := 491, descriptorIndex := 222, attributes := #[] }, { accessFlags := 74, nameIndex := 29, descriptorIndex := 30, attributes := #[] }, { accessFlags := 74, nameIndex := 154, descriptorIndex := 155, attributes := #[] }, { accessFlags := 10, nameIndex := 217, descriptorIndex := 218, attributes := #[] }, { accessFlags := 10, nameIndex := 221, descriptorIndex := 222, attributes := #[] }, { accessFlags := 8, nameIndex := 562, descriptorIndex := 563, attributes := #[] }])
  fields := #[{ name := "in", type := (.object "java/io/InputStream"), accessFlags := 25, slot := 0, constantValue := 0 }, { name := "out", type := (.object "java/io/PrintStream"), accessFlags := 25, slot := 1, constantValue := 0 }, { name := "err", type := (.object "java/io/PrintStream"), accessFlags := 25, slot := 2, constantValue := 0 }, { name := "initialIn", type := (.object "java/io/InputStream"), accessFlags := 10, slot := 3, constantValue := 0 }, { name := "NEVER", type := .int, accessFlags := 26, slot := 4, constantValue := 0 }, { name := "MAYBE", type := .int, accessFlags := 26, slot := 5, constantValue := 0 }, { name := "allowSecurityManager", type := .int, accessFlags := 10, slot := 6, constantValue := 0 }, { name := "security", type := (.object "java/lang/SecurityManager"), accessFlags := 74, slot := 7, constantValue := 0 }, { name := "notSupportedJnuEncoding", type := (.object "java/lang/String"), accessFlags := 10, slot := 8, constantValue := 0 }, { name := "cons", type := (.object "java/io/Console"), accessFlags := 74, slot := 9, constantValue := 0 }, { name := "initialErrStream", type := (.object "java/io/PrintStream"), accessFlags := 74, slot := 10, constantValue := 0 }, { name := "props", type := (.object "java/util/Properties"), accessFlags := 10, slot := 11, constantValue := 0 }, { name := "lineSeparator", type := (.object "java/lang/String"), accessFlags := 10, slot := 12, constantValue := 0 }, { name := "bootLayer", type := (.object "java/lang/ModuleLayer"), accessFlags := 8, slot := 13, constantValue := 0 }]
  methods := #[k14m0, k14m1]
  instanceTypes := #[]
  staticTypes := #[(.object "java/io/InputStream"), (.object "java/io/PrintStream"), (.object "java/io/PrintStream"), (.object "java/io/InputStream"), .int, .int, .int, (.object "java/lang/SecurityManager"), (.object "java/lang/String"), (.object "java/io/Console"), (.object "java/io/PrintStream"), (.object "java/util/Properties"), (.object "java/lang/String"), (.object "java/lang/ModuleLayer")]
  resolved := Array.replicate 834 none
  statics := none }

def pool15 : Array CpInfo := pool [(9, u "<init>"), (6, .class_ 18), (1, u "java/lang/Object"), (0, u "()V"), (1, .class_ 23), (1, u "jdk/internal/util/ArraysSupport"), (0, u "LOG2_ARRAY_LONG_INDEX_SCALE"), (0, u "I"), (2, u "U"), (0, u "Ljdk/internal/misc/Unsafe;"), (8, u "BIG_ENDIAN"), (0, u "Z"), (8, u "LOG2_BYTE_BIT_SIZE"), (4, u "LOG2_ARRAY_INT_INDEX_SCALE"), (54, u "JLA"), (0, u "Ljdk/internal/access/JavaLangAccess;"), (11, u "LOG2_ARRAY_BOOLEAN_INDEX_SCALE"), (9, u "LOG2_ARRAY_BYTE_INDEX_SCALE"), (5, u "LOG2_ARRAY_CHAR_INDEX_SCALE"), (5, u "LOG2_ARRAY_SHORT_INDEX_SCALE"), (18, u "LOG2_ARRAY_FLOAT_INDEX_SCALE"), (24, u "LOG2_ARRAY_DOUBLE_INDEX_SCALE"), (89, u "T_BOOLEAN"), (2, u "T_CHAR"), (1, u "T_FLOAT"), (1, u "T_DOUBLE"), (1, u "T_BYTE"), (1, u "T_SHORT"), (1, u "T_INT"), (1, u "T_LONG"), (1, u "SOFT_MAX_ARRAY_LENGTH")] 83

def k15m0 : Method := { name := "<init>", desc := "()V", sig := { parameters := [], returnType := none }, accessFlags := 2, code := none }
/-- jdk/internal/util/ArraysSupport -/
def k15 : Class := { plain "jdk/internal/util/ArraysSupport" (some 0) with
  accessFlags := 33
  interfaces := #[]
  cf := some (fileOf pool15 21 #[] #[{ accessFlags := 2, nameIndex := 9, descriptorIndex := 19, attributes := #[] }] 33 16 #[] #[{ accessFlags := 24, nameIndex := 28, descriptorIndex := 29, attributes := #[] }, { accessFlags := 26, nameIndex := 38, descriptorIndex := 39, attributes := #[] }, { accessFlags := 25, nameIndex := 121, descriptorIndex := 25, attributes := #[] }, { accessFlags := 25, nameIndex := 131, descriptorIndex := 25, attributes := #[] }, { accessFlags := 25, nameIndex := 137, descriptorIndex := 25, attributes := #[] }, { accessFlags := 25, nameIndex := 143, descriptorIndex := 25, attributes := #[] }, { accessFlags := 25, nameIndex := 53, descriptorIndex := 25, attributes := #[] }, { accessFlags := 25, nameIndex := 24, descriptorIndex := 25, attributes := #[] }, { accessFlags := 25, nameIndex := 162, descriptorIndex := 25, attributes := #[] }, { accessFlags := 25, nameIndex := 187, descriptorIndex := 25, attributes := #[] }, { accessFlags := 26, nameIndex := 48, descriptorIndex := 25, attributes := #[] }, { accessFlags := 25, nameIndex := 277, descriptorIndex := 25, attributes := #[] }, { accessFlags := 25, nameIndex := 280, descriptorIndex := 25, attributes := #[] }, { accessFlags := 25, nameIndex := 282, descriptorIndex := 25, attributes := #[] }, { accessFlags := 25, nameIndex := 284, descriptorIndex := 25, attributes := #[] }, { accessFlags := 25, nameIndex := 286, descriptorIndex := 25, attributes := #[] }, { accessFlags := 25, nameIndex := 288, descriptorIndex := 25, attributes := #[] }, { accessFlags := 25, nameIndex := 290, descriptorIndex := 25, attributes := #[] }, { accessFlags := 25, nameIndex := 292, descriptorIndex := 25, attributes := #[] }, { accessFlags := 26, nameIndex := 108, descriptorIndex := 109, attributes := #[] }, { accessFlags := 25, nameIndex := 294, descriptorIndex := 25, attributes := #[] }])
  fields := #[{ name := "U", type := (.object "jdk/internal/misc/Unsafe"), accessFlags := 24, slot := 0, constantValue := 0 }, { name := "BIG_ENDIAN", type := .boolean, accessFlags := 26, slot := 1, constantValue := 0 }, { name := "LOG2_ARRAY_BOOLEAN_INDEX_SCALE", type := .int, accessFlags := 25, slot := 2, constantValue := 0 }, { name := "LOG2_ARRAY_BYTE_INDEX_SCALE", type := .int, accessFlags := 25, slot := 3, constantValue := 0 }, { name := "LOG2_ARRAY_CHAR_INDEX_SCALE", type := .int, accessFlags := 25, slot := 4, constantValue := 0 }, { name := "LOG2_ARRAY_SHORT_INDEX_SCALE", type := .int, accessFlags := 25, slot := 5, constantValue := 0 }, { name := "LOG2_ARRAY_INT_INDEX_SCALE", type := .int, accessFlags := 25, slot := 6, constantValue := 0 }, { name := "LOG2_ARRAY_LONG_INDEX_SCALE", type := .int, accessFlags := 25, slot := 7, constantValue := 0 }, { name := "LOG2_ARRAY_FLOAT_INDEX_SCALE", type := .int, accessFlags := 25, slot := 8, constantValue := 0 }, { name := "LOG2_ARRAY_DOUBLE_INDEX_SCALE", type := .int, accessFlags := 25, slot := 9, constantValue := 0 }, { name := "LOG2_BYTE_BIT_SIZE", type := .int, accessFlags := 26, slot := 10, constantValue := 0 }, { name := "T_BOOLEAN", type := .int, accessFlags := 25, slot := 11, constantValue := 0 }, { name := "T_CHAR", type := .int, accessFlags := 25, slot := 12, constantValue := 0 }, { name := "T_FLOAT", type := .int, accessFlags := 25, slot := 13, constantValue := 0 }, { name := "T_DOUBLE", type := .int, accessFlags := 25, slot := 14, constantValue := 0 }, { name := "T_BYTE", type := .int, accessFlags := 25, slot := 15, constantValue := 0 }, { name := "T_SHORT", type := .int, accessFlags := 25, slot := 16, constantValue := 0 }, { name := "T_INT", type := .int, accessFlags := 25, slot := 17, constantValue := 0 }, { name := "T_LONG", type := .int, accessFlags := 25, slot := 18, constantValue := 0 }, { name := "JLA", type := (.object "jdk/internal/access/JavaLangAccess"), accessFlags := 26, slot := 19, constantValue := 0 }, { name := "SOFT_MAX_ARRAY_LENGTH", type := .int, accessFlags := 25, slot := 20, constantValue := 0 }]
  methods := #[k15m0]
  instanceTypes := #[]
  staticTypes := #[(.object "jdk/internal/misc/Unsafe"), .boolean, .int, .int, .int, .int, .int, .int, .int, .int, .int, .int, .int, .int, .int, .int, .int, .int, .int, (.object "jdk/internal/access/JavaLangAccess"), .int]
  resolved := Array.replicate 378 none
  statics := none }

def pool16 : Array CpInfo := pool [(1, u "java/lang/Cloneable"), (0, .class_ 1), (0, u "java/lang/Object"), (0, .class_ 3)] 3

/-- java/lang/Cloneable -/
def k16 : Class := { plain "java/lang/Cloneable" (some 0) with
  accessFlags := 1537
  interfaces := #[]
  cf := some (fileOf pool16 2 #[] #[] 1537 4 #[] #[])
  fields := #[]
  methods := #[]
  instanceTypes := #[]
  staticTypes := #[]
  resolved := Array.replicate 8 none
  statics := none }

/-- the primitive byte -/
def k17 : Class := { plain "byte" none with kind := .primitive 'B', accessFlags := 0x411 }
/-- [B -/
def k18 : Class := { plain "[B" (some 0) with kind := .array 17 .byte, interfaces := #[16, 2], accessFlags := 1041 }

/-- the primitive char -/
def k19 : Class := { plain "char" none with kind := .primitive 'C', accessFlags := 0x411 }
/-- [C -/
def k20 : Class := { plain "[C" (some 0) with kind := .array 19 .char, interfaces := #[16, 2], accessFlags := 1041 }

/-- the primitive int -/
def k21 : Class := { plain "int" none with kind := .primitive 'I', accessFlags := 0x411 }
/-- [I -/
def k22 : Class := { plain "[I" (some 0) with kind := .array 21 .int, interfaces := #[16, 2], accessFlags := 1041 }

def heap : Heap := #[{ cls := 7, slots := #[.long 0, .int 1, .null, .int 0, .null, .int 0, .int 0], vm := .statics 7 },
  { cls := 12, slots := #[.null, .null, .null], vm := .statics 12 }]
def classes : Array Class := #[k0, k1, k2, k3, k4, k5, k6, k7, k8, k9, k10, k11, k12, k13, k14, k15, k16, k17, k18, k19, k20, k21, k22]
def interned : List (Array UInt16 × Addr) := []
def slotsUsed : Nat := 10
def theMethod : MethodId := ⟨1, 3⟩
def args0 : Array Value := #[.int 3, .int 1, .int 2, .int 3, .int 4]
def aboutOver (below : List Frame) : State where
  vm := { classes := classes, interned := interned.toArray }
  heap := heap
  slotsUsed := slotsUsed
  threads := #[{ frames := .invoking theMethod args0 :: below }]
def below0 : List Frame := [.native { method := ⟨0, 0⟩, args := #[] }]
def about1 : State := aboutOver below0
def p0 : Program := .bare "" "" ""
def e0 : Env := launch0.env 0 0 0
theorem w_frames : about1.frames = Frame.invoking theMethod args0 :: below0 := rfl
set_option maxRecDepth 65536 in
theorem w_args : argsFit about1.vm theMethod args0 = true := by decide +kernel
set_option maxRecDepth 65536 in
theorem w_heap : heapFits about1 = true := by decide +kernel
set_option maxRecDepth 65536 in
theorem w_runnable : about1.curStatus? = some .runnable := by decide +kernel
set_option maxRecDepth 65536 in
theorem w_alone : about1.alone = true := by decide +kernel
set_option maxRecDepth 65536 in
theorem w_named : about1.methodNamed? x = some theMethod := by decide +kernel
set_option maxRecDepth 65536 in
theorem w_hears : about1.hears theMethod below0 = true := by decide +kernel
set_option maxRecDepth 65536 in
theorem w_ripe : about1.ripe theMethod args0 below0 = true := by decide +kernel
theorem w_running : about1.status = .running := rfl
set_option maxRecDepth 65536 in
theorem w_room : about1.hasRoom e0.platform room_1 = true :=
  launch0.hasRoom_least _ room_1 (by decide +kernel) (by decide +kernel) (by decide +kernel) (by decide +kernel) (by decide +kernel) (by decide +kernel)
theorem allAtoms_all (ts : List Jvm.Cond) (a : Array Jvm.Value) (st : Jvm.State) : (allAtoms ts).before a st = ts.all (fun c => c.before a st) := by
  induction ts with
  | nil => rfl
  | cons c t ih =>
    show (Jvm.Cond.and c (allAtoms t)).before a st = _
    rw [Jvm.Cond.before_and, ih, List.all_cons]
def words1 : List Jvm.Cond := Jvm.Cond.code x code maxLocals ret :: tables_1
/-- a 'code' word, met by the world's own term for the bytes: nothing is compared byte by byte -/
theorem code_word {y : MethodName} {bytes : ByteArray} {mx : Nat} {rt : Option FieldType} {a : Array Value} {s : State} {m : MethodId} {meth : Method} {c : Code} (h1 : s.methodNamed? y = some m) (h2 : s.vm.method? m = some meth) (h3 : meth.code = some c) (h4 : c.code = bytes)
    (h5 : (c.maxLocals == mx && c.exceptionTable.isEmpty && decide (c.maxStack ≤ mostOperands) && decide (meth.sig.returnType = rt) && !meth.locks && decide (parseMethodDescriptor y.desc = some meth.sig)) = true) : (Jvm.Cond.code y bytes mx rt).before a s = true := by
  simp only [Bool.and_eq_true, beq_iff_eq, Bool.not_eq_true', decide_eq_true_eq] at h5
  obtain ⟨⟨⟨⟨⟨g1, g2⟩, g3⟩, g4⟩, g5⟩, g6⟩ := h5
  simp [Cond.before, Cond.holds, Cond.value, h1, h2, h3, h4, g1, g2, g3, g4, g5, g6]
def isCode : Jvm.Cond → Bool
  | .code _ _ _ _ => true
  | _ => false
theorem all_split {L : List Jvm.Cond} {P : Jvm.Cond → Bool} (h1 : L.all (fun c => isCode c || P c) = true) (h2 : ∀ c ∈ L.filter isCode, P c = true) : L.all P = true := by
  refine List.all_eq_true.mpr fun c hc => ?_
  have h := List.all_eq_true.mp h1 c hc
  rcases Bool.eq_false_or_eq_true (isCode c) with hi | hi
  · exact h2 c (List.mem_filter.mpr ⟨hc, hi⟩)
  · simpa [hi] using h
set_option maxRecDepth 65536 in
theorem w_c0 : (Jvm.Cond.code x code maxLocals ret).before args0 about1 = true := code_word (m := ⟨1, 3⟩) (meth := k1m3) (c := k1c3) (by decide +kernel) rfl rfl rfl (by decide +kernel)
set_option maxRecDepth 65536 in
theorem w_c1 : (Jvm.Cond.code ({ cls := "com/example/onum/onum/UrisFragmentPinLaw", name := "ch", desc := "(I)C" } : Jvm.MethodName) method_2_code (1 : Nat) (Option.some Jvm.ClassFile.FieldType.char)).before args0 about1 = true := code_word (m := ⟨1, 1⟩) (meth := k1m1) (c := k1c1) (by decide +kernel) rfl rfl rfl (by decide +kernel)
set_option maxRecDepth 65536 in
theorem w_c2 : (Jvm.Cond.code ({ cls := "com/example/onum/onum/UrisFragmentPinLaw", name := "mk", desc := "(ICCCC)Ljava/lang/String;" } : Jvm.MethodName) method_3_code (5 : Nat) (Option.some (Jvm.ClassFile.FieldType.object "java/lang/String"))).before args0 about1 = true := code_word (m := ⟨1, 2⟩) (meth := k1m2) (c := k1c2) (by decide +kernel) rfl rfl rfl (by decide +kernel)
set_option maxRecDepth 65536 in
theorem w_c3 : (Jvm.Cond.code ({ cls := "java/lang/String", name := "<init>", desc := "([C)V" } : Jvm.MethodName) jdk_42_method_3_code (2 : Nat) (Option.none : Option Jvm.ClassFile.FieldType)).before args0 about1 = true := code_word (m := ⟨7, 1⟩) (meth := k7m1) (c := k7c1) (by decide +kernel) rfl rfl rfl (by decide +kernel)
set_option maxRecDepth 65536 in
theorem w_c4 : (Jvm.Cond.code ({ cls := "java/lang/String", name := "<init>", desc := "([CIILjava/lang/Void;)V" } : Jvm.MethodName) jdk_42_method_149_code (6 : Nat) (Option.none : Option Jvm.ClassFile.FieldType)).before args0 about1 = true := code_word (m := ⟨7, 9⟩) (meth := k7m9) (c := k7c9) (by decide +kernel) rfl rfl rfl (by decide +kernel)
set_option maxRecDepth 65536 in
theorem w_c5 : (Jvm.Cond.code ({ cls := "java/lang/Object", name := "<init>", desc := "()V" } : Jvm.MethodName) object_method_1_code (1 : Nat) (Option.none : Option Jvm.ClassFile.FieldType)).before args0 about1 = true := code_word (m := ⟨0, 0⟩) (meth := k0m0) (c := k0c0) (by decide +kernel) rfl rfl rfl (by decide +kernel)
set_option maxRecDepth 65536 in
theorem w_c6 : (Jvm.Cond.code ({ cls := "com/example/onum/onum/Uris", name := "fragment", desc := "(Ljava/lang/String;)Ljava/lang/String;" } : Jvm.MethodName) prog_5_method_4_code (2 : Nat) (Option.some (Jvm.ClassFile.FieldType.object "java/lang/String"))).before args0 about1 = true := code_word (m := ⟨8, 1⟩) (meth := k8m1) (c := k8c1) (by decide +kernel) rfl rfl rfl (by decide +kernel)
set_option maxRecDepth 65536 in
theorem w_c7 : (Jvm.Cond.code ({ cls := "java/lang/String", name := "indexOf", desc := "(I)I" } : Jvm.MethodName) jdk_42_method_79_code (2 : Nat) (Option.some Jvm.ClassFile.FieldType.int)).before args0 about1 = true := code_word (m := ⟨7, 5⟩) (meth := k7m5) (c := k7c5) (by decide +kernel) rfl rfl rfl (by decide +kernel)
set_option maxRecDepth 65536 in
theorem w_c8 : (Jvm.Cond.code ({ cls := "java/lang/String", name := "indexOf", desc := "(II)I" } : Jvm.MethodName) jdk_42_method_80_code (3 : Nat) (Option.some Jvm.ClassFile.FieldType.int)).before args0 about1 = true := code_word (m := ⟨7, 6⟩) (meth := k7m6) (c := k7c6) (by decide +kernel) rfl rfl rfl (by decide +kernel)
set_option maxRecDepth 65536 in
theorem w_c9 : (Jvm.Cond.code ({ cls := "java/lang/String", name := "isLatin1", desc := "()Z" } : Jvm.MethodName) jdk_42_method_154_code (1 : Nat) (Option.some Jvm.ClassFile.FieldType.boolean)).before args0 about1 = true := code_word (m := ⟨7, 12⟩) (meth := k7m12) (c := k7c12) (by decide +kernel) rfl rfl rfl (by decide +kernel)
set_option maxRecDepth 65536 in
theorem w_c10 : (Jvm.Cond.code ({ cls := "java/lang/String", name := "length", desc := "()I" } : Jvm.MethodName) jdk_42_method_54_code (1 : Nat) (Option.some Jvm.ClassFile.FieldType.int)).before args0 about1 = true := code_word (m := ⟨7, 2⟩) (meth := k7m2) (c := k7c2) (by decide +kernel) rfl rfl rfl (by decide +kernel)
set_option maxRecDepth 65536 in
theorem w_c11 : (Jvm.Cond.code ({ cls := "java/lang/String", name := "coder", desc := "()B" } : Jvm.MethodName) jdk_42_method_152_code (1 : Nat) (Option.some Jvm.ClassFile.FieldType.byte)).before args0 about1 = true := code_word (m := ⟨7, 11⟩) (meth := k7m11) (c := k7c11) (by decide +kernel) rfl rfl rfl (by decide +kernel)
set_option maxRecDepth 65536 in
theorem w_c12 : (Jvm.Cond.code ({ cls := "java/lang/StringLatin1", name := "indexOf", desc := "([BIII)I" } : Jvm.MethodName) jdk_43_method_22_code (4 : Nat) (Option.some Jvm.ClassFile.FieldType.int)).before args0 about1 = true := code_word (m := ⟨9, 3⟩) (meth := k9m3) (c := k9c3) (by decide +kernel) rfl rfl rfl (by decide +kernel)
set_option maxRecDepth 65536 in
theorem w_c13 : (Jvm.Cond.code ({ cls := "java/lang/StringLatin1", name := "canEncode", desc := "(I)Z" } : Jvm.MethodName) jdk_43_method_4_code (1 : Nat) (Option.some Jvm.ClassFile.FieldType.boolean)).before args0 about1 = true := code_word (m := ⟨9, 2⟩) (meth := k9m2) (c := k9c2) (by decide +kernel) rfl rfl rfl (by decide +kernel)
set_option maxRecDepth 65536 in
theorem w_c14 : (Jvm.Cond.code ({ cls := "java/lang/Math", name := "max", desc := "(II)I" } : Jvm.MethodName) jdk_29_method_65_code (2 : Nat) (Option.some Jvm.ClassFile.FieldType.int)).before args0 about1 = true := code_word (m := ⟨10, 1⟩) (meth := k10m1) (c := k10c1) (by decide +kernel) rfl rfl rfl (by decide +kernel)
set_option maxRecDepth 65536 in
theorem w_c15 : (Jvm.Cond.code ({ cls := "java/lang/Math", name := "min", desc := "(II)I" } : Jvm.MethodName) jdk_29_method_69_code (2 : Nat) (Option.some Jvm.ClassFile.FieldType.int)).before args0 about1 = true := code_word (m := ⟨10, 2⟩) (meth := k10m2) (c := k10c2) (by decide +kernel) rfl rfl rfl (by decide +kernel)
set_option maxRecDepth 65536 in
theorem w_c16 : (Jvm.Cond.code ({ cls := "java/lang/String", name := "isEmpty", desc := "()Z" } : Jvm.MethodName) jdk_42_method_55_code (1 : Nat) (Option.some Jvm.ClassFile.FieldType.boolean)).before args0 about1 = true := code_word (m := ⟨7, 3⟩) (meth := k7m3) (c := k7c3) (by decide +kernel) rfl rfl rfl (by decide +kernel)
set_option maxRecDepth 65536 in
theorem w_c17 : (Jvm.Cond.code ({ cls := "java/lang/StringUTF16", name := "compress", desc := "([CII)[B" } : Jvm.MethodName) jdk_52_method_16_code (6 : Nat) (Option.some (Jvm.ClassFile.FieldType.array Jvm.ClassFile.FieldType.byte))).before args0 about1 = true := code_word (m := ⟨11, 2⟩) (meth := k11m2) (c := k11c2) (by decide +kernel) rfl rfl rfl (by decide +kernel)
set_option maxRecDepth 65536 in
theorem w_c18 : (Jvm.Cond.code ({ cls := "java/lang/StringUTF16", name := "compress", desc := "([CI[BII)I" } : Jvm.MethodName) jdk_52_method_21_code (7 : Nat) (Option.some Jvm.ClassFile.FieldType.int)).before args0 about1 = true := code_word (m := ⟨11, 3⟩) (meth := k11m3) (c := k11c3) (by decide +kernel) rfl rfl rfl (by decide +kernel)
set_option maxRecDepth 65536 in
theorem w_c19 : (Jvm.Cond.code ({ cls := "java/lang/StringUTF16", name := "coderFromArrayLen", desc := "([BI)B" } : Jvm.MethodName) jdk_52_method_15_code (2 : Nat) (Option.some Jvm.ClassFile.FieldType.byte)).before args0 about1 = true := code_word (m := ⟨11, 1⟩) (meth := k11m1) (c := k11c1) (by decide +kernel) rfl rfl rfl (by decide +kernel)
set_option maxRecDepth 65536 in
theorem w_c20 : (Jvm.Cond.code ({ cls := "java/lang/StringLatin1", name := "indexOfChar", desc := "([BIII)I" } : Jvm.MethodName) jdk_43_method_23_code (6 : Nat) (Option.some Jvm.ClassFile.FieldType.int)).before args0 about1 = true := code_word (m := ⟨9, 4⟩) (meth := k9m4) (c := k9c4) (by decide +kernel) rfl rfl rfl (by decide +kernel)
set_option maxRecDepth 65536 in
theorem w_c21 : (Jvm.Cond.code ({ cls := "java/lang/String", name := "substring", desc := "(I)Ljava/lang/String;" } : Jvm.MethodName) jdk_42_method_91_code (2 : Nat) (Option.some (Jvm.ClassFile.FieldType.object "java/lang/String"))).before args0 about1 = true := code_word (m := ⟨7, 7⟩) (meth := k7m7) (c := k7c7) (by decide +kernel) rfl rfl rfl (by decide +kernel)
set_option maxRecDepth 65536 in
theorem w_c22 : (Jvm.Cond.code ({ cls := "java/lang/String", name := "substring", desc := "(II)Ljava/lang/String;" } : Jvm.MethodName) jdk_42_method_92_code (5 : Nat) (Option.some (Jvm.ClassFile.FieldType.object "java/lang/String"))).before args0 about1 = true := code_word (m := ⟨7, 8⟩) (meth := k7m8) (c := k7c8) (by decide +kernel) rfl rfl rfl (by decide +kernel)
set_option maxRecDepth 65536 in
theorem w_c23 : (Jvm.Cond.code ({ cls := "java/lang/String", name := "checkBoundsBeginEnd", desc := "(III)V" } : Jvm.MethodName) jdk_42_method_158_code (3 : Nat) (Option.none : Option Jvm.ClassFile.FieldType)).before args0 about1 = true := code_word (m := ⟨7, 14⟩) (meth := k7m14) (c := k7c14) (by decide +kernel) rfl rfl rfl (by decide +kernel)
set_option maxRecDepth 65536 in
theorem w_c24 : (Jvm.Cond.code ({ cls := "jdk/internal/util/Preconditions", name := "checkFromToIndex", desc := "(IIILjava/util/function/BiFunction;)I" } : Jvm.MethodName) jdk_41_method_12_code (4 : Nat) (Option.some Jvm.ClassFile.FieldType.int)).before args0 about1 = true := code_word (m := ⟨12, 2⟩) (meth := k12m2) (c := k12c2) (by decide +kernel) rfl rfl rfl (by decide +kernel)
set_option maxRecDepth 65536 in
theorem w_c25 : (Jvm.Cond.code ({ cls := "java/lang/StringLatin1", name := "newString", desc := "([BII)Ljava/lang/String;" } : Jvm.MethodName) jdk_43_method_47_code (3 : Nat) (Option.some (Jvm.ClassFile.FieldType.object "java/lang/String"))).before args0 about1 = true := code_word (m := ⟨9, 5⟩) (meth := k9m5) (c := k9c5) (by decide +kernel) rfl rfl rfl (by decide +kernel)
set_option maxRecDepth 65536 in
theorem w_c26 : (Jvm.Cond.code ({ cls := "java/util/Arrays", name := "copyOfRange", desc := "([BII)[B" } : Jvm.MethodName) jdk_65_method_132_code (3 : Nat) (Option.some (Jvm.ClassFile.FieldType.array Jvm.ClassFile.FieldType.byte))).before args0 about1 = true := code_word (m := ⟨13, 2⟩) (meth := k13m2) (c := k13c2) (by decide +kernel) rfl rfl rfl (by decide +kernel)
set_option maxRecDepth 65536 in
theorem w_c27 : (Jvm.Cond.code ({ cls := "java/util/Arrays", name := "copyOfRangeByte", desc := "([BII)[B" } : Jvm.MethodName) jdk_65_method_133_code (5 : Nat) (Option.some (Jvm.ClassFile.FieldType.array Jvm.ClassFile.FieldType.byte))).before args0 about1 = true := code_word (m := ⟨13, 3⟩) (meth := k13m3) (c := k13c3) (by decide +kernel) rfl rfl rfl (by decide +kernel)
set_option maxRecDepth 65536 in
theorem w_c28 : (Jvm.Cond.code ({ cls := "java/util/Arrays", name := "checkLength", desc := "(II)V" } : Jvm.MethodName) jdk_65_method_131_code (2 : Nat) (Option.none : Option Jvm.ClassFile.FieldType)).before args0 about1 = true := code_word (m := ⟨13, 1⟩) (meth := k13m1) (c := k13c1) (by decide +kernel) rfl rfl rfl (by decide +kernel)
set_option maxRecDepth 65536 in
theorem w_c29 : (Jvm.Cond.code ({ cls := "java/lang/String", name := "<init>", desc := "([BB)V" } : Jvm.MethodName) jdk_42_method_151_code (3 : Nat) (Option.none : Option Jvm.ClassFile.FieldType)).before args0 about1 = true := code_word (m := ⟨7, 10⟩) (meth := k7m10) (c := k7c10) (by decide +kernel) rfl rfl rfl (by decide +kernel)
set_option maxRecDepth 65536 in
theorem w_c30 : (Jvm.Cond.code ({ cls := "java/lang/String", name := "charAt", desc := "(I)C" } : Jvm.MethodName) jdk_42_method_56_code (2 : Nat) (Option.some Jvm.ClassFile.FieldType.char)).before args0 about1 = true := code_word (m := ⟨7, 4⟩) (meth := k7m4) (c := k7c4) (by decide +kernel) rfl rfl rfl (by decide +kernel)
set_option maxRecDepth 65536 in
theorem w_c31 : (Jvm.Cond.code ({ cls := "java/lang/StringLatin1", name := "charAt", desc := "([BI)C" } : Jvm.MethodName) jdk_43_method_2_code (2 : Nat) (Option.some Jvm.ClassFile.FieldType.char)).before args0 about1 = true := code_word (m := ⟨9, 1⟩) (meth := k9m1) (c := k9c1) (by decide +kernel) rfl rfl rfl (by decide +kernel)
set_option maxRecDepth 65536 in
theorem w_c32 : (Jvm.Cond.code ({ cls := "java/lang/String", name := "checkIndex", desc := "(II)V" } : Jvm.MethodName) jdk_42_method_155_code (2 : Nat) (Option.none : Option Jvm.ClassFile.FieldType)).before args0 about1 = true := code_word (m := ⟨7, 13⟩) (meth := k7m13) (c := k7c13) (by decide +kernel) rfl rfl rfl (by decide +kernel)
set_option maxRecDepth 65536 in
theorem w_c33 : (Jvm.Cond.code ({ cls := "jdk/internal/util/Preconditions", name := "checkIndex", desc := "(IILjava/util/function/BiFunction;)I" } : Jvm.MethodName) jdk_41_method_11_code (3 : Nat) (Option.some Jvm.ClassFile.FieldType.int)).before args0 about1 = true := code_word (m := ⟨12, 1⟩) (meth := k12m1) (c := k12c1) (by decide +kernel) rfl rfl rfl (by decide +kernel)
def codes1 : List Jvm.Cond := [Jvm.Cond.code x code maxLocals ret, Jvm.Cond.code ({ cls := "com/example/onum/onum/UrisFragmentPinLaw", name := "ch", desc := "(I)C" } : Jvm.MethodName) method_2_code (1 : Nat) (Option.some Jvm.ClassFile.FieldType.char), Jvm.Cond.code ({ cls := "com/example/onum/onum/UrisFragmentPinLaw", name := "mk", desc := "(ICCCC)Ljava/lang/String;" } : Jvm.MethodName) method_3_code (5 : Nat) (Option.some (Jvm.ClassFile.FieldType.object "java/lang/String")), Jvm.Cond.code ({ cls := "java/lang/String", name := "<init>", desc := "([C)V" } : Jvm.MethodName) jdk_42_method_3_code (2 : Nat) (Option.none : Option Jvm.ClassFile.FieldType), Jvm.Cond.code ({ cls := "java/lang/String", name := "<init>", desc := "([CIILjava/lang/Void;)V" } : Jvm.MethodName) jdk_42_method_149_code (6 : Nat) (Option.none : Option Jvm.ClassFile.FieldType), Jvm.Cond.code ({ cls := "java/lang/Object", name := "<init>", desc := "()V" } : Jvm.MethodName) object_method_1_code (1 : Nat) (Option.none : Option Jvm.ClassFile.FieldType), Jvm.Cond.code ({ cls := "com/example/onum/onum/Uris", name := "fragment", desc := "(Ljava/lang/String;)Ljava/lang/String;" } : Jvm.MethodName) prog_5_method_4_code (2 : Nat) (Option.some (Jvm.ClassFile.FieldType.object "java/lang/String")), Jvm.Cond.code ({ cls := "java/lang/String", name := "indexOf", desc := "(I)I" } : Jvm.MethodName) jdk_42_method_79_code (2 : Nat) (Option.some Jvm.ClassFile.FieldType.int), Jvm.Cond.code ({ cls := "java/lang/String", name := "indexOf", desc := "(II)I" } : Jvm.MethodName) jdk_42_method_80_code (3 : Nat) (Option.some Jvm.ClassFile.FieldType.int), Jvm.Cond.code ({ cls := "java/lang/String", name := "isLatin1", desc := "()Z" } : Jvm.MethodName) jdk_42_method_154_code (1 : Nat) (Option.some Jvm.ClassFile.FieldType.boolean), Jvm.Cond.code ({ cls := "java/lang/String", name := "length", desc := "()I" } : Jvm.MethodName) jdk_42_method_54_code (1 : Nat) (Option.some Jvm.ClassFile.FieldType.int), Jvm.Cond.code ({ cls := "java/lang/String", name := "coder", desc := "()B" } : Jvm.MethodName) jdk_42_method_152_code (1 : Nat) (Option.some Jvm.ClassFile.FieldType.byte), Jvm.Cond.code ({ cls := "java/lang/StringLatin1", name := "indexOf", desc := "([BIII)I" } : Jvm.MethodName) jdk_43_method_22_code (4 : Nat) (Option.some Jvm.ClassFile.FieldType.int), Jvm.Cond.code ({ cls := "java/lang/StringLatin1", name := "canEncode", desc := "(I)Z" } : Jvm.MethodName) jdk_43_method_4_code (1 : Nat) (Option.some Jvm.ClassFile.FieldType.boolean), Jvm.Cond.code ({ cls := "java/lang/Math", name := "max", desc := "(II)I" } : Jvm.MethodName) jdk_29_method_65_code (2 : Nat) (Option.some Jvm.ClassFile.FieldType.int), Jvm.Cond.code ({ cls := "java/lang/Math", name := "min", desc := "(II)I" } : Jvm.MethodName) jdk_29_method_69_code (2 : Nat) (Option.some Jvm.ClassFile.FieldType.int), Jvm.Cond.code ({ cls := "java/lang/String", name := "isEmpty", desc := "()Z" } : Jvm.MethodName) jdk_42_method_55_code (1 : Nat) (Option.some Jvm.ClassFile.FieldType.boolean), Jvm.Cond.code ({ cls := "java/lang/StringUTF16", name := "compress", desc := "([CII)[B" } : Jvm.MethodName) jdk_52_method_16_code (6 : Nat) (Option.some (Jvm.ClassFile.FieldType.array Jvm.ClassFile.FieldType.byte)), Jvm.Cond.code ({ cls := "java/lang/StringUTF16", name := "compress", desc := "([CI[BII)I" } : Jvm.MethodName) jdk_52_method_21_code (7 : Nat) (Option.some Jvm.ClassFile.FieldType.int), Jvm.Cond.code ({ cls := "java/lang/StringUTF16", name := "coderFromArrayLen", desc := "([BI)B" } : Jvm.MethodName) jdk_52_method_15_code (2 : Nat) (Option.some Jvm.ClassFile.FieldType.byte), Jvm.Cond.code ({ cls := "java/lang/StringLatin1", name := "indexOfChar", desc := "([BIII)I" } : Jvm.MethodName) jdk_43_method_23_code (6 : Nat) (Option.some Jvm.ClassFile.FieldType.int), Jvm.Cond.code ({ cls := "java/lang/String", name := "substring", desc := "(I)Ljava/lang/String;" } : Jvm.MethodName) jdk_42_method_91_code (2 : Nat) (Option.some (Jvm.ClassFile.FieldType.object "java/lang/String")), Jvm.Cond.code ({ cls := "java/lang/String", name := "substring", desc := "(II)Ljava/lang/String;" } : Jvm.MethodName) jdk_42_method_92_code (5 : Nat) (Option.some (Jvm.ClassFile.FieldType.object "java/lang/String")), Jvm.Cond.code ({ cls := "java/lang/String", name := "checkBoundsBeginEnd", desc := "(III)V" } : Jvm.MethodName) jdk_42_method_158_code (3 : Nat) (Option.none : Option Jvm.ClassFile.FieldType), Jvm.Cond.code ({ cls := "jdk/internal/util/Preconditions", name := "checkFromToIndex", desc := "(IIILjava/util/function/BiFunction;)I" } : Jvm.MethodName) jdk_41_method_12_code (4 : Nat) (Option.some Jvm.ClassFile.FieldType.int), Jvm.Cond.code ({ cls := "java/lang/StringLatin1", name := "newString", desc := "([BII)Ljava/lang/String;" } : Jvm.MethodName) jdk_43_method_47_code (3 : Nat) (Option.some (Jvm.ClassFile.FieldType.object "java/lang/String")), Jvm.Cond.code ({ cls := "java/util/Arrays", name := "copyOfRange", desc := "([BII)[B" } : Jvm.MethodName) jdk_65_method_132_code (3 : Nat) (Option.some (Jvm.ClassFile.FieldType.array Jvm.ClassFile.FieldType.byte)), Jvm.Cond.code ({ cls := "java/util/Arrays", name := "copyOfRangeByte", desc := "([BII)[B" } : Jvm.MethodName) jdk_65_method_133_code (5 : Nat) (Option.some (Jvm.ClassFile.FieldType.array Jvm.ClassFile.FieldType.byte)), Jvm.Cond.code ({ cls := "java/util/Arrays", name := "checkLength", desc := "(II)V" } : Jvm.MethodName) jdk_65_method_131_code (2 : Nat) (Option.none : Option Jvm.ClassFile.FieldType), Jvm.Cond.code ({ cls := "java/lang/String", name := "<init>", desc := "([BB)V" } : Jvm.MethodName) jdk_42_method_151_code (3 : Nat) (Option.none : Option Jvm.ClassFile.FieldType), Jvm.Cond.code ({ cls := "java/lang/String", name := "charAt", desc := "(I)C" } : Jvm.MethodName) jdk_42_method_56_code (2 : Nat) (Option.some Jvm.ClassFile.FieldType.char), Jvm.Cond.code ({ cls := "java/lang/StringLatin1", name := "charAt", desc := "([BI)C" } : Jvm.MethodName) jdk_43_method_2_code (2 : Nat) (Option.some Jvm.ClassFile.FieldType.char), Jvm.Cond.code ({ cls := "java/lang/String", name := "checkIndex", desc := "(II)V" } : Jvm.MethodName) jdk_42_method_155_code (2 : Nat) (Option.none : Option Jvm.ClassFile.FieldType), Jvm.Cond.code ({ cls := "jdk/internal/util/Preconditions", name := "checkIndex", desc := "(IILjava/util/function/BiFunction;)I" } : Jvm.MethodName) jdk_41_method_11_code (3 : Nat) (Option.some Jvm.ClassFile.FieldType.int)]
set_option maxRecDepth 65536 in
theorem codes_eq : words1.filter isCode = codes1 := rfl
theorem w_codes : ∀ c ∈ words1.filter isCode, c.before args0 about1 = true := by
  rw [codes_eq]
  intro c hc
  simp only [codes1, List.mem_cons, List.not_mem_nil, or_false] at hc
  rcases hc with rfl | rfl | rfl | rfl | rfl | rfl | rfl | rfl | rfl | rfl | rfl | rfl | rfl | rfl | rfl | rfl | rfl | rfl | rfl | rfl | rfl | rfl | rfl | rfl | rfl | rfl | rfl | rfl | rfl | rfl | rfl | rfl | rfl | rfl
  · exact w_c0
  · exact w_c1
  · exact w_c2
  · exact w_c3
  · exact w_c4
  · exact w_c5
  · exact w_c6
  · exact w_c7
  · exact w_c8
  · exact w_c9
  · exact w_c10
  · exact w_c11
  · exact w_c12
  · exact w_c13
  · exact w_c14
  · exact w_c15
  · exact w_c16
  · exact w_c17
  · exact w_c18
  · exact w_c19
  · exact w_c20
  · exact w_c21
  · exact w_c22
  · exact w_c23
  · exact w_c24
  · exact w_c25
  · exact w_c26
  · exact w_c27
  · exact w_c28
  · exact w_c29
  · exact w_c30
  · exact w_c31
  · exact w_c32
  · exact w_c33
set_option maxRecDepth 65536 in
theorem w_t1 : (words1.take 24).all (fun c => isCode c || c.before args0 about1) = true := by decide +kernel
set_option maxRecDepth 65536 in
theorem w_t2 : ((words1.drop 24).take 24).all (fun c => isCode c || c.before args0 about1) = true := by decide +kernel
set_option maxRecDepth 65536 in
theorem w_t3 : (((words1.drop 24).drop 24).take 24).all (fun c => isCode c || c.before args0 about1) = true := by decide +kernel
set_option maxRecDepth 65536 in
theorem w_t4 : ((((words1.drop 24).drop 24).drop 24).take 24).all (fun c => isCode c || c.before args0 about1) = true := by decide +kernel
set_option maxRecDepth 65536 in
theorem w_t5 : (((((words1.drop 24).drop 24).drop 24).drop 24).take 24).all (fun c => isCode c || c.before args0 about1) = true := by decide +kernel
set_option maxRecDepth 65536 in
theorem w_t6 : ((((((words1.drop 24).drop 24).drop 24).drop 24).drop 24).take 24).all (fun c => isCode c || c.before args0 about1) = true := by decide +kernel
set_option maxRecDepth 65536 in
theorem w_t7 : ((((((words1.drop 24).drop 24).drop 24).drop 24).drop 24).drop 24).all (fun c => isCode c || c.before args0 about1) = true := by decide +kernel
theorem w_tables : (allAtoms (Jvm.Cond.code x code maxLocals ret :: tables_1)).before args0 about1 = true := by
  rw [allAtoms_all]
  show words1.all (fun c => c.before args0 about1) = true
  refine all_split ?_ w_codes
  rw [← List.take_append_drop 24 words1, List.all_append, w_t1, ← List.take_append_drop 24 (words1.drop 24), List.all_append, w_t2, ← List.take_append_drop 24 ((words1.drop 24).drop 24), List.all_append, w_t3, ← List.take_append_drop 24 (((words1.drop 24).drop 24).drop 24), List.all_append, w_t4, ← List.take_append_drop 24 ((((words1.drop 24).drop 24).drop 24).drop 24), List.all_append, w_t5, ← List.take_append_drop 24 (((((words1.drop 24).drop 24).drop 24).drop 24).drop 24), List.all_append, w_t6, w_t7]
  rfl
set_option maxRecDepth 65536 in
theorem w_rest : rest_1_c.before args0 about1 = true := by decide +kernel
set_option maxRecDepth 65536 in
theorem w_case : (Jvm.Cond.and given_1 narrow_1).before args0 about1 = true := by decide +kernel
set_option maxRecDepth 65536 in
theorem w_consts : constsHeld consts_1 about1 := Jvm.Lit.constsHeldB_iff.mp (by decide +kernel)
theorem w_applies : (headSpec (Jvm.Cond.code x code maxLocals ret :: tables_1) room_1).applies x e0.platform about1 = true :=
  (Spec.applies_iff w_frames).mpr ⟨w_running, w_runnable, w_alone, w_named, w_hears, w_ripe, w_room, w_tables⟩
theorem atStart : AtStart classFile x code maxLocals ret World_1 tables_1 room_1 Calls_1 rest_1 Pre_1 launch0 p0 e0 about1 theMethod args0 below0 :=
  ⟨lists_1, trivial, launch0.admits_env _ _ _, launch0.least_env, fairChoices_fair.cas, fairChoices_fair.clock, w_frames, w_args, w_heap, w_applies, ⟨w_consts, trivial⟩, w_rest, w_case⟩
end start1
theorem witness_1 : WitnessClaimed_1 := ⟨start1.p0, start1.e0, start1.about1, start1.theMethod, start1.args0, start1.below0, start1.atStart⟩
end Jvm.Pilot.@@N@@
