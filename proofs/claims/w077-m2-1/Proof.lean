import JvmDerived
import JvmDerived.Pilot.@@N@@Statement
import JvmDerived.Pilot.@@N@@Code
set_option linter.unusedVariables false
set_option linter.unusedSimpArgs false
namespace Jvm.OwnKit
open Jvm Jvm.ClassFile Sem Op Lib Jvm.Free Jvm.Stand Jvm.LawKit Jvm.RoadKit Bundle
/-- what is known of the body at hand -/
def Me (p : Program) (meth : Method) (c : Code) (nm : String) (bytes : ByteArray) (maxL : Nat) (ret : Option FieldType) : Prop :=
  p.tables.exec = Jvm.exec ∧ c.code = bytes ∧ c.maxLocals = maxL ∧ meth.sig.returnType = ret ∧ meth.locks = false ∧ meth.name = nm
/-- the walk stands at T, whose heap is h; ss: addresses that are no booked constant's -/
def Wk (p : Program) (l : Launch) (e : Env) (R : Room) (s : State) (m : MethodId) (args : Array Value) (below : List Frame) (meth : Method) (c : Code)
    (Z : State) (EL : List (String × Nat)) (kn : Bool) (own : String) (T : State) (h : Heap) (ss : List Addr) (cells slots : Nat) : Prop :=
  ∃ (vm0 : Vm) (locs : List Loc) (k0 : Nat), Stand p l e R (s.setVm vm0) m args below meth c T locs cells slots ∧ T.heap = h ∧ Z.Warmed39 vm0 ∧ s.Since vm0 k0 ∧ k0 ≤ h.size ∧
    vm0.findClass own = some m.cls ∧ Fr Z.heap.size locs ∧ Old Z Z.heap.size h ∧ CHr Z EL s.vm s.heap vm0 h ∧ (∀ x ∈ ss, x < h.size ∧ Safe Z EL vm0 h x) ∧ (kn = true → vm0.MethodsKnown ∧ vm0.FramesKnown below)
/-- from T at g the body comes to its end, with P of what it returns and of the heap -/
def Fi (p : Program) (e : Env) (below : List Frame) (s Z : State) (EL : List (String × Nat)) (kc ks : Nat) (P : Option Value → Heap → Prop) (T : State) (g : JFrame) : Prop :=
  ∃ (s₂ : State) (v : Option Value) (L : List Loc), Steps p.tables e below (T.setTop g) s₂ ∧ s₂.status = .running ∧ Ended s₂ below (.returned v) ∧ P v s₂.heap ∧ Fr Z.heap.size L ∧
    Old Z Z.heap.size s₂.heap ∧ CHr Z EL s.vm s.heap s₂.vm s₂.heap ∧ ReturnedEndW s (.returned v) s₂ L kc ks
/-- a method's contract at given arguments and heap -/
def Con (l : Launch) (Z : State) (EL : List (String × Nat)) (kn : Bool) (ws : List Cond) (y : MethodName) (bytes : ByteArray) (maxL : Nat) (ret : Option FieldType) (rm : Room) (as' : Array Value) (h0 : Heap) (ss : List Addr)
    (P : Option Value → Heap → Prop) : Prop :=
  MetFree l y (head1 (Cond.code y bytes maxL ret :: ws) rm) (fun a U => a = as' ∧ Z.Warmed39 U.vm ∧ U.heap = h0 ∧ CHv Z EL U.vm h0 ∧ (∀ x ∈ ss, x < h0.size ∧ Safe Z EL U.vm h0 x))
    (fun _ _ bl U _ => kn = true → U.vm.MethodsKnown ∧ U.vm.FramesKnown bl)
    (fun _ U o U' => ∃ v L, o = .returned v ∧ (P v U'.heap ∧ Fr Z.heap.size L ∧ Old Z Z.heap.size U'.heap) ∧ CHr Z EL U.vm U.heap U'.vm U'.heap ∧ ReturnedEndW U o U' L rm.cells rm.slots)
def rV (P : Value → Heap → Prop) : Option Value → Heap → Prop := fun v h => ∃ w, v = some w ∧ P w h
def rU (P : Heap → Prop) : Option Value → Heap → Prop := fun v h => v = none ∧ P h
/-- an address that may be written -/
def Sf (Z : State) (h : Heap) (ss : List Addr) (a : Addr) : Prop :=
  a ∈ ss ∨ (∃ C, Exa Z h a C ∧ C ≠ "java/lang/String" ∧ C ≠ "[B") ∨ (∃ cl ty, Arr Z h a cl ty ∧ ty ≠ .byte)
section Kit
variable {p : Program} {l : Launch} {e : Env} {R : Room} {s : State} {m : MethodId} {args : Array Value} {below : List Frame} {meth : Method} {c : Code} {Z : State} {a0 : Array Value} {EL : List (String × Nat)} {kn : Bool} {own : String}
  {T : State} {h h' h2 : Heap} {ss : List Addr} {cells slots : Nat} {nm : String} {bytes : ByteArray} {maxL : Nat} {ret : Option FieldType} {kc ks : Nat} {P : Option Value → Heap → Prop} {pc : Nat} {Ls : Array Slot} {st : List Value}
theorem Me.x (me : Me p meth c nm bytes maxL ret) : p.tables.exec = Jvm.exec := me.1
theorem Me.b (me : Me p meth c nm bytes maxL ret) : c.code = bytes := me.2.1
theorem Me.ml (me : Me p meth c nm bytes maxL ret) : c.maxLocals = maxL := me.2.2.1
theorem Me.r (me : Me p meth c nm bytes maxL ret) : meth.sig.returnType = ret := me.2.2.2.1
theorem Me.k (me : Me p meth c nm bytes maxL ret) : meth.locks = false := me.2.2.2.2.1
theorem Me.n (me : Me p meth c nm bytes maxL ret) : meth.name = nm := me.2.2.2.2.2
theorem Fi.step {T' : State} {g g' : JFrame} (k : ∀ t, Steps p.tables e below (T'.setTop g') t → Steps p.tables e below (T.setTop g) t) (F : Fi p e below s Z EL kc ks P T' g') : Fi p e below s Z EL kc ks P T g := by
  obtain ⟨s₂, v, L, h1, r⟩ := F
  exact ⟨s₂, v, L, k _ h1, r⟩
theorem Fi.mono {P' : Option Value → Heap → Prop} {g : JFrame} (F : Fi p e below s Z EL kc ks P T g) (q : ∀ v h, P v h → P' v h) : Fi p e below s Z EL kc ks P' T g := by
  obtain ⟨s₂, v, L, h1, h2, h3, h4, r⟩ := F
  exact ⟨s₂, v, L, h1, h2, h3, q _ _ h4, r⟩
theorem Wk.heap (W : Wk p l e R s m args below meth c Z EL kn own T h ss cells slots) : T.heap = h := by obtain ⟨_, _, _, -, e, -⟩ := W; exact e
theorem Wk.here (W : Wk p l e R s m args below meth c Z EL kn own T h ss cells slots) : At T m c below := by obtain ⟨_, _, _, X, -⟩ := W; exact X.here
theorem Wk.old (W : Wk p l e R s m args below meth c Z EL kn own T h ss cells slots) : Old Z Z.heap.size h := by obtain ⟨_, _, _, -, -, -, -, -, -, -, O, -⟩ := W; exact O
theorem Wk.more {cells' slots' : Nat} (W : Wk p l e R s m args below meth c Z EL kn own T h ss cells slots) (hc : cells ≤ cells') (hs : slots ≤ slots') : Wk p l e R s m args below meth c Z EL kn own T h ss cells' slots' := by
  obtain ⟨vm0, locs, k0, X, r⟩ := W; exact ⟨vm0, locs, k0, X.more hc hs, r⟩
theorem Wk.less {ss' : List Addr} (W : Wk p l e R s m args below meth c Z EL kn own T h ss cells slots) (q : ∀ x ∈ ss', x ∈ ss) : Wk p l e R s m args below meth c Z EL kn own T h ss' cells slots := by
  obtain ⟨vm0, locs, k0, h1, h2, h3, h4, h5, h6, h7, h8, h9, h10, h11⟩ := W; exact ⟨vm0, locs, k0, h1, h2, h3, h4, h5, h6, h7, h8, h9, fun x hx => h10 x (q x hx), h11⟩
theorem ReturnedEndW.mono {s t : State} {o : Outcome} {L : List Loc} {k n k' n' : Nat} (q : ReturnedEndW s o t L k n) (hk : k ≤ k') (hn : n ≤ n') : ReturnedEndW s o t L k' n' := ⟨q.1, q.2.1, q.2.2.1, q.2.2.2.mono hk hn⟩
theorem Wk.leave (W : Wk p l e R s m args below meth c Z EL kn own T h ss cells slots) (hEL : EW Z a0 EL) (me : Me p meth c nm bytes maxL ret) (hc : cells ≤ kc) (hs : slots ≤ ks) {v : Option Value} (hv : ret = none → v = none) {g : JFrame}
    (hst : ∀ {vm0 : Vm} {locs : List Loc} (X : Stand p l e R (s.setVm vm0) m args below meth c T locs cells slots) {fs : List Frame}, (∀ (f : JFrame) (acts : List Action), f.method = m → f.locked = none → f.entered = [] → (doReturn e (T.setTop f) acts v).1 = T.setFrames fs) → Steps p.tables e below (T.setTop g) (T.setFrames fs))
    (hP : P v h) : Fi p e below s Z EL kc ks P T g := by
  obtain ⟨vm0, locs, k0, X, eT, hZ, hS, hk, hown, N, O, C, -, -⟩ := W
  have hk' := me.k
  obtain ⟨fs, hr, hrun, hend, hR⟩ := X.leaveW hS (by rw [eT]; exact hk) (v := v) (fun q => hv (me.r ▸ q)) hk'
  subst eT
  have C' := C.trans (CHv.at X hZ hEL C.1)
  exact ⟨T.setFrames fs, v, locs, hst X hr, hrun, hend, hP, N, O, C', ReturnedEndW.mono hR hc hs⟩
theorem Wk.retU (W : Wk p l e R s m args below meth c Z EL kn own T h ss cells slots) (hEL : EW Z a0 EL) (me : Me p meth c nm bytes maxL none) (hd : decode bytes pc = .ok (.return_, 1)) {P : Heap → Prop} (hP : P h) (hc : cells ≤ kc) (hs : slots ≤ ks) :
    Fi p e below s Z EL kc ks (rU P) T (mkF m pc Ls []) :=
  W.leave hEL me hc hs (v := none) (fun _ => rfl) (fun X _ hr => X.returnOut me.x me.r (hb me.b hd) hr) ⟨rfl, hP⟩
theorem Wk.retV {t : FieldType} {w : Value} {i : Instr} (W : Wk p l e R s m args below meth c Z EL kn own T h ss cells slots) (hEL : EW Z a0 EL) (me : Me p meth c nm bytes maxL (some t)) (hd : decode bytes pc = .ok (i, 1)) {P : Value → Heap → Prop} (hP : P w h) (hc : cells ≤ kc) (hs : slots ≤ ks) (hn : narrow t w = w)
    (hi : (i = .ireturn ∧ (t = .int ∨ t = .boolean ∨ t = .byte ∨ t = .char ∨ t = .short) ∧ ∃ z, w = .int z) ∨ (i = .lreturn ∧ t = .long ∧ ∃ z, w = .long z) ∨ (i = .dreturn ∧ t = .double ∧ ∃ z, w = .double z) ∨ (i = .freturn ∧ t = .float ∧ ∃ z, w = .float z) ∨ (i = .areturn ∧ t.isReference = true ∧ w.isRef = true)) :
    Fi p e below s Z EL kc ks (rV P) T (mkF m pc Ls (w :: st)) :=
  W.leave hEL me hc hs (v := some w) (fun q => nomatch q) (fun X _ hr => retOut X me.x me.r hn hi (hb me.b hd) hr) ⟨w, rfl, hP⟩
theorem Wk.retI {z : Int32} (W : Wk p l e R s m args below meth c Z EL kn own T h ss cells slots) (hEL : EW Z a0 EL) (me : Me p meth c nm bytes maxL (some .int)) (hd : decode bytes pc = .ok (.ireturn, 1)) {P : Value → Heap → Prop} (hP : P (.int z) h) (hc : cells ≤ kc) (hs : slots ≤ ks) :
    Fi p e below s Z EL kc ks (rV P) T (mkF m pc Ls (.int z :: st)) := W.retV hEL me hd hP hc hs rfl (Or.inl ⟨rfl, Or.inl rfl, z, rfl⟩)
theorem Wk.retA {w : Value} {t : FieldType} (W : Wk p l e R s m args below meth c Z EL kn own T h ss cells slots) (hEL : EW Z a0 EL) (me : Me p meth c nm bytes maxL (some t)) (hd : decode bytes pc = .ok (.areturn, 1)) {P : Value → Heap → Prop} (hP : P w h) (hc : cells ≤ kc) (hs : slots ≤ ks) (hw : w.isRef = true) (ht : t.isReference = true) (hn : narrow t w = w) :
    Fi p e below s Z EL kc ks (rV P) T (mkF m pc Ls (w :: st)) := W.retV hEL me hd hP hc hs hn (Or.inr (Or.inr (Or.inr (Or.inr ⟨rfl, ht, hw⟩))))
/-- a small int returned: boolean, byte, char, short, as 'nar' keeps it -/
theorem Wk.retN {z : Int32} {t : FieldType} (W : Wk p l e R s m args below meth c Z EL kn own T h ss cells slots) (hEL : EW Z a0 EL) (me : Me p meth c nm bytes maxL (some t)) (ht : t = .boolean ∨ t = .byte ∨ t = .char ∨ t = .short) (hd : decode bytes pc = .ok (.ireturn, 1)) {P : Value → Heap → Prop} (hP : P (.int (nar t z)) h) (hc : cells ≤ kc) (hs : slots ≤ ks) :
    Fi p e below s Z EL kc ks (rV P) T (mkF m pc Ls (.int z :: st)) :=
  W.leave hEL me hc hs (v := some (.int (nar t z))) (fun q => nomatch q) (fun X _ hr => Jvm.RoadKit.retN X me.x me.r ht (hb me.b hd) hr) ⟨_, rfl, hP⟩
/-- the contract by its body -/
theorem Con.of {ws : List Cond} {y : MethodName} {rm : Room} {as' : Array Value} (hp : plainName y.cls = true) (hO : Old Z Z.heap.size h)
    (body : ∀ (p : Program) (e : Env) (s : State) (m : MethodId) (below : List Frame) (meth : Method) (c : Code) (T : State), Me p meth c y.name bytes maxL ret → Wk p l e rm s m as' below meth c Z EL kn y.cls T h ss 0 0 → Fi p e below s Z EL rm.cells rm.slots P T (entryFrame m as' maxL)) :
    Con l Z EL kn ws y bytes maxL ret rm as' h ss P := by
  refine MetFree.of_bodySF (plainFor_of_name hp) hisR ?_
  intro p e s m args below meth c s₁ Bd hml0 hP hK
  obtain ⟨rfl, hZ, hh, hC, hS⟩ := hP
  have X0 : Stand p l e rm s m args below meth c s₁ [] 0 0 := Stand.of_body Bd
  have e0 : s₁.heap = h := by rw [← hh, Bd.state]; rfl
  have hown : s.vm.findClass y.cls = some m.cls := findClass_of_methodNamed Bd.named
  have hnm := (name_of_methodNamed Bd.named Bd.method).1
  have W : Wk p l e rm s m args below meth c Z EL kn y.cls s₁ h ss 0 0 := ⟨s.vm, [], 0, X0, e0, hZ, (State.WarmedH.refl s).since 0, Nat.zero_le _, hown, Fr.nil _, hO, by rw [hh]; exact CHr.refl hC, hS, hK⟩
  obtain ⟨s₂, v, L, q1, q2, q3, q4, q5, q6, q7, q8⟩ := body p e s m below meth c s₁ ⟨Bd.exec, Bd.bytes, hml0, Bd.returns, Bd.notSynchronized, hnm⟩ W
  exact ⟨s₂, _, q1, q2, q3, v, L, rfl, ⟨q4, q5, q6⟩, q7, q8⟩
theorem Con.back {y : MethodName} {rm : Room} {as' : Array Value} {vm0 : Vm} {len Wt : Nat} (hM : Con l Z EL kn [] y bytes maxL ret rm as' h ss P) (hZ : Z.Warmed39 vm0) (wc : (Cond.code y bytes maxL ret).before a0 Z = true) (wz : (Cond.initialized y.cls).before a0 Z = true)
    (hf : rm.frames + 1 ≤ R.frames) (hl : Wt + (maxL + 11) + rm.locals ≤ R.locals) (hEL : EW Z a0 EL) (H : CHv Z EL vm0 h) (hS : ∀ x ∈ ss, x < h.size ∧ Safe Z EL vm0 h x) (hK : kn = true → vm0.MethodsKnown ∧ vm0.FramesKnown below) :
    BackS l R p e below (s.setVm vm0) args y len Wt (fun A a => a = as' ∧ A.U.heap = h ∧ A.cells + rm.cells ≤ R.cells ∧ A.slots + rm.slots ≤ R.slots)
      (fun A _ v B => ∃ L, (P v B.U.heap ∧ Fr Z.heap.size L ∧ Old Z Z.heap.size B.U.heap) ∧ B.locs = A.locs ++ L ∧ B.cells = A.cells + rm.cells ∧ B.slots = A.slots + rm.slots ∧ CHr Z EL vm0 h B.U.vm B.U.heap) := by
  refine BackS.of_freeWG (bytes := bytes) (maxL := maxL) (ret := ret) (E := fun _ first o t L k n => k = rm.cells ∧ n = rm.slots ∧ (∃ v, o = .returned v ∧ P v t.heap ∧ Fr Z.heap.size L ∧ Old Z Z.heap.size t.heap) ∧ CHr Z EL first.vm first.heap t.vm t.heap) hM hf hl ?_ ?_ ?_ ?_ ?_
  · intro m meth c A a Y hp
    have hU : Z.Warmed39 A.U.vm := wtrans (s := s.setVm vm0) hZ Y.warmed
    exact ⟨by show (Cond.and _ .tt).before a A.U = true; rw [Cond.before_and, mv hU wc]; rfl, mv hU wc, mv hU wz, hp.2.2.1, hp.2.2.2⟩
  · intro m meth c A a g mk Y hp
    have q := CHv.at Y hZ hEL H
    exact ⟨hp.1, wtrans (s := s.setVm vm0) hZ Y.warmed, hp.2.1, q.1, fun x hx => ⟨(hS x hx).1, q.safe (hS x hx).1 (hS x hx).2⟩⟩
  · intro m meth c A a g mk Y _ hg k
    exact known_frames Y hg (hK k).1 (hK k).2
  · rintro _ _ _ _ ⟨v, L, h1, h2, h3, h4⟩
    exact ⟨L, _, _, h4, rfl, rfl, ⟨v, h1, h2⟩, h3⟩
  · rintro m meth c A a g mk v t L k n Y hp _ _ ⟨e1, e2, ⟨v', e3, e4⟩, e5⟩
    cases e3; subst e1 e2
    refine ⟨L, e4, rfl, rfl, rfl, (CHv.at Y hZ hEL H).trans ?_⟩
    rw [← hp.2.1]; exact e5
/-- the walk behind a call that may intern -/
theorem Wk.behind {B : Pt} {vm0 : Vm} {locs L : List Loc} {k0 k n : Nat} (X : Stand p l e R ((s.setVm vm0).setVm B.U.vm) m args below meth c B.U B.locs B.cells B.slots) (hZ : Z.Warmed39 vm0) (hS : s.Since vm0 k0) (hk : k0 ≤ h.size) (hown : vm0.findClass own = some m.cls) (N : Fr Z.heap.size locs) (C : CHr Z EL s.vm s.heap vm0 h)
    (hss : ∀ x ∈ ss, x < h.size ∧ Safe Z EL vm0 h x) (hK : kn = true → vm0.MethodsKnown ∧ vm0.FramesKnown below) (hS2 : (s.setVm vm0).Since B.U.vm B.U.heap.size) (hg : h.size ≤ B.U.heap.size)
    (NL : Fr Z.heap.size L) (O : Old Z Z.heap.size B.U.heap) (e1 : B.locs = locs ++ L) (e2 : B.cells = cells + k) (e3 : B.slots = slots + n) (C2 : CHr Z EL vm0 h B.U.vm B.U.heap) :
    Wk p l e R s m args below meth c Z EL kn own B.U B.U.heap ss (cells + k) (slots + n) := by
  have hZ' : Z.Warmed39 B.U.vm := State.Warmed39.trans (t := s.setVm vm0) hZ hS2.1
  have hal : vm0.Alike B.U.vm := hS2.1.alike
  refine ⟨B.U.vm, B.locs, _, e3 ▸ e2 ▸ X, rfl, hZ', hS.trans hS2 (Nat.le_trans hk hg), Nat.le_refl _, by rw [hal.findClass]; exact hown, e1 ▸ N.app NL, O, C.trans C2, fun x hx => ⟨Nat.lt_of_lt_of_le (hss x hx).1 hg, C2.safe (hss x hx).1 (hss x hx).2⟩, fun k => ?_⟩
  refine ⟨Vm.MethodsKnown.alikeC hal (hK k).1, ?_⟩
  exact Vm.FramesKnown.alikeC hal (hK k).2
end Kit
end Jvm.OwnKit
namespace Jvm.OwnKit
open Jvm Jvm.ClassFile Sem Op Lib Jvm.Free Jvm.Stand Jvm.LawKit Jvm.RoadKit Bundle
section Steps2
variable {p : Program} {l : Launch} {e : Env} {R : Room} {s : State} {m : MethodId} {args : Array Value} {below : List Frame} {meth : Method} {c : Code} {Z : State} {a0 : Array Value} {EL : List (String × Nat)} {kn : Bool} {own : String}
  {T : State} {h h' h2 : Heap} {ss : List Addr} {cells slots : Nat} {nm : String} {bytes : ByteArray} {maxL : Nat} {ret : Option FieldType} {kc ks : Nat} {P : Option Value → Heap → Prop} {pc : Nat} {Ls : Array Slot} {st : List Value}
theorem Wk.aloadN (W : Wk p l e R s m args below meth c Z EL kn own T h ss cells slots) (me : Me p meth c nm bytes maxL ret) {k : Fin 4} {v : Value} (hd : decode bytes pc = .ok (.aload_n k, 1)) (hl : Ls[k.val]? = some (.val v)) (hv : v.isRef = true) (F : Fi p e below s Z EL kc ks P T (mkF m (pc + 1) Ls (v :: st))) : Fi p e below s Z EL kc ks P T (mkF m pc Ls st) :=
  F.step fun _ => XS.aloadN W.here me.x rfl (hb me.b hd) hl hv
theorem Wk.aload (W : Wk p l e R s m args below meth c Z EL kn own T h ss cells slots) (me : Me p meth c nm bytes maxL ret) {k : Nat} {v : Value} (hd : decode bytes pc = .ok (.aload k, 2)) (hl : Ls[k]? = some (.val v)) (hv : v.isRef = true) (F : Fi p e below s Z EL kc ks P T (mkF m (pc + 2) Ls (v :: st))) : Fi p e below s Z EL kc ks P T (mkF m pc Ls st) :=
  F.step fun _ => XS.aload W.here me.x rfl (hb me.b hd) hl hv
theorem Wk.iloadN (W : Wk p l e R s m args below meth c Z EL kn own T h ss cells slots) (me : Me p meth c nm bytes maxL ret) {k : Fin 4} {v : Int32} (hd : decode bytes pc = .ok (.iload_n k, 1)) (hl : Ls[k.val]? = some (.val (.int v))) (F : Fi p e below s Z EL kc ks P T (mkF m (pc + 1) Ls (.int v :: st))) : Fi p e below s Z EL kc ks P T (mkF m pc Ls st) :=
  F.step fun _ => XS.iloadN W.here me.x rfl (hb me.b hd) hl
theorem Wk.iload (W : Wk p l e R s m args below meth c Z EL kn own T h ss cells slots) (me : Me p meth c nm bytes maxL ret) {k : Nat} {v : Int32} (hd : decode bytes pc = .ok (.iload k, 2)) (hl : Ls[k]? = some (.val (.int v))) (F : Fi p e below s Z EL kc ks P T (mkF m (pc + 2) Ls (.int v :: st))) : Fi p e below s Z EL kc ks P T (mkF m pc Ls st) :=
  F.step fun _ => XS.iload W.here me.x rfl (hb me.b hd) hl
theorem Wk.lloadN (W : Wk p l e R s m args below meth c Z EL kn own T h ss cells slots) (me : Me p meth c nm bytes maxL ret) {k : Fin 4} {v : Int64} (hd : decode bytes pc = .ok (.lload_n k, 1)) (hl : Ls[k.val]? = some (.val (.long v))) (F : Fi p e below s Z EL kc ks P T (mkF m (pc + 1) Ls (.long v :: st))) : Fi p e below s Z EL kc ks P T (mkF m pc Ls st) :=
  F.step fun _ => XT.lloadN W.here me.x rfl (hb me.b hd) hl
theorem Wk.lload (W : Wk p l e R s m args below meth c Z EL kn own T h ss cells slots) (me : Me p meth c nm bytes maxL ret) {k : Nat} {v : Int64} (hd : decode bytes pc = .ok (.lload k, 2)) (hl : Ls[k]? = some (.val (.long v))) (F : Fi p e below s Z EL kc ks P T (mkF m (pc + 2) Ls (.long v :: st))) : Fi p e below s Z EL kc ks P T (mkF m pc Ls st) :=
  F.step fun _ => XT.lload W.here me.x rfl (hb me.b hd) hl
theorem Wk.istoreN (W : Wk p l e R s m args below meth c Z EL kn own T h ss cells slots) (me : Me p meth c nm bytes maxL ret) {k : Fin 4} {x : Int32} {l' : Array Slot} (hd : decode bytes pc = .ok (.istore_n k, 1)) (hl : storeLocals Ls k.val (.int x) = some l') (F : Fi p e below s Z EL kc ks P T (mkF m (pc + 1) l' st)) : Fi p e below s Z EL kc ks P T (mkF m pc Ls (.int x :: st)) :=
  F.step fun _ => XS.istoreN W.here me.x rfl (hb me.b hd) rfl hl
theorem Wk.istore (W : Wk p l e R s m args below meth c Z EL kn own T h ss cells slots) (me : Me p meth c nm bytes maxL ret) {k : Nat} {x : Int32} {l' : Array Slot} (hd : decode bytes pc = .ok (.istore k, 2)) (hl : storeLocals Ls k (.int x) = some l') (F : Fi p e below s Z EL kc ks P T (mkF m (pc + 2) l' st)) : Fi p e below s Z EL kc ks P T (mkF m pc Ls (.int x :: st)) :=
  F.step fun _ => XS.istore W.here me.x rfl (hb me.b hd) rfl hl
theorem Wk.astoreN (W : Wk p l e R s m args below meth c Z EL kn own T h ss cells slots) (me : Me p meth c nm bytes maxL ret) {k : Fin 4} {x : Value} {l' : Array Slot} (hd : decode bytes pc = .ok (.astore_n k, 1)) (hv : x.isRef = true) (hl : storeLocals Ls k.val x = some l') (F : Fi p e below s Z EL kc ks P T (mkF m (pc + 1) l' st)) : Fi p e below s Z EL kc ks P T (mkF m pc Ls (x :: st)) :=
  F.step fun _ => XS.astoreN W.here me.x rfl (hb me.b hd) rfl hv hl
theorem Wk.astore (W : Wk p l e R s m args below meth c Z EL kn own T h ss cells slots) (me : Me p meth c nm bytes maxL ret) {k : Nat} {x : Value} {l' : Array Slot} (hd : decode bytes pc = .ok (.astore k, 2)) (hv : x.isRef = true) (hl : storeLocals Ls k x = some l') (F : Fi p e below s Z EL kc ks P T (mkF m (pc + 2) l' st)) : Fi p e below s Z EL kc ks P T (mkF m pc Ls (x :: st)) :=
  F.step fun _ => XS.astore W.here me.x rfl (hb me.b hd) rfl hv hl
theorem Wk.lstoreN (W : Wk p l e R s m args below meth c Z EL kn own T h ss cells slots) (me : Me p meth c nm bytes maxL ret) {k : Fin 4} {x : Int64} {l' : Array Slot} (hd : decode bytes pc = .ok (.lstore_n k, 1)) (hl : storeLocals Ls k.val (.long x) = some l') (F : Fi p e below s Z EL kc ks P T (mkF m (pc + 1) l' st)) : Fi p e below s Z EL kc ks P T (mkF m pc Ls (.long x :: st)) :=
  F.step fun _ => XT.lstoreN W.here me.x rfl (hb me.b hd) rfl hl
theorem Wk.lstore (W : Wk p l e R s m args below meth c Z EL kn own T h ss cells slots) (me : Me p meth c nm bytes maxL ret) {k : Nat} {x : Int64} {l' : Array Slot} (hd : decode bytes pc = .ok (.lstore k, 2)) (hl : storeLocals Ls k (.long x) = some l') (F : Fi p e below s Z EL kc ks P T (mkF m (pc + 2) l' st)) : Fi p e below s Z EL kc ks P T (mkF m pc Ls (.long x :: st)) :=
  F.step fun _ => XT.lstore W.here me.x rfl (hb me.b hd) rfl hl
theorem Wk.iconst (W : Wk p l e R s m args below meth c Z EL kn own T h ss cells slots) (me : Me p meth c nm bytes maxL ret) {i : Int} {v : Int32} (hd : decode bytes pc = .ok (.iconst i, 1)) (hv : Int32.ofInt i = v) (F : Fi p e below s Z EL kc ks P T (mkF m (pc + 1) Ls (.int v :: st))) : Fi p e below s Z EL kc ks P T (mkF m pc Ls st) :=
  F.step fun _ => XT.iconstV W.here me.x rfl v (hb me.b hd) hv
theorem Wk.bipush (W : Wk p l e R s m args below meth c Z EL kn own T h ss cells slots) (me : Me p meth c nm bytes maxL ret) {i : Int} {v : Int32} (hd : decode bytes pc = .ok (.bipush i, 2)) (hv : (Int8.ofInt i).toInt32 = v) (F : Fi p e below s Z EL kc ks P T (mkF m (pc + 2) Ls (.int v :: st))) : Fi p e below s Z EL kc ks P T (mkF m pc Ls st) :=
  F.step fun _ => XT.bipushV W.here me.x rfl v (hb me.b hd) hv
theorem Wk.sipush (W : Wk p l e R s m args below meth c Z EL kn own T h ss cells slots) (me : Me p meth c nm bytes maxL ret) {i : Int} {v : Int32} (hd : decode bytes pc = .ok (.sipush i, 3)) (hv : (Int16.ofInt i).toInt32 = v) (F : Fi p e below s Z EL kc ks P T (mkF m (pc + 3) Ls (.int v :: st))) : Fi p e below s Z EL kc ks P T (mkF m pc Ls st) :=
  F.step fun _ => XT.sipushV W.here me.x rfl v (hb me.b hd) hv
theorem Wk.aconstNull (W : Wk p l e R s m args below meth c Z EL kn own T h ss cells slots) (me : Me p meth c nm bytes maxL ret)  (hd : decode bytes pc = .ok (.aconst_null, 1))  (F : Fi p e below s Z EL kc ks P T (mkF m (pc + 1) Ls (.null :: st))) : Fi p e below s Z EL kc ks P T (mkF m pc Ls st) :=
  F.step fun _ => XS.aconstNull W.here me.x rfl (hb me.b hd) 
theorem Wk.iadd (W : Wk p l e R s m args below meth c Z EL kn own T h ss cells slots) (me : Me p meth c nm bytes maxL ret) {x y : Int32} (hd : decode bytes pc = .ok (.iadd, 1))  (F : Fi p e below s Z EL kc ks P T (mkF m (pc + 1) Ls (.int (x + y) :: st))) : Fi p e below s Z EL kc ks P T (mkF m pc Ls (.int y :: .int x :: st)) :=
  F.step fun _ => XS.iadd W.here me.x rfl (hb me.b hd) rfl
theorem Wk.isub (W : Wk p l e R s m args below meth c Z EL kn own T h ss cells slots) (me : Me p meth c nm bytes maxL ret) {x y : Int32} (hd : decode bytes pc = .ok (.isub, 1))  (F : Fi p e below s Z EL kc ks P T (mkF m (pc + 1) Ls (.int (x - y) :: st))) : Fi p e below s Z EL kc ks P T (mkF m pc Ls (.int y :: .int x :: st)) :=
  F.step fun _ => XS.isub W.here me.x rfl (hb me.b hd) rfl
theorem Wk.imul (W : Wk p l e R s m args below meth c Z EL kn own T h ss cells slots) (me : Me p meth c nm bytes maxL ret) {x y : Int32} (hd : decode bytes pc = .ok (.imul, 1))  (F : Fi p e below s Z EL kc ks P T (mkF m (pc + 1) Ls (.int (x * y) :: st))) : Fi p e below s Z EL kc ks P T (mkF m pc Ls (.int y :: .int x :: st)) :=
  F.step fun _ => XS.imul W.here me.x rfl (hb me.b hd) rfl
theorem Wk.iand (W : Wk p l e R s m args below meth c Z EL kn own T h ss cells slots) (me : Me p meth c nm bytes maxL ret) {x y : Int32} (hd : decode bytes pc = .ok (.iand, 1))  (F : Fi p e below s Z EL kc ks P T (mkF m (pc + 1) Ls (.int (x &&& y) :: st))) : Fi p e below s Z EL kc ks P T (mkF m pc Ls (.int y :: .int x :: st)) :=
  F.step fun _ => XS.iand W.here me.x rfl (hb me.b hd) rfl
theorem Wk.ior (W : Wk p l e R s m args below meth c Z EL kn own T h ss cells slots) (me : Me p meth c nm bytes maxL ret) {x y : Int32} (hd : decode bytes pc = .ok (.ior, 1))  (F : Fi p e below s Z EL kc ks P T (mkF m (pc + 1) Ls (.int (x ||| y) :: st))) : Fi p e below s Z EL kc ks P T (mkF m pc Ls (.int y :: .int x :: st)) :=
  F.step fun _ => XT.ior W.here me.x rfl (hb me.b hd) rfl
theorem Wk.ixor (W : Wk p l e R s m args below meth c Z EL kn own T h ss cells slots) (me : Me p meth c nm bytes maxL ret) {x y : Int32} (hd : decode bytes pc = .ok (.ixor, 1))  (F : Fi p e below s Z EL kc ks P T (mkF m (pc + 1) Ls (.int (x ^^^ y) :: st))) : Fi p e below s Z EL kc ks P T (mkF m pc Ls (.int y :: .int x :: st)) :=
  F.step fun _ => XT.ixor W.here me.x rfl (hb me.b hd) rfl
theorem Wk.ishl (W : Wk p l e R s m args below meth c Z EL kn own T h ss cells slots) (me : Me p meth c nm bytes maxL ret) {x y : Int32} (hd : decode bytes pc = .ok (.ishl, 1))  (F : Fi p e below s Z EL kc ks P T (mkF m (pc + 1) Ls (.int (x <<< (y &&& 31)) :: st))) : Fi p e below s Z EL kc ks P T (mkF m pc Ls (.int y :: .int x :: st)) :=
  F.step fun _ => XT.ishl W.here me.x rfl (hb me.b hd) rfl
theorem Wk.ishr (W : Wk p l e R s m args below meth c Z EL kn own T h ss cells slots) (me : Me p meth c nm bytes maxL ret) {x y : Int32} (hd : decode bytes pc = .ok (.ishr, 1))  (F : Fi p e below s Z EL kc ks P T (mkF m (pc + 1) Ls (.int (x >>> (y &&& 31)) :: st))) : Fi p e below s Z EL kc ks P T (mkF m pc Ls (.int y :: .int x :: st)) :=
  F.step fun _ => XT.ishr W.here me.x rfl (hb me.b hd) rfl
theorem Wk.iushr (W : Wk p l e R s m args below meth c Z EL kn own T h ss cells slots) (me : Me p meth c nm bytes maxL ret) {x y : Int32} (hd : decode bytes pc = .ok (.iushr, 1))  (F : Fi p e below s Z EL kc ks P T (mkF m (pc + 1) Ls (.int (XT.ushr x y) :: st))) : Fi p e below s Z EL kc ks P T (mkF m pc Ls (.int y :: .int x :: st)) :=
  F.step fun _ => XT.iushr W.here me.x rfl (hb me.b hd) rfl
theorem Wk.irem (W : Wk p l e R s m args below meth c Z EL kn own T h ss cells slots) (me : Me p meth c nm bytes maxL ret) {x y : Int32} (hd : decode bytes pc = .ok (.irem, 1)) (hy : y ≠ 0) (F : Fi p e below s Z EL kc ks P T (mkF m (pc + 1) Ls (.int (x % y) :: st))) : Fi p e below s Z EL kc ks P T (mkF m pc Ls (.int y :: .int x :: st)) := by
  obtain ⟨vm0, locs, k0, X, -⟩ := W
  exact F.step fun _ => iremM X me.x rfl (hb me.b hd) rfl hy
theorem Wk.ladd (W : Wk p l e R s m args below meth c Z EL kn own T h ss cells slots) (me : Me p meth c nm bytes maxL ret) {x y : Int64} (hd : decode bytes pc = .ok (.ladd, 1))  (F : Fi p e below s Z EL kc ks P T (mkF m (pc + 1) Ls (.long (x + y) :: st))) : Fi p e below s Z EL kc ks P T (mkF m pc Ls (.long y :: .long x :: st)) :=
  F.step fun _ => XT.ladd W.here me.x rfl (hb me.b hd) rfl
theorem Wk.lsub (W : Wk p l e R s m args below meth c Z EL kn own T h ss cells slots) (me : Me p meth c nm bytes maxL ret) {x y : Int64} (hd : decode bytes pc = .ok (.lsub, 1))  (F : Fi p e below s Z EL kc ks P T (mkF m (pc + 1) Ls (.long (x - y) :: st))) : Fi p e below s Z EL kc ks P T (mkF m pc Ls (.long y :: .long x :: st)) :=
  F.step fun _ => XT.lsub W.here me.x rfl (hb me.b hd) rfl
theorem Wk.lmul (W : Wk p l e R s m args below meth c Z EL kn own T h ss cells slots) (me : Me p meth c nm bytes maxL ret) {x y : Int64} (hd : decode bytes pc = .ok (.lmul, 1))  (F : Fi p e below s Z EL kc ks P T (mkF m (pc + 1) Ls (.long (x * y) :: st))) : Fi p e below s Z EL kc ks P T (mkF m pc Ls (.long y :: .long x :: st)) :=
  F.step fun _ => XT.lmul W.here me.x rfl (hb me.b hd) rfl
theorem Wk.lcmp (W : Wk p l e R s m args below meth c Z EL kn own T h ss cells slots) (me : Me p meth c nm bytes maxL ret) {x y : Int64} (hd : decode bytes pc = .ok (.lcmp, 1))  (F : Fi p e below s Z EL kc ks P T (mkF m (pc + 1) Ls (.int (XT.cmpL x y) :: st))) : Fi p e below s Z EL kc ks P T (mkF m pc Ls (.long y :: .long x :: st)) :=
  F.step fun _ => XT.lcmp W.here me.x rfl (hb me.b hd) rfl
theorem Wk.i2l (W : Wk p l e R s m args below meth c Z EL kn own T h ss cells slots) (me : Me p meth c nm bytes maxL ret) {x : Int32} (hd : decode bytes pc = .ok (.i2l, 1))  (F : Fi p e below s Z EL kc ks P T (mkF m (pc + 1) Ls (.long x.toInt64 :: st))) : Fi p e below s Z EL kc ks P T (mkF m pc Ls (.int x :: st)) :=
  F.step fun _ => XT.i2l W.here me.x rfl (hb me.b hd) rfl
theorem Wk.l2i (W : Wk p l e R s m args below meth c Z EL kn own T h ss cells slots) (me : Me p meth c nm bytes maxL ret) {x : Int64} (hd : decode bytes pc = .ok (.l2i, 1))  (F : Fi p e below s Z EL kc ks P T (mkF m (pc + 1) Ls (.int x.toInt32 :: st))) : Fi p e below s Z EL kc ks P T (mkF m pc Ls (.long x :: st)) :=
  F.step fun _ => XT.l2i W.here me.x rfl (hb me.b hd) rfl
theorem Wk.i2b (W : Wk p l e R s m args below meth c Z EL kn own T h ss cells slots) (me : Me p meth c nm bytes maxL ret) {x : Int32} (hd : decode bytes pc = .ok (.i2b, 1))  (F : Fi p e below s Z EL kc ks P T (mkF m (pc + 1) Ls (.int x.toInt8.toInt32 :: st))) : Fi p e below s Z EL kc ks P T (mkF m pc Ls (.int x :: st)) :=
  F.step fun _ => XT.i2b W.here me.x rfl (hb me.b hd) rfl
theorem Wk.i2c (W : Wk p l e R s m args below meth c Z EL kn own T h ss cells slots) (me : Me p meth c nm bytes maxL ret) {x : Int32} (hd : decode bytes pc = .ok (.i2c, 1))  (F : Fi p e below s Z EL kc ks P T (mkF m (pc + 1) Ls (.int x.toUInt32.toUInt16.toUInt32.toInt32 :: st))) : Fi p e below s Z EL kc ks P T (mkF m pc Ls (.int x :: st)) :=
  F.step fun _ => XT.i2c W.here me.x rfl (hb me.b hd) rfl
theorem Wk.dup (W : Wk p l e R s m args below meth c Z EL kn own T h ss cells slots) (me : Me p meth c nm bytes maxL ret) {x : Value} (hd : decode bytes pc = .ok (.dup, 1)) (hc : x.category = 1) (F : Fi p e below s Z EL kc ks P T (mkF m (pc + 1) Ls (x :: x :: st))) : Fi p e below s Z EL kc ks P T (mkF m pc Ls (x :: st)) :=
  F.step fun _ => XS.dup W.here me.x rfl (hb me.b hd) rfl hc
theorem Wk.pop (W : Wk p l e R s m args below meth c Z EL kn own T h ss cells slots) (me : Me p meth c nm bytes maxL ret) {x : Value} (hd : decode bytes pc = .ok (.pop, 1)) (hc : x.category = 1) (F : Fi p e below s Z EL kc ks P T (mkF m (pc + 1) Ls st)) : Fi p e below s Z EL kc ks P T (mkF m pc Ls (x :: st)) :=
  F.step fun _ => XT.pop W.here me.x rfl (hb me.b hd) rfl hc
theorem Wk.dupX1 (W : Wk p l e R s m args below meth c Z EL kn own T h ss cells slots) (me : Me p meth c nm bytes maxL ret) {x y : Value} (hd : decode bytes pc = .ok (.dup_x1, 1)) (hc : x.category = 1) (hc' : y.category = 1) (F : Fi p e below s Z EL kc ks P T (mkF m (pc + 1) Ls (x :: y :: x :: st))) : Fi p e below s Z EL kc ks P T (mkF m pc Ls (x :: y :: st)) :=
  F.step fun _ => XT.dupX1 W.here me.x rfl (hb me.b hd) rfl hc hc'
theorem Wk.dup2 (W : Wk p l e R s m args below meth c Z EL kn own T h ss cells slots) (me : Me p meth c nm bytes maxL ret) {x y : Value} (hd : decode bytes pc = .ok (.dup2, 1)) (hc : x.category = 1) (hc' : y.category = 1) (F : Fi p e below s Z EL kc ks P T (mkF m (pc + 1) Ls (x :: y :: x :: y :: st))) : Fi p e below s Z EL kc ks P T (mkF m pc Ls (x :: y :: st)) :=
  F.step fun _ => XT.dup2 W.here me.x rfl (hb me.b hd) rfl hc hc'
theorem Wk.iinc (W : Wk p l e R s m args below meth c Z EL kn own T h ss cells slots) (me : Me p meth c nm bytes maxL ret) {k : Nat} {cst : Int} {x v : Int32} {l' : Array Slot} (hd : decode bytes pc = .ok (.iinc k cst, 3)) (hv : Int32.ofInt cst = v) (hl : Ls[k]? = some (.val (.int x))) (hl' : storeLocals Ls k (.int (x + v)) = some l') (F : Fi p e below s Z EL kc ks P T (mkF m (pc + 3) l' st)) : Fi p e below s Z EL kc ks P T (mkF m pc Ls st) :=
  F.step fun _ => XT.iincV W.here me.x rfl v (hb me.b hd) hv hl hl'
theorem Wk.goto (W : Wk p l e R s m args below meth c Z EL kn own T h ss cells slots) (me : Me p meth c nm bytes maxL ret) {o : Int} {pc' : Nat} (hd : decode bytes pc = .ok (.goto o, 3)) (ho : 0 ≤ (pc : Int) + o) (hp : ((pc : Int) + o).toNat = pc') (F : Fi p e below s Z EL kc ks P T (mkF m pc' Ls st)) : Fi p e below s Z EL kc ks P T (mkF m pc Ls st) :=
  F.step fun _ => XS.goto W.here me.x rfl rfl (hb me.b hd) ho hp
theorem Wk.ifY (W : Wk p l e R s m args below meth c Z EL kn own T h ss cells slots) (me : Me p meth c nm bytes maxL ret) {cd : ClassFile.Cond} {x : Int32} {o : Int} {pc' : Nat} (hd : decode bytes pc = .ok (.ifCond cd o, 3)) (hc : ifCond.holds cd x = true) (ho : 0 ≤ (pc : Int) + o) (hp : ((pc : Int) + o).toNat = pc') (F : Fi p e below s Z EL kc ks P T (mkF m pc' Ls st)) : Fi p e below s Z EL kc ks P T (mkF m pc Ls (.int x :: st)) :=
  F.step fun _ => XS.ifYes W.here me.x rfl rfl (hb me.b hd) rfl hc ho hp
theorem Wk.ifN (W : Wk p l e R s m args below meth c Z EL kn own T h ss cells slots) (me : Me p meth c nm bytes maxL ret) {cd : ClassFile.Cond} {x : Int32} {o : Int} (hd : decode bytes pc = .ok (.ifCond cd o, 3)) (hc : ifCond.holds cd x = false) (F : Fi p e below s Z EL kc ks P T (mkF m (pc + 3) Ls st)) : Fi p e below s Z EL kc ks P T (mkF m pc Ls (.int x :: st)) :=
  F.step fun _ => XS.ifNo W.here me.x rfl (hb me.b hd) rfl hc
theorem Wk.icY (W : Wk p l e R s m args below meth c Z EL kn own T h ss cells slots) (me : Me p meth c nm bytes maxL ret) {cd : ClassFile.Cond} {x y : Int32} {o : Int} {pc' : Nat} (hd : decode bytes pc = .ok (.if_icmp cd o, 3)) (hc : if_icmp.holds cd x y = true) (ho : 0 ≤ (pc : Int) + o) (hp : ((pc : Int) + o).toNat = pc') (F : Fi p e below s Z EL kc ks P T (mkF m pc' Ls st)) : Fi p e below s Z EL kc ks P T (mkF m pc Ls (.int y :: .int x :: st)) :=
  F.step fun _ => XS.icmpYes W.here me.x rfl rfl (hb me.b hd) rfl hc ho hp
theorem Wk.icN (W : Wk p l e R s m args below meth c Z EL kn own T h ss cells slots) (me : Me p meth c nm bytes maxL ret) {cd : ClassFile.Cond} {x y : Int32} {o : Int} (hd : decode bytes pc = .ok (.if_icmp cd o, 3)) (hc : if_icmp.holds cd x y = false) (F : Fi p e below s Z EL kc ks P T (mkF m (pc + 3) Ls st)) : Fi p e below s Z EL kc ks P T (mkF m pc Ls (.int y :: .int x :: st)) :=
  F.step fun _ => XS.icmpNo W.here me.x rfl (hb me.b hd) rfl hc
theorem Wk.ic_eq (W : Wk p l e R s m args below meth c Z EL kn own T h ss cells slots) (me : Me p meth c nm bytes maxL ret) {x y : Int32} {o : Int} {pc' : Nat} (hd : decode bytes pc = .ok (.if_icmp .eq o, 3)) (ho : 0 ≤ (pc : Int) + o) (hp : ((pc : Int) + o).toNat = pc') (F : x = y → Fi p e below s Z EL kc ks P T (mkF m pc' Ls st)) (G : ¬ x = y → Fi p e below s Z EL kc ks P T (mkF m (pc + 3) Ls st)) : Fi p e below s Z EL kc ks P T (mkF m pc Ls (.int y :: .int x :: st)) := by
  by_cases q : x = y
  · exact W.icY me hd (teq q).1 ho hp (F q)
  · exact W.icN me hd (feq (by first | exact q | exact Decidable.not_not.mp q)).1 (G (by first | exact q | exact Decidable.not_not.mp q))
theorem Wk.if_eq (W : Wk p l e R s m args below meth c Z EL kn own T h ss cells slots) (me : Me p meth c nm bytes maxL ret) {x : Int32} {o : Int} {pc' : Nat} (hd : decode bytes pc = .ok (.ifCond .eq o, 3)) (ho : 0 ≤ (pc : Int) + o) (hp : ((pc : Int) + o).toNat = pc') (F : x = 0 → Fi p e below s Z EL kc ks P T (mkF m pc' Ls st)) (G : ¬ x = 0 → Fi p e below s Z EL kc ks P T (mkF m (pc + 3) Ls st)) : Fi p e below s Z EL kc ks P T (mkF m pc Ls (.int x :: st)) := by
  by_cases q : x = 0
  · exact W.ifY me hd ((if0 _ _).trans (teq q).1) ho hp (F q)
  · exact W.ifN me hd ((if0 _ _).trans (feq (by first | exact q | exact Decidable.not_not.mp q)).1) (G (by first | exact q | exact Decidable.not_not.mp q))
theorem Wk.icY_eq (W : Wk p l e R s m args below meth c Z EL kn own T h ss cells slots) (me : Me p meth c nm bytes maxL ret) {x y : Int32} {o : Int} {pc' : Nat} (hd : decode bytes pc = .ok (.if_icmp .eq o, 3)) (q : x = y) (ho : 0 ≤ (pc : Int) + o) (hp : ((pc : Int) + o).toNat = pc') (F : Fi p e below s Z EL kc ks P T (mkF m pc' Ls st)) : Fi p e below s Z EL kc ks P T (mkF m pc Ls (.int y :: .int x :: st)) := W.icY me hd (teq q).1 ho hp F
theorem Wk.icN_eq (W : Wk p l e R s m args below meth c Z EL kn own T h ss cells slots) (me : Me p meth c nm bytes maxL ret) {x y : Int32} {o : Int} (hd : decode bytes pc = .ok (.if_icmp .eq o, 3)) (q : ¬ x = y) (F : Fi p e below s Z EL kc ks P T (mkF m (pc + 3) Ls st)) : Fi p e below s Z EL kc ks P T (mkF m pc Ls (.int y :: .int x :: st)) := W.icN me hd (feq q).1 F
theorem Wk.ifY_eq (W : Wk p l e R s m args below meth c Z EL kn own T h ss cells slots) (me : Me p meth c nm bytes maxL ret) {x : Int32} {o : Int} {pc' : Nat} (hd : decode bytes pc = .ok (.ifCond .eq o, 3)) (q : x = 0) (ho : 0 ≤ (pc : Int) + o) (hp : ((pc : Int) + o).toNat = pc') (F : Fi p e below s Z EL kc ks P T (mkF m pc' Ls st)) : Fi p e below s Z EL kc ks P T (mkF m pc Ls (.int x :: st)) := W.ifY me hd ((if0 _ _).trans (teq q).1) ho hp F
theorem Wk.ifN_eq (W : Wk p l e R s m args below meth c Z EL kn own T h ss cells slots) (me : Me p meth c nm bytes maxL ret) {x : Int32} {o : Int} (hd : decode bytes pc = .ok (.ifCond .eq o, 3)) (q : ¬ x = 0) (F : Fi p e below s Z EL kc ks P T (mkF m (pc + 3) Ls st)) : Fi p e below s Z EL kc ks P T (mkF m pc Ls (.int x :: st)) := W.ifN me hd ((if0 _ _).trans (feq q).1) F
theorem Wk.ic_ne (W : Wk p l e R s m args below meth c Z EL kn own T h ss cells slots) (me : Me p meth c nm bytes maxL ret) {x y : Int32} {o : Int} {pc' : Nat} (hd : decode bytes pc = .ok (.if_icmp .ne o, 3)) (ho : 0 ≤ (pc : Int) + o) (hp : ((pc : Int) + o).toNat = pc') (F : ¬ x = y → Fi p e below s Z EL kc ks P T (mkF m pc' Ls st)) (G : x = y → Fi p e below s Z EL kc ks P T (mkF m (pc + 3) Ls st)) : Fi p e below s Z EL kc ks P T (mkF m pc Ls (.int y :: .int x :: st)) := by
  by_cases q : ¬ x = y
  · exact W.icY me hd (feq q).2 ho hp (F q)
  · exact W.icN me hd (teq (by first | exact q | exact Decidable.not_not.mp q)).2 (G (by first | exact q | exact Decidable.not_not.mp q))
theorem Wk.if_ne (W : Wk p l e R s m args below meth c Z EL kn own T h ss cells slots) (me : Me p meth c nm bytes maxL ret) {x : Int32} {o : Int} {pc' : Nat} (hd : decode bytes pc = .ok (.ifCond .ne o, 3)) (ho : 0 ≤ (pc : Int) + o) (hp : ((pc : Int) + o).toNat = pc') (F : ¬ x = 0 → Fi p e below s Z EL kc ks P T (mkF m pc' Ls st)) (G : x = 0 → Fi p e below s Z EL kc ks P T (mkF m (pc + 3) Ls st)) : Fi p e below s Z EL kc ks P T (mkF m pc Ls (.int x :: st)) := by
  by_cases q : ¬ x = 0
  · exact W.ifY me hd ((if0 _ _).trans (feq q).2) ho hp (F q)
  · exact W.ifN me hd ((if0 _ _).trans (teq (by first | exact q | exact Decidable.not_not.mp q)).2) (G (by first | exact q | exact Decidable.not_not.mp q))
theorem Wk.icY_ne (W : Wk p l e R s m args below meth c Z EL kn own T h ss cells slots) (me : Me p meth c nm bytes maxL ret) {x y : Int32} {o : Int} {pc' : Nat} (hd : decode bytes pc = .ok (.if_icmp .ne o, 3)) (q : ¬ x = y) (ho : 0 ≤ (pc : Int) + o) (hp : ((pc : Int) + o).toNat = pc') (F : Fi p e below s Z EL kc ks P T (mkF m pc' Ls st)) : Fi p e below s Z EL kc ks P T (mkF m pc Ls (.int y :: .int x :: st)) := W.icY me hd (feq q).2 ho hp F
theorem Wk.icN_ne (W : Wk p l e R s m args below meth c Z EL kn own T h ss cells slots) (me : Me p meth c nm bytes maxL ret) {x y : Int32} {o : Int} (hd : decode bytes pc = .ok (.if_icmp .ne o, 3)) (q : x = y) (F : Fi p e below s Z EL kc ks P T (mkF m (pc + 3) Ls st)) : Fi p e below s Z EL kc ks P T (mkF m pc Ls (.int y :: .int x :: st)) := W.icN me hd (teq q).2 F
theorem Wk.ifY_ne (W : Wk p l e R s m args below meth c Z EL kn own T h ss cells slots) (me : Me p meth c nm bytes maxL ret) {x : Int32} {o : Int} {pc' : Nat} (hd : decode bytes pc = .ok (.ifCond .ne o, 3)) (q : ¬ x = 0) (ho : 0 ≤ (pc : Int) + o) (hp : ((pc : Int) + o).toNat = pc') (F : Fi p e below s Z EL kc ks P T (mkF m pc' Ls st)) : Fi p e below s Z EL kc ks P T (mkF m pc Ls (.int x :: st)) := W.ifY me hd ((if0 _ _).trans (feq q).2) ho hp F
theorem Wk.ifN_ne (W : Wk p l e R s m args below meth c Z EL kn own T h ss cells slots) (me : Me p meth c nm bytes maxL ret) {x : Int32} {o : Int} (hd : decode bytes pc = .ok (.ifCond .ne o, 3)) (q : x = 0) (F : Fi p e below s Z EL kc ks P T (mkF m (pc + 3) Ls st)) : Fi p e below s Z EL kc ks P T (mkF m pc Ls (.int x :: st)) := W.ifN me hd ((if0 _ _).trans (teq q).2) F
theorem Wk.ic_lt (W : Wk p l e R s m args below meth c Z EL kn own T h ss cells slots) (me : Me p meth c nm bytes maxL ret) {x y : Int32} {o : Int} {pc' : Nat} (hd : decode bytes pc = .ok (.if_icmp .lt o, 3)) (ho : 0 ≤ (pc : Int) + o) (hp : ((pc : Int) + o).toNat = pc') (F : x < y → Fi p e below s Z EL kc ks P T (mkF m pc' Ls st)) (G : ¬ x < y → Fi p e below s Z EL kc ks P T (mkF m (pc + 3) Ls st)) : Fi p e below s Z EL kc ks P T (mkF m pc Ls (.int y :: .int x :: st)) := by
  by_cases q : x < y
  · exact W.icY me hd (tlt q).1 ho hp (F q)
  · exact W.icN me hd (flt (by first | exact q | exact Decidable.not_not.mp q)).1 (G (by first | exact q | exact Decidable.not_not.mp q))
theorem Wk.if_lt (W : Wk p l e R s m args below meth c Z EL kn own T h ss cells slots) (me : Me p meth c nm bytes maxL ret) {x : Int32} {o : Int} {pc' : Nat} (hd : decode bytes pc = .ok (.ifCond .lt o, 3)) (ho : 0 ≤ (pc : Int) + o) (hp : ((pc : Int) + o).toNat = pc') (F : x < 0 → Fi p e below s Z EL kc ks P T (mkF m pc' Ls st)) (G : ¬ x < 0 → Fi p e below s Z EL kc ks P T (mkF m (pc + 3) Ls st)) : Fi p e below s Z EL kc ks P T (mkF m pc Ls (.int x :: st)) := by
  by_cases q : x < 0
  · exact W.ifY me hd ((if0 _ _).trans (tlt q).1) ho hp (F q)
  · exact W.ifN me hd ((if0 _ _).trans (flt (by first | exact q | exact Decidable.not_not.mp q)).1) (G (by first | exact q | exact Decidable.not_not.mp q))
theorem Wk.icY_lt (W : Wk p l e R s m args below meth c Z EL kn own T h ss cells slots) (me : Me p meth c nm bytes maxL ret) {x y : Int32} {o : Int} {pc' : Nat} (hd : decode bytes pc = .ok (.if_icmp .lt o, 3)) (q : x < y) (ho : 0 ≤ (pc : Int) + o) (hp : ((pc : Int) + o).toNat = pc') (F : Fi p e below s Z EL kc ks P T (mkF m pc' Ls st)) : Fi p e below s Z EL kc ks P T (mkF m pc Ls (.int y :: .int x :: st)) := W.icY me hd (tlt q).1 ho hp F
theorem Wk.icN_lt (W : Wk p l e R s m args below meth c Z EL kn own T h ss cells slots) (me : Me p meth c nm bytes maxL ret) {x y : Int32} {o : Int} (hd : decode bytes pc = .ok (.if_icmp .lt o, 3)) (q : ¬ x < y) (F : Fi p e below s Z EL kc ks P T (mkF m (pc + 3) Ls st)) : Fi p e below s Z EL kc ks P T (mkF m pc Ls (.int y :: .int x :: st)) := W.icN me hd (flt q).1 F
theorem Wk.ifY_lt (W : Wk p l e R s m args below meth c Z EL kn own T h ss cells slots) (me : Me p meth c nm bytes maxL ret) {x : Int32} {o : Int} {pc' : Nat} (hd : decode bytes pc = .ok (.ifCond .lt o, 3)) (q : x < 0) (ho : 0 ≤ (pc : Int) + o) (hp : ((pc : Int) + o).toNat = pc') (F : Fi p e below s Z EL kc ks P T (mkF m pc' Ls st)) : Fi p e below s Z EL kc ks P T (mkF m pc Ls (.int x :: st)) := W.ifY me hd ((if0 _ _).trans (tlt q).1) ho hp F
theorem Wk.ifN_lt (W : Wk p l e R s m args below meth c Z EL kn own T h ss cells slots) (me : Me p meth c nm bytes maxL ret) {x : Int32} {o : Int} (hd : decode bytes pc = .ok (.ifCond .lt o, 3)) (q : ¬ x < 0) (F : Fi p e below s Z EL kc ks P T (mkF m (pc + 3) Ls st)) : Fi p e below s Z EL kc ks P T (mkF m pc Ls (.int x :: st)) := W.ifN me hd ((if0 _ _).trans (flt q).1) F
theorem Wk.ic_ge (W : Wk p l e R s m args below meth c Z EL kn own T h ss cells slots) (me : Me p meth c nm bytes maxL ret) {x y : Int32} {o : Int} {pc' : Nat} (hd : decode bytes pc = .ok (.if_icmp .ge o, 3)) (ho : 0 ≤ (pc : Int) + o) (hp : ((pc : Int) + o).toNat = pc') (F : ¬ x < y → Fi p e below s Z EL kc ks P T (mkF m pc' Ls st)) (G : x < y → Fi p e below s Z EL kc ks P T (mkF m (pc + 3) Ls st)) : Fi p e below s Z EL kc ks P T (mkF m pc Ls (.int y :: .int x :: st)) := by
  by_cases q : ¬ x < y
  · exact W.icY me hd (flt q).2.1 ho hp (F q)
  · exact W.icN me hd (tlt (by first | exact q | exact Decidable.not_not.mp q)).2.1 (G (by first | exact q | exact Decidable.not_not.mp q))
theorem Wk.if_ge (W : Wk p l e R s m args below meth c Z EL kn own T h ss cells slots) (me : Me p meth c nm bytes maxL ret) {x : Int32} {o : Int} {pc' : Nat} (hd : decode bytes pc = .ok (.ifCond .ge o, 3)) (ho : 0 ≤ (pc : Int) + o) (hp : ((pc : Int) + o).toNat = pc') (F : ¬ x < 0 → Fi p e below s Z EL kc ks P T (mkF m pc' Ls st)) (G : x < 0 → Fi p e below s Z EL kc ks P T (mkF m (pc + 3) Ls st)) : Fi p e below s Z EL kc ks P T (mkF m pc Ls (.int x :: st)) := by
  by_cases q : ¬ x < 0
  · exact W.ifY me hd ((if0 _ _).trans (flt q).2.1) ho hp (F q)
  · exact W.ifN me hd ((if0 _ _).trans (tlt (by first | exact q | exact Decidable.not_not.mp q)).2.1) (G (by first | exact q | exact Decidable.not_not.mp q))
theorem Wk.icY_ge (W : Wk p l e R s m args below meth c Z EL kn own T h ss cells slots) (me : Me p meth c nm bytes maxL ret) {x y : Int32} {o : Int} {pc' : Nat} (hd : decode bytes pc = .ok (.if_icmp .ge o, 3)) (q : ¬ x < y) (ho : 0 ≤ (pc : Int) + o) (hp : ((pc : Int) + o).toNat = pc') (F : Fi p e below s Z EL kc ks P T (mkF m pc' Ls st)) : Fi p e below s Z EL kc ks P T (mkF m pc Ls (.int y :: .int x :: st)) := W.icY me hd (flt q).2.1 ho hp F
theorem Wk.icN_ge (W : Wk p l e R s m args below meth c Z EL kn own T h ss cells slots) (me : Me p meth c nm bytes maxL ret) {x y : Int32} {o : Int} (hd : decode bytes pc = .ok (.if_icmp .ge o, 3)) (q : x < y) (F : Fi p e below s Z EL kc ks P T (mkF m (pc + 3) Ls st)) : Fi p e below s Z EL kc ks P T (mkF m pc Ls (.int y :: .int x :: st)) := W.icN me hd (tlt q).2.1 F
theorem Wk.ifY_ge (W : Wk p l e R s m args below meth c Z EL kn own T h ss cells slots) (me : Me p meth c nm bytes maxL ret) {x : Int32} {o : Int} {pc' : Nat} (hd : decode bytes pc = .ok (.ifCond .ge o, 3)) (q : ¬ x < 0) (ho : 0 ≤ (pc : Int) + o) (hp : ((pc : Int) + o).toNat = pc') (F : Fi p e below s Z EL kc ks P T (mkF m pc' Ls st)) : Fi p e below s Z EL kc ks P T (mkF m pc Ls (.int x :: st)) := W.ifY me hd ((if0 _ _).trans (flt q).2.1) ho hp F
theorem Wk.ifN_ge (W : Wk p l e R s m args below meth c Z EL kn own T h ss cells slots) (me : Me p meth c nm bytes maxL ret) {x : Int32} {o : Int} (hd : decode bytes pc = .ok (.ifCond .ge o, 3)) (q : x < 0) (F : Fi p e below s Z EL kc ks P T (mkF m (pc + 3) Ls st)) : Fi p e below s Z EL kc ks P T (mkF m pc Ls (.int x :: st)) := W.ifN me hd ((if0 _ _).trans (tlt q).2.1) F
theorem Wk.ic_gt (W : Wk p l e R s m args below meth c Z EL kn own T h ss cells slots) (me : Me p meth c nm bytes maxL ret) {x y : Int32} {o : Int} {pc' : Nat} (hd : decode bytes pc = .ok (.if_icmp .gt o, 3)) (ho : 0 ≤ (pc : Int) + o) (hp : ((pc : Int) + o).toNat = pc') (F : y < x → Fi p e below s Z EL kc ks P T (mkF m pc' Ls st)) (G : ¬ y < x → Fi p e below s Z EL kc ks P T (mkF m (pc + 3) Ls st)) : Fi p e below s Z EL kc ks P T (mkF m pc Ls (.int y :: .int x :: st)) := by
  by_cases q : y < x
  · exact W.icY me hd (tlt q).2.2.1 ho hp (F q)
  · exact W.icN me hd (flt (by first | exact q | exact Decidable.not_not.mp q)).2.2.1 (G (by first | exact q | exact Decidable.not_not.mp q))
theorem Wk.if_gt (W : Wk p l e R s m args below meth c Z EL kn own T h ss cells slots) (me : Me p meth c nm bytes maxL ret) {x : Int32} {o : Int} {pc' : Nat} (hd : decode bytes pc = .ok (.ifCond .gt o, 3)) (ho : 0 ≤ (pc : Int) + o) (hp : ((pc : Int) + o).toNat = pc') (F : 0 < x → Fi p e below s Z EL kc ks P T (mkF m pc' Ls st)) (G : ¬ 0 < x → Fi p e below s Z EL kc ks P T (mkF m (pc + 3) Ls st)) : Fi p e below s Z EL kc ks P T (mkF m pc Ls (.int x :: st)) := by
  by_cases q : 0 < x
  · exact W.ifY me hd ((if0 _ _).trans (tlt q).2.2.1) ho hp (F q)
  · exact W.ifN me hd ((if0 _ _).trans (flt (by first | exact q | exact Decidable.not_not.mp q)).2.2.1) (G (by first | exact q | exact Decidable.not_not.mp q))
theorem Wk.icY_gt (W : Wk p l e R s m args below meth c Z EL kn own T h ss cells slots) (me : Me p meth c nm bytes maxL ret) {x y : Int32} {o : Int} {pc' : Nat} (hd : decode bytes pc = .ok (.if_icmp .gt o, 3)) (q : y < x) (ho : 0 ≤ (pc : Int) + o) (hp : ((pc : Int) + o).toNat = pc') (F : Fi p e below s Z EL kc ks P T (mkF m pc' Ls st)) : Fi p e below s Z EL kc ks P T (mkF m pc Ls (.int y :: .int x :: st)) := W.icY me hd (tlt q).2.2.1 ho hp F
theorem Wk.icN_gt (W : Wk p l e R s m args below meth c Z EL kn own T h ss cells slots) (me : Me p meth c nm bytes maxL ret) {x y : Int32} {o : Int} (hd : decode bytes pc = .ok (.if_icmp .gt o, 3)) (q : ¬ y < x) (F : Fi p e below s Z EL kc ks P T (mkF m (pc + 3) Ls st)) : Fi p e below s Z EL kc ks P T (mkF m pc Ls (.int y :: .int x :: st)) := W.icN me hd (flt q).2.2.1 F
theorem Wk.ifY_gt (W : Wk p l e R s m args below meth c Z EL kn own T h ss cells slots) (me : Me p meth c nm bytes maxL ret) {x : Int32} {o : Int} {pc' : Nat} (hd : decode bytes pc = .ok (.ifCond .gt o, 3)) (q : 0 < x) (ho : 0 ≤ (pc : Int) + o) (hp : ((pc : Int) + o).toNat = pc') (F : Fi p e below s Z EL kc ks P T (mkF m pc' Ls st)) : Fi p e below s Z EL kc ks P T (mkF m pc Ls (.int x :: st)) := W.ifY me hd ((if0 _ _).trans (tlt q).2.2.1) ho hp F
theorem Wk.ifN_gt (W : Wk p l e R s m args below meth c Z EL kn own T h ss cells slots) (me : Me p meth c nm bytes maxL ret) {x : Int32} {o : Int} (hd : decode bytes pc = .ok (.ifCond .gt o, 3)) (q : ¬ 0 < x) (F : Fi p e below s Z EL kc ks P T (mkF m (pc + 3) Ls st)) : Fi p e below s Z EL kc ks P T (mkF m pc Ls (.int x :: st)) := W.ifN me hd ((if0 _ _).trans (flt q).2.2.1) F
theorem Wk.ic_le (W : Wk p l e R s m args below meth c Z EL kn own T h ss cells slots) (me : Me p meth c nm bytes maxL ret) {x y : Int32} {o : Int} {pc' : Nat} (hd : decode bytes pc = .ok (.if_icmp .le o, 3)) (ho : 0 ≤ (pc : Int) + o) (hp : ((pc : Int) + o).toNat = pc') (F : ¬ y < x → Fi p e below s Z EL kc ks P T (mkF m pc' Ls st)) (G : y < x → Fi p e below s Z EL kc ks P T (mkF m (pc + 3) Ls st)) : Fi p e below s Z EL kc ks P T (mkF m pc Ls (.int y :: .int x :: st)) := by
  by_cases q : ¬ y < x
  · exact W.icY me hd (flt q).2.2.2 ho hp (F q)
  · exact W.icN me hd (tlt (by first | exact q | exact Decidable.not_not.mp q)).2.2.2 (G (by first | exact q | exact Decidable.not_not.mp q))
theorem Wk.if_le (W : Wk p l e R s m args below meth c Z EL kn own T h ss cells slots) (me : Me p meth c nm bytes maxL ret) {x : Int32} {o : Int} {pc' : Nat} (hd : decode bytes pc = .ok (.ifCond .le o, 3)) (ho : 0 ≤ (pc : Int) + o) (hp : ((pc : Int) + o).toNat = pc') (F : ¬ 0 < x → Fi p e below s Z EL kc ks P T (mkF m pc' Ls st)) (G : 0 < x → Fi p e below s Z EL kc ks P T (mkF m (pc + 3) Ls st)) : Fi p e below s Z EL kc ks P T (mkF m pc Ls (.int x :: st)) := by
  by_cases q : ¬ 0 < x
  · exact W.ifY me hd ((if0 _ _).trans (flt q).2.2.2) ho hp (F q)
  · exact W.ifN me hd ((if0 _ _).trans (tlt (by first | exact q | exact Decidable.not_not.mp q)).2.2.2) (G (by first | exact q | exact Decidable.not_not.mp q))
theorem Wk.icY_le (W : Wk p l e R s m args below meth c Z EL kn own T h ss cells slots) (me : Me p meth c nm bytes maxL ret) {x y : Int32} {o : Int} {pc' : Nat} (hd : decode bytes pc = .ok (.if_icmp .le o, 3)) (q : ¬ y < x) (ho : 0 ≤ (pc : Int) + o) (hp : ((pc : Int) + o).toNat = pc') (F : Fi p e below s Z EL kc ks P T (mkF m pc' Ls st)) : Fi p e below s Z EL kc ks P T (mkF m pc Ls (.int y :: .int x :: st)) := W.icY me hd (flt q).2.2.2 ho hp F
theorem Wk.icN_le (W : Wk p l e R s m args below meth c Z EL kn own T h ss cells slots) (me : Me p meth c nm bytes maxL ret) {x y : Int32} {o : Int} (hd : decode bytes pc = .ok (.if_icmp .le o, 3)) (q : y < x) (F : Fi p e below s Z EL kc ks P T (mkF m (pc + 3) Ls st)) : Fi p e below s Z EL kc ks P T (mkF m pc Ls (.int y :: .int x :: st)) := W.icN me hd (tlt q).2.2.2 F
theorem Wk.ifY_le (W : Wk p l e R s m args below meth c Z EL kn own T h ss cells slots) (me : Me p meth c nm bytes maxL ret) {x : Int32} {o : Int} {pc' : Nat} (hd : decode bytes pc = .ok (.ifCond .le o, 3)) (q : ¬ 0 < x) (ho : 0 ≤ (pc : Int) + o) (hp : ((pc : Int) + o).toNat = pc') (F : Fi p e below s Z EL kc ks P T (mkF m pc' Ls st)) : Fi p e below s Z EL kc ks P T (mkF m pc Ls (.int x :: st)) := W.ifY me hd ((if0 _ _).trans (flt q).2.2.2) ho hp F
theorem Wk.ifN_le (W : Wk p l e R s m args below meth c Z EL kn own T h ss cells slots) (me : Me p meth c nm bytes maxL ret) {x : Int32} {o : Int} (hd : decode bytes pc = .ok (.ifCond .le o, 3)) (q : 0 < x) (F : Fi p e below s Z EL kc ks P T (mkF m (pc + 3) Ls st)) : Fi p e below s Z EL kc ks P T (mkF m pc Ls (.int x :: st)) := W.ifN me hd ((if0 _ _).trans (tlt q).2.2.2) F
theorem Wk.nullY (W : Wk p l e R s m args below meth c Z EL kn own T h ss cells slots) (me : Me p meth c nm bytes maxL ret) {o : Int} {pc' : Nat} (hd : decode bytes pc = .ok (.ifnull o, 3)) (ho : 0 ≤ (pc : Int) + o) (hp : ((pc : Int) + o).toNat = pc') (F : Fi p e below s Z EL kc ks P T (mkF m pc' Ls st)) : Fi p e below s Z EL kc ks P T (mkF m pc Ls (.null :: st)) :=
  F.step fun _ => XS.ifnullYes W.here me.x rfl rfl (hb me.b hd) rfl ho hp
theorem Wk.nullN (W : Wk p l e R s m args below meth c Z EL kn own T h ss cells slots) (me : Me p meth c nm bytes maxL ret) {o : Int} {b : Addr} (hd : decode bytes pc = .ok (.ifnull o, 3)) (F : Fi p e below s Z EL kc ks P T (mkF m (pc + 3) Ls st)) : Fi p e below s Z EL kc ks P T (mkF m pc Ls (.ref b :: st)) :=
  F.step fun _ => XS.ifnullNo W.here me.x rfl (hb me.b hd) rfl
theorem Wk.nonnullY (W : Wk p l e R s m args below meth c Z EL kn own T h ss cells slots) (me : Me p meth c nm bytes maxL ret) {o : Int} {b : Addr} {pc' : Nat} (hd : decode bytes pc = .ok (.ifnonnull o, 3)) (ho : 0 ≤ (pc : Int) + o) (hp : ((pc : Int) + o).toNat = pc') (F : Fi p e below s Z EL kc ks P T (mkF m pc' Ls st)) : Fi p e below s Z EL kc ks P T (mkF m pc Ls (.ref b :: st)) :=
  F.step fun _ => XT.ifnonnullYes W.here me.x rfl rfl (hb me.b hd) rfl ho hp
theorem Wk.nonnullN (W : Wk p l e R s m args below meth c Z EL kn own T h ss cells slots) (me : Me p meth c nm bytes maxL ret) {o : Int} (hd : decode bytes pc = .ok (.ifnonnull o, 3)) (F : Fi p e below s Z EL kc ks P T (mkF m (pc + 3) Ls st)) : Fi p e below s Z EL kc ks P T (mkF m pc Ls (.null :: st)) :=
  F.step fun _ => XT.ifnonnullNo W.here me.x rfl (hb me.b hd) rfl
theorem Wk.acY (W : Wk p l e R s m args below meth c Z EL kn own T h ss cells slots) (me : Me p meth c nm bytes maxL ret) {cd : ClassFile.ACond} {x y : Value} {o : Int} {pc' : Nat} (hd : decode bytes pc = .ok (.if_acmp cd o, 3)) (hx : x.isRef = true) (hy : y.isRef = true) (hc : XT.acmp cd x y = true) (ho : 0 ≤ (pc : Int) + o) (hp : ((pc : Int) + o).toNat = pc') (F : Fi p e below s Z EL kc ks P T (mkF m pc' Ls st)) : Fi p e below s Z EL kc ks P T (mkF m pc Ls (y :: x :: st)) :=
  F.step fun _ => XT.acmpYes W.here me.x rfl rfl (hb me.b hd) rfl hx hy hc ho hp
theorem Wk.acN (W : Wk p l e R s m args below meth c Z EL kn own T h ss cells slots) (me : Me p meth c nm bytes maxL ret) {cd : ClassFile.ACond} {x y : Value} {o : Int} (hd : decode bytes pc = .ok (.if_acmp cd o, 3)) (hx : x.isRef = true) (hy : y.isRef = true) (hc : XT.acmp cd x y = false) (F : Fi p e below s Z EL kc ks P T (mkF m (pc + 3) Ls st)) : Fi p e below s Z EL kc ks P T (mkF m pc Ls (y :: x :: st)) :=
  F.step fun _ => XT.acmpNo W.here me.x rfl (hb me.b hd) rfl hx hy hc
end Steps2
end Jvm.OwnKit
namespace Jvm.OwnKit
open Jvm Jvm.ClassFile Sem Op Lib Jvm.Free Jvm.Stand Jvm.LawKit Jvm.RoadKit Bundle
section Steps3
variable {p : Program} {l : Launch} {e : Env} {R : Room} {s : State} {m : MethodId} {args : Array Value} {below : List Frame} {meth : Method} {c : Code} {Z : State} {a0 : Array Value} {EL : List (String × Nat)} {kn : Bool} {own : String}
  {T : State} {h h' h2 : Heap} {ss : List Addr} {cells slots : Nat} {nm : String} {bytes : ByteArray} {maxL : Nat} {ret : Option FieldType} {kc ks : Nat} {P : Option Value → Heap → Prop} {pc : Nat} {Ls : Array Slot} {st : List Value}
theorem own_xr (h : Heap) : Ext h h := ⟨Nat.le_refl _, fun _ _ q => q⟩
theorem own_xt (E : Ext h h') (F : Ext h' h2) : Ext h h2 := ⟨Nat.le_trans E.1 F.1, fun a c q => F.2 a c (E.2 a c q)⟩
theorem own_xw {a : Addr} {sl : Nat} {v : Value} (E : Ext h h') (q : h.size ≤ a) (W : Wr h' h2 a sl v) : Ext h h2 := by
  refine ⟨by rw [W.size]; exact E.1, fun b cb hb => ?_⟩
  obtain ⟨c0, -, -, -, rfl⟩ := W
  have hne : a ≠ b := by
    intro z
    subst z
    have := (Array.getElem?_eq_some_iff.mp hb).1
    omega
  rw [Array.getElem?_setIfInBounds_ne hne]; exact E.2 _ _ hb
theorem own_xk {ws : List Addr} (E : Ext h h') (K : Keep h' h2 ws) (q : ∀ x ∈ ws, h.size ≤ x) : Ext h h2 :=
  ⟨Nat.le_trans E.1 K.1, fun b cb hb => K.2.1 b cb (E.2 b cb hb) fun z => by have := (Array.getElem?_eq_some_iff.mp hb).1; have := q b z; omega⟩
theorem own_le {a b : Nat} (q : Nat.ble a b = true) : a ≤ b := Nat.le_of_ble_eq_true q
theorem own_lt {a b : Nat} (q : a < b) : a < b := q
theorem own_ge {a b : Nat} (q : a ≤ b) : a ≤ b := q
theorem own_ne {a b : Nat} (q : a < b) : a ≠ b := Nat.ne_of_lt q
theorem own_en {a b : Nat} (q : a < b) : b ≠ a := (Nat.ne_of_lt q).symm
theorem own_xK (E : Ext h h') (ws : List Addr) : Keep h h' ws := ⟨E.1, fun x c q _ => E.2 x c q, fun x c q => ⟨c, E.2 x c q, rfl, rfl, rfl⟩⟩
theorem Sf.safe {a : Addr} {vm0 : Vm} (hal : Z.vm.Alike vm0) (S : Sf Z h ss a) (hss : ∀ x ∈ ss, x < h.size ∧ Safe Z EL vm0 h x) : Safe Z EL vm0 h a := by
  rcases S with q | ⟨C, E, h1, h2⟩ | ⟨cl, ty, A, ht⟩
  · exact (hss a q).2
  · exact Safe.exa hal E h1 h2
  · exact Safe.arr hal A ht
/-- a step that moves no heap -/
theorem Wk.quiet {g g' : JFrame} (W : Wk p l e R s m args below meth c Z EL kn own T h ss cells slots)
    (law : ∀ {vm0 : Vm} {locs : List Loc}, Stand p l e R (s.setVm vm0) m args below meth c T locs cells slots → Z.Warmed39 vm0 → vm0.findClass own = some m.cls → ∃ T', Stand p l e R (s.setVm vm0) m args below meth c T' locs cells slots ∧ T'.heap = h ∧ ∀ target, Steps p.tables e below (T'.setTop g') target → Steps p.tables e below (T.setTop g) target)
    (F : ∀ T', Wk p l e R s m args below meth c Z EL kn own T' h ss cells slots → Fi p e below s Z EL kc ks P T' g') : Fi p e below s Z EL kc ks P T g := by
  obtain ⟨vm0, locs, k0, X, eT, hZ, hS, hk, hown, N, O, C, hss, hK⟩ := W
  obtain ⟨T', X', e', st⟩ := law X hZ hown
  exact (F T' ⟨vm0, locs, k0, X', e', hZ, hS, hk, hown, N, O, C, hss, hK⟩).step st
/-- a step that only makes cells -/
theorem Wk.grows {g g' : JFrame} {k n : Nat} {Q : State → Heap → Prop} (W : Wk p l e R s m args below meth c Z EL kn own T h ss cells slots)
    (law : ∀ {vm0 : Vm} {locs : List Loc}, Stand p l e R (s.setVm vm0) m args below meth c T locs cells slots → Z.Warmed39 vm0 → vm0.findClass own = some m.cls → ∃ T' h', Stand p l e R (s.setVm vm0) m args below meth c T' locs (cells + k) (slots + n) ∧ T'.heap = h' ∧ Ext h h' ∧ (h.size < h'.size) ∧ Q T' h' ∧ ∀ target, Steps p.tables e below (T'.setTop g') target → Steps p.tables e below (T.setTop g) target)
    (F : ∀ T' h', Wk p l e R s m args below meth c Z EL kn own T' h' (h.size :: ss) (cells + k) (slots + n) → Ext h h' → Q T' h' → Fi p e below s Z EL kc ks P T' g') : Fi p e below s Z EL kc ks P T g := by
  obtain ⟨vm0, locs, k0, X, eT, hZ, hS, hk, hown, N, O, C, hss, hK⟩ := W
  obtain ⟨T', h', X', e', E, hlt, q, st⟩ := law X hZ hown
  have C2 := CHr.ext E C.1
  refine (F T' h' ⟨vm0, locs, k0, X', e', hZ, hS, Nat.le_trans hk E.1, hown, N, O.ext E, C.trans C2, fun x hx => ?_, hK⟩ E q).step st
  rcases List.mem_cons.mp hx with rfl | hx
  · exact ⟨hlt, Safe.ext E C.1 (Safe.new (Nat.le_refl _))⟩
  · exact ⟨Nat.lt_of_lt_of_le (hss x hx).1 E.1, Safe.ext E C.1 (hss x hx).2⟩
/-- a step that writes one place -/
theorem Wk.writes {g g' : JFrame} {a : Addr} {sl : Nat} {v : Value} (W : Wk p l e R s m args below meth c Z EL kn own T h ss cells slots) (hS : Sf Z h ss a) (hn : Z.heap.size ≤ a)
    (law : ∀ {vm0 : Vm} {locs : List Loc}, Stand p l e R (s.setVm vm0) m args below meth c T locs cells slots → Z.Warmed39 vm0 → vm0.findClass own = some m.cls → ∃ T' h', Stand p l e R (s.setVm vm0) m args below meth c T' (locs ++ [⟨a, sl⟩]) cells slots ∧ T'.heap = h' ∧ Wr h h' a sl v ∧ ∀ target, Steps p.tables e below (T'.setTop g') target → Steps p.tables e below (T.setTop g) target)
    (F : ∀ T' h', Wk p l e R s m args below meth c Z EL kn own T' h' ss cells slots → Wr h h' a sl v → Fi p e below s Z EL kc ks P T' g') : Fi p e below s Z EL kc ks P T g := by
  obtain ⟨vm0, locs, k0, X, eT, hZ, hSi, hk, hown, N, O, C, hss, hK⟩ := W
  obtain ⟨T', h', X', e', q, st⟩ := law X hZ hown
  have S0 := hS.safe hZ.alike hss
  have C2 := CHr.wr q S0 C.1
  exact (F T' h' ⟨vm0, _, k0, X', e', hZ, hSi, by rw [q.size]; exact hk, hown, Fr.snoc X' N hn, O.wr q hn, C.trans C2, fun x hx => ⟨by rw [q.size]; exact (hss x hx).1, Safe.wr q S0 C.1 (hss x hx).2⟩, hK⟩ q).step st
section Fields
variable {R0 O n d C : String} {index kk : Nat} {a : Addr} {v old : Value} {ty : FieldType}
theorem Wk.getF (W : Wk p l e R s m args below meth c Z EL kn own T h ss cells slots) (me : Me p meth c nm bytes maxL ret) (w : (Cond.fieldLink own index R0 n d).before a0 Z = true) (F : Fld Z h a O n d v) (via : Via Z R0 O n d) (hd : decode bytes pc = .ok (.getfield index, 3))
    (k : ∀ T', Wk p l e R s m args below meth c Z EL kn own T' h ss cells slots → Fi p e below s Z EL kc ks P T' (mkF m (pc + 3) Ls (v :: st))) : Fi p e below s Z EL kc ks P T (mkF m pc Ls (.ref a :: st)) :=
  W.quiet (fun X hZ hown => Jvm.RoadKit.getF X me.x hZ hown (host := "") (Or.inl w) via W.heap F rfl rfl (hb me.b hd)) k
theorem Wk.getS (W : Wk p l e R s m args below meth c Z EL kn own T h ss cells slots) (me : Me p meth c nm bytes maxL ret) (w : (Cond.fieldLink own index R0 n d).before a0 Z = true) (F : Sta Z Z.heap O n d v) (via : Via Z R0 O n d) (hd : decode bytes pc = .ok (.getstatic index, 3))
    (k : ∀ T', Wk p l e R s m args below meth c Z EL kn own T' h ss cells slots → Fi p e below s Z EL kc ks P T' (mkF m (pc + 3) Ls (v :: st))) : Fi p e below s Z EL kc ks P T (mkF m pc Ls st) :=
  W.quiet (fun X hZ hown => Jvm.RoadKit.getS X me.x hZ hown (host := "") w via W.heap (F.ext W.old.2) rfl (hb me.b hd)) k
theorem Wk.putF (W : Wk p l e R s m args below meth c Z EL kn own T h ss cells slots) (me : Me p meth c nm bytes maxL ret) (w : (Cond.fieldLink own index R0 n d).before a0 Z = true) (F : Fld Z h a O n d old) (via : Via Z R0 O n d) (E : Exa Z h a C)
    (L : (Cond.lays C O n d).before a0 Z = true ∨ ((Cond.laysFinal C O n d).before a0 Z = true ∧ own = O ∧ nm = "<init>")) (wi : (Cond.instantiable C kk).before a0 Z = true) (hty : parseFieldDescriptor d = some ty) (hn : narrow ty v = v) (hf : fits ty v = true) (hS : Sf Z h ss a) (hz : Z.heap.size ≤ a)
    (hd : decode bytes pc = .ok (.putfield index, 3))
    (k : ∀ T' h', Wk p l e R s m args below meth c Z EL kn own T' h' ss cells slots → Wr h h' a (Jvm.RoadKit.slotOf Z O n d) v → Fi p e below s Z EL kc ks P T' (mkF m (pc + 3) Ls st)) : Fi p e below s Z EL kc ks P T (mkF m pc Ls (v :: .ref a :: st)) :=
  W.writes hS hz (fun X hZ hown => Jvm.RoadKit.putF X me.x hZ hown (host := "") (Or.inl w) via W.heap F E (L.imp id fun q => ⟨q.1, q.2.1, me.n.trans q.2.2⟩) wi hty hn hf rfl rfl (hb me.b hd)) k
theorem Wk.newO (W : Wk p l e R s m args below meth c Z EL kn own T h ss cells slots) (me : Me p meth c nm bytes maxL ret) (w : (Cond.classLink own index C).before a0 Z = true) (wi : (Cond.instantiable C kk).before a0 Z = true) (wz : (Cond.initialized C).before a0 Z = true) (hd : decode bytes pc = .ok (.new index, 3)) (hc : cells + 1 ≤ R.cells) (hl : slots + kk ≤ R.slots)
    (k : ∀ T' h' a, @Eq Nat h.size a → Wk p l e R s m args below meth c Z EL kn own T' h' (a :: ss) (cells + 1) (slots + kk) → Ext h h' → Exa Z h' a C → (∀ {O nm d : String} {ty : FieldType}, Laid Z a0 C O nm d → parseFieldDescriptor d = some ty → Fld Z h' a O nm d (defaultValue ty)) → (∃ cell : Cell, h'[a]? = some cell ∧ cell.vm = .none ∧ cell.monitor = {}) →
      Fi p e below s Z EL kc ks P T' (mkF m (pc + 3) Ls (.ref a :: st))) : Fi p e below s Z EL kc ks P T (mkF m pc Ls st) :=
  W.grows (k := 1) (n := kk) (Q := fun _ h' => Exa Z h' h.size C ∧ (∀ {O nm d : String} {ty : FieldType}, Laid Z a0 C O nm d → parseFieldDescriptor d = some ty → Fld Z h' h.size O nm d (defaultValue ty)) ∧ (∃ cell : Cell, h'[h.size]? = some cell ∧ cell.vm = .none ∧ cell.monitor = {}))
    (fun X hZ hown => by
      obtain ⟨T', h', X', e', E, A, D, U, st⟩ := Jvm.RoadKit.newO X me.x hZ hown w wi wz W.heap (g := mkF m pc Ls st) rfl (hb me.b hd) hc hl
      exact ⟨T', h', X', e', E, A.lt, ⟨A, D, U⟩, st⟩)
    (fun T' h' W' E q => k T' h' h.size rfl W' E q.1 q.2.1 q.2.2)
end Fields
section Arrays
variable {a : Addr} {n j x : Int32} {ka : ClassId} {vs : List Value} {dv : Value}
theorem Wk.newA {aty : ArrayType} {cap : Nat} (W : Wk p l e R s m args below meth c Z EL kn own T h ss cells slots) (me : Me p meth c nm bytes maxL ret) (w : (Cond.arrayClass (newarray.typeOf aty)).before a0 Z = true) (hd : decode bytes pc = .ok (.newarray aty, 2)) (hn : ¬ n < 0) (hcap : n.toNatClampNeg ≤ cap) (hbig : cap * 8 ≤ 536870912) (hc : cells + 1 ≤ R.cells) (hl : slots + cap ≤ R.slots)
    (k : ∀ T' h' a ka, @Eq Nat h.size a → Wk p l e R s m args below meth c Z EL kn own T' h' (a :: ss) (cells + 1) (slots + cap) → Ext h h' → Arv Z h' a ka (newarray.typeOf aty) n [] (defaultValue (newarray.typeOf aty)) → Fi p e below s Z EL kc ks P T' (mkF m (pc + 2) Ls (.ref a :: st))) : Fi p e below s Z EL kc ks P T (mkF m pc Ls (.int n :: st)) :=
  W.grows (k := 1) (n := cap) (Q := fun _ h' => ∃ ka, Arv Z h' h.size ka (newarray.typeOf aty) n [] (defaultValue (newarray.typeOf aty)))
    (fun X hZ hown => by
      obtain ⟨T', h', cA, X', e', E, A, st⟩ := Jvm.RoadKit.newP X me.x hZ w W.heap (g := mkF m pc Ls (.int n :: st)) rfl (hb me.b hd) rfl hn hcap hbig hc hl
      exact ⟨T', h', X', e', E, A.lt, ⟨cA, Arv.new A hn⟩, st⟩)
    (fun T' h' W' E q => by obtain ⟨ka, A⟩ := q; exact k T' h' h.size ka rfl W' E A)
/-- castore at place i of an array whose places are told -/
theorem Wk.castore {i : Nat} (W : Wk p l e R s m args below meth c Z EL kn own T h ss cells slots) (me : Me p meth c nm bytes maxL ret) (A : Arv Z h a ka .char n vs dv) (hd : decode bytes pc = .ok (.castore, 1)) (hj : ¬ j < 0 ∧ j < n) (hi : j.toNatClampNeg = i) (hv : i < vs.length) (hz : Z.heap.size ≤ a)
    (k : ∀ T' h', Wk p l e R s m args below meth c Z EL kn own T' h' ss cells slots → Wr h h' a i (.int (nar .char x)) → Arv Z h' a ka .char n (vs.set i (.int (nar .char x))) dv → Fi p e below s Z EL kc ks P T' (mkF m (pc + 1) Ls st)) : Fi p e below s Z EL kc ks P T (mkF m pc Ls (.int x :: .int j :: .ref a :: st)) := by
  obtain ⟨cl, A1, q, S, M, H, U⟩ := A
  subst hi
  exact W.writes (Or.inr (Or.inr ⟨cl, .char, A1, by decide⟩)) hz (fun X hZ _ => Jvm.RoadKit.stC X me.x hZ W.heap A1 (inb_of S hj) rfl rfl (hb me.b hd))
    (fun T' h' W' q' => k T' h' W' q' (Arv.set A1 q S M H U (fits_nar_char _) q' _ rfl hv))
theorem Wk.bastore {i : Nat} (W : Wk p l e R s m args below meth c Z EL kn own T h ss cells slots) (me : Me p meth c nm bytes maxL ret) (A : Arv Z h a ka .byte n vs dv) (hd : decode bytes pc = .ok (.bastore, 1)) (hj : ¬ j < 0 ∧ j < n) (hi : j.toNatClampNeg = i) (hv : i < vs.length) (hS : a ∈ ss) (hz : Z.heap.size ≤ a)
    (k : ∀ T' h', Wk p l e R s m args below meth c Z EL kn own T' h' ss cells slots → Wr h h' a i (.int (nar .byte x)) → Arv Z h' a ka .byte n (vs.set i (.int (nar .byte x))) dv → Fi p e below s Z EL kc ks P T' (mkF m (pc + 1) Ls st)) : Fi p e below s Z EL kc ks P T (mkF m pc Ls (.int x :: .int j :: .ref a :: st)) := by
  obtain ⟨cl, A1, q, S, M, H, U⟩ := A
  subst hi
  exact W.writes (Or.inl hS) hz (fun X hZ _ => Jvm.RoadKit.stB X me.x hZ W.heap A1 (inb_of S hj) rfl rfl (hb me.b hd))
    (fun T' h' W' q' => k T' h' W' q' (Arv.set A1 q S M H U (fits_nar_byte _) q' _ rfl hv))
theorem Wk.caload {v : Value} (W : Wk p l e R s m args below meth c Z EL kn own T h ss cells slots) (me : Me p meth c nm bytes maxL ret) (A : Arv Z h a ka .char n vs dv) (hd : decode bytes pc = .ok (.caload, 1)) (hj : ¬ j < 0 ∧ j < n) (hv : vs.getD j.toNatClampNeg dv = v)
    (F : Fi p e below s Z EL kc ks P T (mkF m (pc + 1) Ls (v :: st))) : Fi p e below s Z EL kc ks P T (mkF m pc Ls (.int j :: .ref a :: st)) := by
  obtain ⟨cl, A1, q, S, M, H, U⟩ := A
  obtain ⟨vm0, locs, k0, X, eT, hZ, -⟩ := W
  exact F.step fun t F' => X.caload me.x (by rw [eT]; exact A1.1) (State.isArrayOf_alike (s := Z) (T := s.setVm vm0) hZ.alike A1.2.1) A1.2.2 (inb_of S hj) (H.at (inb_of S hj) hv) (g := mkF m pc Ls (.int j :: .ref a :: st)) rfl rfl (hb me.b hd) t F'
theorem Wk.baload {v : Value} (W : Wk p l e R s m args below meth c Z EL kn own T h ss cells slots) (me : Me p meth c nm bytes maxL ret) (A : Arv Z h a ka .byte n vs dv) (hd : decode bytes pc = .ok (.baload, 1)) (hj : ¬ j < 0 ∧ j < n) (hv : vs.getD j.toNatClampNeg dv = v)
    (F : Fi p e below s Z EL kc ks P T (mkF m (pc + 1) Ls (v :: st))) : Fi p e below s Z EL kc ks P T (mkF m pc Ls (.int j :: .ref a :: st)) := by
  obtain ⟨cl, A1, q, S, M, H, U⟩ := A
  obtain ⟨vm0, locs, k0, X, eT, hZ, -⟩ := W
  exact F.step fun t F' => X.baloadBytes me.x (by rw [eT]; exact A1.1) (State.isArrayOf_alike (s := Z) (T := s.setVm vm0) hZ.alike A1.2.1) A1.2.2 (inb_of S hj) (H.at (inb_of S hj) hv) (g := mkF m pc Ls (.int j :: .ref a :: st)) rfl rfl (hb me.b hd) t F'
theorem Wk.alen {ty : FieldType} (W : Wk p l e R s m args below meth c Z EL kn own T h ss cells slots) (me : Me p meth c nm bytes maxL ret) (A : Arv Z h a ka ty n vs dv) (hd : decode bytes pc = .ok (.arraylength, 1))
    (F : Fi p e below s Z EL kc ks P T (mkF m (pc + 1) Ls (.int n :: st))) : Fi p e below s Z EL kc ks P T (mkF m pc Ls (.ref a :: st)) := by
  obtain ⟨cl, A1, q, S, M, H, U⟩ := A
  obtain ⟨vm0, locs, k0, X, eT, hZ, -⟩ := W
  exact F.step fun t F' => X.arraylength me.x (by rw [eT]; exact A1.1) (State.isArrayOf_alike (s := Z) (T := s.setVm vm0) hZ.alike A1.2.1) (g := mkF m pc Ls (.ref a :: st)) rfl rfl (hb me.b hd) t (by rw [len_of S M]; exact F')
end Arrays
section Consts
variable {index : Nat}
theorem Wk.ldc2J {v : Int64} (W : Wk p l e R s m args below meth c Z EL kn own T h ss cells slots) (me : Me p meth c nm bytes maxL ret) (w : (Cond.constantLong own index v).before a0 Z = true) (hd : decode bytes pc = .ok (.ldc2_w index, 3))
    (F : Fi p e below s Z EL kc ks P T (mkF m (pc + 3) Ls (.long v :: st))) : Fi p e below s Z EL kc ks P T (mkF m pc Ls st) := by
  obtain ⟨vm0, locs, k0, X, eT, hZ, -, -, hown, -⟩ := W
  exact F.step fun t F' => X.ldc2Long me.x hown (mvT (s := s.setVm vm0) hZ w) (g := mkF m pc Ls st) rfl (hb me.b hd) t F'
theorem Wk.ldcI {v : Int32} (W : Wk p l e R s m args below meth c Z EL kn own T h ss cells slots) (me : Me p meth c nm bytes maxL ret) (w : (Cond.constant own index v).before a0 Z = true) (hd : decode bytes pc = .ok (.ldc index, 2))
    (F : Fi p e below s Z EL kc ks P T (mkF m (pc + 2) Ls (.int v :: st))) : Fi p e below s Z EL kc ks P T (mkF m pc Ls st) := by
  obtain ⟨vm0, locs, k0, X, eT, hZ, -, -, hown, -⟩ := W
  exact F.step fun t F' => X.ldcInt me.x hown (mvT (s := s.setVm vm0) hZ w) (g := mkF m pc Ls st) rfl (hb me.b hd) t F'
theorem Wk.cast {K : String} {a : Addr} (W : Wk p l e R s m args below meth c Z EL kn own T h ss cells slots) (me : Me p meth c nm bytes maxL ret) (w : (Cond.classLink own index K).before a0 Z = true) (I : Ins Z h a K true) (hd : decode bytes pc = .ok (.checkcast index, 3))
    (k : ∀ T', Wk p l e R s m args below meth c Z EL kn own T' h ss cells slots → Fi p e below s Z EL kc ks P T' (mkF m (pc + 3) Ls (.ref a :: st))) : Fi p e below s Z EL kc ks P T (mkF m pc Ls (.ref a :: st)) :=
  W.quiet (fun X hZ hown => Jvm.RoadKit.castY X me.x hZ hown w W.heap I rfl rfl (hb me.b hd)) k
theorem Wk.instY {K : String} {a : Addr} (W : Wk p l e R s m args below meth c Z EL kn own T h ss cells slots) (me : Me p meth c nm bytes maxL ret) (w : (Cond.classLink own index K).before a0 Z = true) (I : Ins Z h a K true) (hd : decode bytes pc = .ok (.instanceof index, 3))
    (k : ∀ T', Wk p l e R s m args below meth c Z EL kn own T' h ss cells slots → Fi p e below s Z EL kc ks P T' (mkF m (pc + 3) Ls (.int 1 :: st))) : Fi p e below s Z EL kc ks P T (mkF m pc Ls (.ref a :: st)) :=
  W.quiet (fun X hZ hown => Jvm.RoadKit.instY X me.x hZ hown w W.heap I rfl rfl (hb me.b hd)) k
theorem Wk.initO {a : Addr} (W : Wk p l e R s m args below meth c Z EL kn own T h ss cells slots) (me : Me p meth c nm bytes maxL ret) (w1 : (Cond.methodLink own index Lib.objectInit).before a0 Z = true) (w2 : (Cond.instanceMethod Lib.objectInit).before a0 Z = true) (w3 : (Cond.code Lib.objectInit ⟨#[0xb1]⟩ 1 none).before a0 Z = true)
    (hd : decode bytes pc = .ok (.invokespecial index, 3)) (hsz : Ls.size = maxL) (hf : 1 ≤ R.frames) (hl : (st.map fun v => v.category).sum + 12 ≤ R.locals)
    (k : ∀ T', Wk p l e R s m args below meth c Z EL kn own T' h ss cells slots → Fi p e below s Z EL kc ks P T' (mkF m (pc + 3) Ls st)) : Fi p e below s Z EL kc ks P T (mkF m pc Ls (.ref a :: st)) :=
  W.quiet (fun X hZ hown => Jvm.RoadKit.initO X me.x hZ hown w1 w2 w3 W.heap (g := mkF m pc Ls (.ref a :: st)) rfl (hsz.trans me.ml.symm) rfl (hb me.b hd) hf (W := (st.map fun v => v.category).sum) (by show 2 * 0 + _ ≤ _; omega) hl) k
/-- ldc of a String constant that is told, read -/
theorem Wk.ldcS {text : String} {vs : List Value} {z : Int32} {n : Nat} (W : Wk p l e R s m args below meth c Z EL kn own T h ss cells slots) (me : Me p meth c nm bytes maxL ret) (hEL : EW Z a0 EL) (hmem : (own, index) ∈ EL) (w : (Cond.stringLink own index text).before a0 Z = true) (wS : ∀ a ∈ Bundle.stringAtoms, a.before a0 Z = true)
    (ht : (∀ c ∈ text.toList, c.toNat < 256) ∧ text.toList.map (fun c => Value.int (Jvm.Lit.byteI c.toNat.toUInt16)) = vs) (hz : ¬ z < 0) (hl : z.toNatClampNeg = vs.length) (hd : decode bytes pc = .ok (.ldc index, 2)) (hn : 4 * text.toList.length ≤ n) (hbig : n ≤ 536870912) (hc : cells + 2 ≤ R.cells) (hl' : slots + (n + 4) ≤ R.slots)
    (k : ∀ T' h' a b ka, Wk p l e R s m args below meth c Z EL kn own T' h' ss (cells + 2) (slots + (n + 4)) → Ext h h' → Exa Z h' a "java/lang/String" → Fld Z h' a "java/lang/String" "coder" "B" (.int 0) → Fld Z h' a "java/lang/String" "value" "[B" (.ref b) → Arv Z h' b ka .byte z vs (.int 0) → (∀ x ∈ ss, x ≠ a ∧ x ≠ b) →
      Fi p e below s Z EL kc ks P T' (mkF m (pc + 2) Ls (.ref a :: st))) : Fi p e below s Z EL kc ks P T (mkF m pc Ls st) := by
  obtain ⟨vm0, locs, k0, X, eT, hZ, hS, hk, hown, N, O, C, hss, hK⟩ := W
  obtain ⟨a, T', h', k1, b, ka, X', e', E, hS2, hk2, hW, hf, EA, FC, FV, A, -, -, C2, -, hne, stp⟩ := ldcCH X me.x hZ hown w wS eT hS hk hEL hmem C.1 ht hz hl (g := mkF m pc Ls st) rfl (hb me.b hd) hn hbig hc hl'
  have hal : vm0.Alike T'.vm := by
    have q := State.Warmed39.alike hW
    exact (State.Warmed39.alike hZ).symm.trans q
  have ss2 : ∀ x ∈ ss, x < h'.size ∧ Safe Z EL T'.vm h' x := fun x hx => ⟨Nat.lt_of_lt_of_le (hss x hx).1 E.1, C2.safe (hss x hx).1 (hss x hx).2⟩
  refine (k T' h' a b ka ⟨T'.vm, locs, k1, X', e', hW, hS2, hk2, hf, N, O.ext E, C.trans C2, ss2, fun q => ⟨Vm.MethodsKnown.alikeC hal (hK q).1, Vm.FramesKnown.alikeC hal (hK q).2⟩⟩ E EA FC FV A (fun x hx => hne x (ss2 x hx).2)).step stp
end Consts
section Calls
variable {index : Nat} {y y' z : MethodName} {ybytes : ByteArray} {ymaxL : Nat} {yret : Option FieldType} {rm : Room} {ss' : List Addr} {rest : List Value}
theorem Wk.callS {argsL : List Value} {Q : Option Value → Heap → Prop} (W : Wk p l e R s m args below meth c Z EL kn own T h ss cells slots) (me : Me p meth c nm bytes maxL ret) (hEL : EW Z a0 EL) (w1 : (Cond.methodLink own index y).before a0 Z = true) (w2 : (Cond.static y).before a0 Z = true) (w3 : (Cond.initialized y.cls).before a0 Z = true) (w4 : (Cond.code y ybytes ymaxL yret).before a0 Z = true)
    (hM : Con l Z EL kn [] y ybytes ymaxL yret rm argsL.toArray h ss' Q) (hd : decode bytes pc = .ok (.invokestatic index, 3)) (hy : y.cls ≠ "java/lang/invoke/MethodHandle" ∧ y.cls ≠ "java/lang/invoke/VarHandle") (hss : ∀ x ∈ ss', x ∈ ss) (hsz : Ls.size = maxL) (hlen : ∀ sig, parseMethodDescriptor y.desc = some sig → argsL.length = sig.parameters.length)
    (hf : rm.frames + 1 ≤ R.frames) (hl : (rest.map fun v => v.category).sum + (ymaxL + 11) + rm.locals ≤ R.locals) (hc : cells + rm.cells ≤ R.cells) (hs : slots + rm.slots ≤ R.slots) {stk : List Value} (hstk : stk = argsL.reverse ++ rest)
    (k : ∀ T' h' v, Wk p l e R s m args below meth c Z EL kn own T' h' ss (cells + rm.cells) (slots + rm.slots) → h.size ≤ h'.size → Q v h' → Fi p e below s Z EL kc ks P T' (mkF m (pc + 3) Ls (v.toList ++ rest))) : Fi p e below s Z EL kc ks P T (mkF m pc Ls stk) := by
  obtain ⟨vm0, locs, k0, X, eT, hZ, hS, hk, hown, N, O, C, hsf, hK⟩ := W
  subst hstk
  obtain ⟨v, vm1, B, hW1, X', hS2, hg, ⟨L, ⟨hq, NL, OB⟩, e1, e2, e3, C2⟩, stp⟩ := callSS X me.x hown (mvT (s := s.setVm vm0) hZ w1) (mvT (s := s.setVm vm0) hZ w2) (mvT (s := s.setVm vm0) hZ w3) (mvT (s := s.setVm vm0) hZ w4) hy
    (Con.back (Wt := (rest.map fun v => v.category).sum) hM hZ w4 w3 hf hl hEL C.1 (fun x hx => hsf x (hss x hx)) hK) (g := mkF m pc Ls (argsL.reverse ++ rest)) rfl (hsz.trans me.ml.symm) hlen rfl (by show 2 * 0 + _ ≤ _; omega) (hb me.b hd) (fun _ _ => ⟨rfl, eT, hc, hs⟩)
  have hg' : h.size ≤ B.U.heap.size := by rw [← eT]; exact hg
  exact (k B.U B.U.heap v (Wk.behind X' hZ hS hk hown N C hsf hK hS2 hg' NL OB e1 e2 e3 C2) hg' hq).step fun t F => stp.trans F
theorem Wk.callI {argsL : List Value} {a : Addr} {Q : Option Value → Heap → Prop} (W : Wk p l e R s m args below meth c Z EL kn own T h ss cells slots) (me : Me p meth c nm bytes maxL ret) (hEL : EW Z a0 EL) (w1 : (Cond.methodLink own index y).before a0 Z = true) (w2 : (Cond.instanceMethod y).before a0 Z = true) (w3 : (Cond.initialized y.cls).before a0 Z = true) (w4 : (Cond.code y ybytes ymaxL none).before a0 Z = true) (hy1 : y.name = "<init>")
    (hM : Con l Z EL kn [] y ybytes ymaxL none rm (.ref a :: argsL).toArray h ss' Q) (hd : decode bytes pc = .ok (.invokespecial index, 3)) (hy : y.cls ≠ "java/lang/invoke/MethodHandle" ∧ y.cls ≠ "java/lang/invoke/VarHandle") (hss : ∀ x ∈ ss', x ∈ ss) (hsz : Ls.size = maxL) (hlen : ∀ sig, parseMethodDescriptor y.desc = some sig → argsL.length = sig.parameters.length)
    (hf : rm.frames + 1 ≤ R.frames) (hl : (rest.map fun v => v.category).sum + (ymaxL + 11) + rm.locals ≤ R.locals) (hc : cells + rm.cells ≤ R.cells) (hs : slots + rm.slots ≤ R.slots) {stk : List Value} (hstk : stk = argsL.reverse ++ .ref a :: rest)
    (k : ∀ T' h' v, Wk p l e R s m args below meth c Z EL kn own T' h' ss (cells + rm.cells) (slots + rm.slots) → h.size ≤ h'.size → Q v h' → Fi p e below s Z EL kc ks P T' (mkF m (pc + 3) Ls (v.toList ++ rest))) : Fi p e below s Z EL kc ks P T (mkF m pc Ls stk) := by
  obtain ⟨vm0, locs, k0, X, eT, hZ, hS, hk, hown, N, O, C, hsf, hK⟩ := W
  subst hstk
  obtain ⟨v, vm1, B, hW1, X', hS2, hg, ⟨L, ⟨hq, NL, OB⟩, e1, e2, e3, C2⟩, stp⟩ := X.specialBackS me.x hy1 hown (mvT (s := s.setVm vm0) hZ w1) (mvT (s := s.setVm vm0) hZ w2) (mvT (s := s.setVm vm0) hZ w4) hy
    (Con.back (Wt := (rest.map fun v => v.category).sum) hM hZ w4 w3 hf hl hEL C.1 (fun x hx => hsf x (hss x hx)) hK) (g := mkF m pc Ls (argsL.reverse ++ .ref a :: rest)) rfl (hsz.trans me.ml.symm) (Steps.refl _) hlen rfl (by show 2 * 0 + _ ≤ _; omega) (hb me.b hd) (fun _ _ => ⟨rfl, eT, hc, hs⟩)
  have hg' : h.size ≤ B.U.heap.size := by rw [← eT]; exact hg
  exact (k B.U B.U.heap v (Wk.behind X' hZ hS hk hown N C hsf hK hS2 hg' NL OB e1 e2 e3 C2) hg' hq).step fun t F => stp.trans F
theorem Wk.callV {argsL : List Value} {a : Addr} {CC : String} {Q : Option Value → Heap → Prop} (W : Wk p l e R s m args below meth c Z EL kn own T h ss cells slots) (me : Me p meth c nm bytes maxL ret) (hEL : EW Z a0 EL) (w1 : (Cond.methodLink own index y).before a0 Z = true) (w2 : (Cond.declares y).before a0 Z = true) (hnf : ∀ {vm0 : Vm}, Z.Warmed39 vm0 → NotFace (s.setVm vm0) y) (w3 : (Cond.selects CC y z).before a0 Z = true) (w4 : (Cond.instanceMethod z).before a0 Z = true) (w5 : (Cond.initialized z.cls).before a0 Z = true) (w6 : (Cond.code z ybytes ymaxL yret).before a0 Z = true)
    (E : Exa Z h a CC) (hM : Con l Z EL kn [] z ybytes ymaxL yret rm (.ref a :: argsL).toArray h ss' Q) (hd : decode bytes pc = .ok (.invokevirtual index, 3)) (hy : y.cls ≠ "java/lang/invoke/MethodHandle" ∧ y.cls ≠ "java/lang/invoke/VarHandle") (hss : ∀ x ∈ ss', x ∈ ss) (hsz : Ls.size = maxL) (hlen : ∀ sig, parseMethodDescriptor y.desc = some sig → argsL.length = sig.parameters.length)
    (hf : rm.frames + 1 ≤ R.frames) (hl : (rest.map fun v => v.category).sum + (ymaxL + 11) + rm.locals ≤ R.locals) (hc : cells + rm.cells ≤ R.cells) (hs : slots + rm.slots ≤ R.slots) {stk : List Value} (hstk : stk = argsL.reverse ++ .ref a :: rest)
    (k : ∀ T' h' v, Wk p l e R s m args below meth c Z EL kn own T' h' ss (cells + rm.cells) (slots + rm.slots) → h.size ≤ h'.size → Q v h' → Fi p e below s Z EL kc ks P T' (mkF m (pc + 3) Ls (v.toList ++ rest))) : Fi p e below s Z EL kc ks P T (mkF m pc Ls stk) := by
  obtain ⟨vm0, locs, k0, X, eT, hZ, hS, hk, hown, N, O, C, hsf, hK⟩ := W
  subst hstk
  obtain ⟨cB, kB, qa, qb, qc⟩ := isOf (s := s.setVm vm0) (T := T) hZ eT E
  obtain ⟨v, vm1, B, hW1, X', hS2, hg, ⟨L, ⟨hq, NL, OB⟩, e1, e2, e3, C2⟩, stp⟩ := X.virtualBackS me.x hown (mvT (s := s.setVm vm0) hZ w1) (mvT (s := s.setVm vm0) hZ w2) (hnf hZ) (mvT (s := s.setVm vm0) hZ w3) (mvT (s := s.setVm vm0) hZ w4) hy
    (Con.back (Wt := (rest.map fun v => v.category).sum) hM hZ w6 w5 hf hl hEL C.1 (fun x hx => hsf x (hss x hx)) hK) qa qc (g := mkF m pc Ls (argsL.reverse ++ .ref a :: rest)) rfl (hsz.trans me.ml.symm) (Steps.refl _) hlen rfl (by show 2 * 0 + _ ≤ _; omega) (hb me.b hd) (fun _ _ => ⟨rfl, eT, hc, hs⟩)
  have hg' : h.size ≤ B.U.heap.size := by rw [← eT]; exact hg
  exact (k B.U B.U.heap v (Wk.behind X' hZ hS hk hown N C hsf hK hS2 hg' NL OB e1 e2 e3 C2) hg' hq).step fun t F => stp.trans F
theorem Wk.callF {argsL : List Value} {a : Addr} {CC : String} {count : Nat} {Q : Option Value → Heap → Prop} (W : Wk p l e R s m args below meth c Z EL kn own T h ss cells slots) (me : Me p meth c nm bytes maxL ret) (hEL : EW Z a0 EL) (w1 : (Cond.methodLink own index y).before a0 Z = true) (w2 : (Cond.declares y).before a0 Z = true) (w2' : (Cond.interfaceMethod y.cls y.cls y.name y.desc).before a0 Z = true) (hi' : ((Cond.interfaceMethod y.cls y.cls y.name y.desc).onTables && (Cond.interfaceMethod y.cls y.cls y.name y.desc).keepsFace) = true) (w3 : (Cond.selects CC y z).before a0 Z = true) (w4 : (Cond.instanceMethod z).before a0 Z = true) (w4' : (Cond.publicMethod z).before a0 Z = true) (w4u : (Cond.unhidden CC y.name y.desc).before a0 Z = true) (w4c : (Cond.castable CC y.cls).before a0 Z = true) (w5 : (Cond.initialized z.cls).before a0 Z = true) (w6 : (Cond.code z ybytes ymaxL yret).before a0 Z = true)
    (E : Exa Z h a CC) (hM : Con l Z EL kn [] z ybytes ymaxL yret rm (.ref a :: argsL).toArray h ss' Q) (hd : decode bytes pc = .ok (.invokeinterface index count, 5)) (hy : y.cls ≠ "java/lang/invoke/MethodHandle" ∧ y.cls ≠ "java/lang/invoke/VarHandle") (hss : ∀ x ∈ ss', x ∈ ss) (hsz : Ls.size = maxL) (hlen : ∀ sig, parseMethodDescriptor y.desc = some sig → argsL.length = sig.parameters.length)
    (hf : rm.frames + 1 ≤ R.frames) (hl : (rest.map fun v => v.category).sum + (ymaxL + 11) + rm.locals ≤ R.locals) (hc : cells + rm.cells ≤ R.cells) (hs : slots + rm.slots ≤ R.slots) {stk : List Value} (hstk : stk = argsL.reverse ++ .ref a :: rest)
    (k : ∀ T' h' v, Wk p l e R s m args below meth c Z EL kn own T' h' ss (cells + rm.cells) (slots + rm.slots) → h.size ≤ h'.size → Q v h' → Fi p e below s Z EL kc ks P T' (mkF m (pc + 5) Ls (v.toList ++ rest))) : Fi p e below s Z EL kc ks P T (mkF m pc Ls stk) := by
  obtain ⟨vm0, locs, k0, X, eT, hZ, hS, hk, hown, N, O, C, hsf, hK⟩ := W
  subst hstk
  obtain ⟨cB, kB, qa, qb, qc⟩ := isOf (s := s.setVm vm0) (T := T) hZ eT E
  obtain ⟨v, vm1, B, hW1, X', hS2, hg, ⟨L, ⟨hq, NL, OB⟩, e1, e2, e3, C2⟩, stp⟩ := X.interfaceBackS me.x hown (mvT (s := s.setVm vm0) hZ w1) (mvT (s := s.setVm vm0) hZ w2) (mvT (s := s.setVm vm0) hZ w2' hi') (mvT (s := s.setVm vm0) hZ w3) (mvT (s := s.setVm vm0) hZ w4) (mvT (s := s.setVm vm0) hZ w4') (mvT (s := s.setVm vm0) hZ w4u) (mvT (s := s.setVm vm0) hZ w4c) hy
    (Con.back (Wt := (rest.map fun v => v.category).sum) hM hZ w6 w5 hf hl hEL C.1 (fun x hx => hsf x (hss x hx)) hK) qa qb qc (g := mkF m pc Ls (argsL.reverse ++ .ref a :: rest)) rfl (hsz.trans me.ml.symm) (Steps.refl _) hlen rfl (by show 2 * 0 + _ ≤ _; omega) (hb me.b hd) (fun _ _ => ⟨rfl, eT, hc, hs⟩)
  have hg' : h.size ≤ B.U.heap.size := by rw [← eT]; exact hg
  exact (k B.U B.U.heap v (Wk.behind X' hZ hS hk hown N C hsf hK hS2 hg' NL OB e1 e2 e3 C2) hg' hq).step fun t F => stp.trans F
end Calls
end Steps3
end Jvm.OwnKit
namespace Jvm.OwnKit
open Jvm Jvm.ClassFile Sem Op Lib Jvm.Free Jvm.Stand Jvm.LawKit Jvm.RoadKit Bundle
section Nums
theorem on_int {i : Nat} (h : i < 2 ^ 31) : (Int32.ofNat i).toInt = (i : Int) := Int32.toInt_ofNat_small h
theorem on_clamp {i : Nat} (h : i < 2 ^ 31) : (Int32.ofNat i).toNatClampNeg = i := Int32.toNatClampNeg_ofNat_of_lt h
theorem on_lt {i n : Nat} (h : i < n) (hn : n < 2 ^ 31) : Int32.ofNat i < Int32.ofNat n := by
  rw [Int32.lt_iff_toInt_lt, on_int (by omega), on_int hn]; omega
theorem on_nlt {i n : Nat} (h : n ≤ i) (hi : i < 2 ^ 31) : ¬ Int32.ofNat i < Int32.ofNat n := by
  rw [Int32.lt_iff_toInt_lt, on_int hi, on_int (by omega)]; omega
theorem on_nneg {i : Nat} (hi : i < 2 ^ 31) : ¬ Int32.ofNat i < 0 := by
  rw [Int32.lt_iff_toInt_lt, on_int hi, Int32.toInt_zero]; omega
theorem on_in {i n : Nat} (h : i < n) (hn : n < 2 ^ 31) : ¬ Int32.ofNat i < 0 ∧ Int32.ofNat i < Int32.ofNat n := ⟨on_nneg (by omega), on_lt h hn⟩
theorem on_inj {i n : Nat} (hi : i < 2 ^ 31) (hn : n < 2 ^ 31) : Int32.ofNat i = Int32.ofNat n ↔ i = n := by
  rw [← Int32.toInt_inj, on_int hi, on_int hn]; omega
theorem on_add (i j : Nat) : Int32.ofNat i + Int32.ofNat j = Int32.ofNat (i + j) := (Int32.ofNat_add i j).symm
theorem on_succ (i : Nat) : Int32.ofNat i + 1 = Int32.ofNat (i + 1) := (inc_ofNat i).symm
theorem on_sub {i j : Nat} (h : j ≤ i) : Int32.ofNat i - Int32.ofNat j = Int32.ofNat (i - j) := by
  have e := on_add (i - j) j
  rw [Nat.sub_add_cancel h] at e
  rw [← e, Int32.add_sub_cancel]
theorem nar_char_of {x : Int32} (h : ¬ x < 0 ∧ ¬ (65535 : Int32) < x) : nar .char x = x := by
  have q := c_i2c x
  have h1 := h.1; have h2 := h.2
  rw [Int32.lt_iff_toInt_lt] at h1 h2
  have e : (65535 : Int32).toInt = 65535 := rfl
  rw [Int32.toInt_zero] at h1
  rw [e] at h2
  show x.toUInt32.toUInt16.toUInt32.toInt32 = x
  rw [← Int32.toInt_inj]
  have := q.1; have := q.2.1; have := q.2.2
  omega
theorem nar_byte_idem (x : Int32) : nar .byte x.toInt8.toInt32 = x.toInt8.toInt32 := by
  show x.toInt8.toInt32.toInt8.toInt32 = _
  simp
/-- a char below 256: its byte read back -/
theorem byte_back {x : Int32} (h : ¬ x < 0 ∧ ¬ (255 : Int32) < x) : x.toInt8.toInt32 &&& 255 = x := by
  have h1 := h.1; have h2 := h.2
  rw [Int32.lt_iff_toInt_lt] at h1 h2
  have e : (255 : Int32).toInt = 255 := rfl
  rw [Int32.toInt_zero] at h1
  rw [e] at h2
  rw [← Int32.toInt_inj, c_mask _ _ 8 (by omega) (by decide)]
  have := c_i2b x
  omega
theorem up16 {x : Int32} (h : ¬ x < 0 ∧ ¬ (255 : Int32) < x) : ¬ x < 0 ∧ ¬ (65535 : Int32) < x := ⟨h.1, fun q => h.2 (by
  rw [Int32.lt_iff_toInt_lt] at q ⊢
  have e1 : (65535 : Int32).toInt = 65535 := rfl
  have e2 : (255 : Int32).toInt = 255 := rfl
  omega)⟩
/-- (char) (x & 255) -/
theorem c255 (x : Int32) : ¬ (x &&& (255 : Int32)).toUInt32.toUInt16.toUInt32.toInt32 < 0 ∧ ¬ (255 : Int32) < (x &&& (255 : Int32)).toUInt32.toUInt16.toUInt32.toInt32 := by
  rw [i2c_mask]
  have q := c_mask x 255 8 (by omega) (by decide)
  have e : (255 : Int32).toInt = 255 := rfl
  rw [Int32.lt_iff_toInt_lt, Int32.lt_iff_toInt_lt, Int32.toInt_zero, e, q]
  omega
end Nums
section Kit4
variable {p : Program} {l : Launch} {e : Env} {R : Room} {s : State} {m : MethodId} {args : Array Value} {below : List Frame} {meth : Method} {c : Code} {Z : State} {a0 : Array Value} {EL : List (String × Nat)} {kn : Bool} {own : String}
  {T : State} {h h' h2 : Heap} {ss : List Addr} {cells slots : Nat} {nm : String} {bytes : ByteArray} {maxL : Nat} {ret : Option FieldType} {kc ks : Nat} {P : Option Value → Heap → Prop} {pc : Nat} {Ls : Array Slot} {st : List Value}
  {a : Addr} {n j x : Int32} {ka : ClassId} {vs : List Value} {dv : Value}
theorem Fi.entry {L : Array Slot} {as' : Array Value} (q : entryFrame m as' maxL = mkF m 0 L []) (F : Fi p e below s Z EL kc ks P T (mkF m 0 L [])) : Fi p e below s Z EL kc ks P T (entryFrame m as' maxL) := q ▸ F
theorem set_push (vs : List Value) (dv v : Value) {i : Nat} (hi : vs.length = i) : (vs ++ List.replicate 1 dv).set i v = vs ++ [v] := by subst hi; simp
/-- castore behind the last place told -/
theorem Wk.castoreP {i : Nat} (W : Wk p l e R s m args below meth c Z EL kn own T h ss cells slots) (me : Me p meth c nm bytes maxL ret) (A : Arv Z h a ka .char n vs dv) (hx : ¬ x < 0 ∧ ¬ (65535 : Int32) < x) (hd : decode bytes pc = .ok (.castore, 1)) (hv : vs.length = i) (hi : j.toNatClampNeg = i) (hj : ¬ j < 0 ∧ j < n) (hz : Z.heap.size ≤ a)
    (k : ∀ T' h', Wk p l e R s m args below meth c Z EL kn own T' h' ss cells slots → Wr h h' a i (.int x) → Arv Z h' a ka .char n (vs ++ [.int x]) dv → Fi p e below s Z EL kc ks P T' (mkF m (pc + 1) Ls st)) : Fi p e below s Z EL kc ks P T (mkF m pc Ls (.int x :: .int j :: .ref a :: st)) :=
  W.castore me (A.pad (pad_rep vs dv 1)) hd hj hi (by simp [← hv]) hz (fun T' h' W' q A' => by
    rw [nar_char_of hx] at q A'
    rw [set_push _ _ _ hv] at A'
    exact k T' h' W' q A')
theorem Wk.bastoreP {i : Nat} (W : Wk p l e R s m args below meth c Z EL kn own T h ss cells slots) (me : Me p meth c nm bytes maxL ret) (A : Arv Z h a ka .byte n vs dv) (hx : nar .byte x = x) (hd : decode bytes pc = .ok (.bastore, 1)) (hv : vs.length = i) (hi : j.toNatClampNeg = i) (hj : ¬ j < 0 ∧ j < n) (hS : a ∈ ss) (hz : Z.heap.size ≤ a)
    (k : ∀ T' h', Wk p l e R s m args below meth c Z EL kn own T' h' ss cells slots → Wr h h' a i (.int x) → Arv Z h' a ka .byte n (vs ++ [.int x]) dv → Fi p e below s Z EL kc ks P T' (mkF m (pc + 1) Ls st)) : Fi p e below s Z EL kc ks P T (mkF m pc Ls (.int x :: .int j :: .ref a :: st)) :=
  W.bastore me (A.pad (pad_rep vs dv 1)) hd hj hi (by simp [← hv]) hS hz (fun T' h' W' q A' => by
    rw [hx] at q A'
    rw [set_push _ _ _ hv] at A'
    exact k T' h' W' q A')
/-- what a Latin-1 String's byte[] holds -/
def lb (cs : List Int32) : List Value := cs.map fun c => Value.int c.toInt8.toInt32
/-- every sign below 256 -/
def C8 (cs : List Int32) : Prop := ∀ c ∈ cs, ¬ c < 0 ∧ ¬ (255 : Int32) < c
/-- a String of signs below 256 -/
def Lat (Z : State) (h : Heap) (a : Addr) (cs : List Int32) : Prop :=
  ∃ (b : Addr) (k : ClassId), Exa Z h a "java/lang/String" ∧ Fld Z h a "java/lang/String" "coder" "B" (.int 0) ∧ Fld Z h a "java/lang/String" "value" "[B" (.ref b) ∧ Arv Z h b k .byte (Int32.ofNat cs.length) (lb cs) (.int 0) ∧ cs.length < 2 ^ 20 ∧ C8 cs
theorem Lat.ext {cs : List Int32} (E : Ext h h') (S : Lat Z h a cs) : Lat Z h' a cs := by
  obtain ⟨b, k, h1, h2, h3, h4, h5⟩ := S; exact ⟨b, k, h1.ext E, h2.ext E, h3.ext E, h4.ext E, h5⟩
theorem lb_len (cs : List Int32) : (lb cs).length = cs.length := by simp [lb]
theorem lb_get {cs : List Int32} {i : Nat} (hi : i < cs.length) : (lb cs).getD i (.int 0) = .int (cs.getD i 0).toInt8.toInt32 := by
  simp [lb, List.getD_eq_getElem?_getD, hi]
theorem ci_get {cs : List Int32} {i : Nat} {dv : Value} (hi : i < cs.length) : (cs.map Value.int).getD i dv = .int (cs.getD i 0) := by
  simp [List.getD_eq_getElem?_getD, hi]
theorem C8.at {cs : List Int32} (q : C8 cs) {i : Nat} (hi : i < cs.length) : ¬ cs.getD i 0 < 0 ∧ ¬ (255 : Int32) < cs.getD i 0 := by
  have : cs.getD i 0 = cs[i] := by simp [List.getD_eq_getElem?_getD, hi]
  rw [this]; exact q _ (List.getElem_mem hi)
theorem lb_take_succ {cs : List Int32} {i : Nat} (hi : i < cs.length) : lb (cs.take i) ++ [.int (cs.getD i 0).toInt8.toInt32] = lb (cs.take (i + 1)) := by
  have e : cs.take (i + 1) = cs.take i ++ [cs.getD i 0] := by rw [List.take_add_one]; simp [List.getD_eq_getElem?_getD, hi]
  rw [e]
  show _ = List.map _ (_ ++ [_])
  rw [List.map_append]
  rfl
theorem C8.nil : C8 [] := fun _ q => nomatch q
theorem C8.cons {c : Int32} {cs : List Int32} (q : ¬ c < 0 ∧ ¬ (255 : Int32) < c) (r : C8 cs) : C8 (c :: cs) := fun x hx => by
  rcases List.mem_cons.mp hx with rfl | hx
  · exact q
  · exact r x hx
end Kit4
end Jvm.OwnKit
namespace Jvm.OwnKit
open Jvm Jvm.ClassFile Sem Op Lib Jvm.Free Jvm.Stand Jvm.LawKit Jvm.RoadKit Bundle
section Kit5
variable {p : Program} {l : Launch} {e : Env} {R : Room} {s : State} {m : MethodId} {args : Array Value} {below : List Frame} {meth : Method} {c : Code} {Z : State} {a0 : Array Value} {EL : List (String × Nat)} {kn : Bool} {own : String}
  {T : State} {h h' h2 : Heap} {ss : List Addr} {cells slots : Nat} {nm : String} {bytes : ByteArray} {maxL : Nat} {ret : Option FieldType} {kc ks : Nat} {P : Option Value → Heap → Prop} {pc : Nat} {Ls : Array Slot} {st : List Value}
theorem Wk.keeps {g g' : JFrame} {ws : List Addr} {Q : Heap → Prop} (W : Wk p l e R s m args below meth c Z EL kn own T h ss cells slots) (hS : ∀ x ∈ ws, Sf Z h ss x) (hn : ∀ x ∈ ws, Z.heap.size ≤ x)
    (law : ∀ {vm0 : Vm} {locs : List Loc}, Stand p l e R (s.setVm vm0) m args below meth c T locs cells slots → Z.Warmed39 vm0 → vm0.findClass own = some m.cls → Fr Z.heap.size locs → ∃ T' h' L, Stand p l e R (s.setVm vm0) m args below meth c T' L cells slots ∧ T'.heap = h' ∧ Fr Z.heap.size L ∧ Keep h h' ws ∧ Q h' ∧ ∀ target, Steps p.tables e below (T'.setTop g') target → Steps p.tables e below (T.setTop g) target)
    (F : ∀ T' h', Wk p l e R s m args below meth c Z EL kn own T' h' ss cells slots → Keep h h' ws → Q h' → Fi p e below s Z EL kc ks P T' g') : Fi p e below s Z EL kc ks P T g := by
  obtain ⟨vm0, locs, k0, X, eT, hZ, hSi, hk, hown, N, O, C, hss, hK⟩ := W
  obtain ⟨T', h', L, X', e', N', K, q, st⟩ := law X hZ hown N
  have S0 : ∀ x ∈ ws, Safe Z EL vm0 h x := fun x hx => (hS x hx).safe hZ.alike hss
  have C2 := CHr.keep K S0 C.1
  exact (F T' h' ⟨vm0, L, k0, X', e', hZ, hSi, Nat.le_trans hk K.1, hown, N', O.keep K hn, C.trans C2, fun x hx => ⟨Nat.lt_of_lt_of_le (hss x hx).1 K.1, Safe.keep K S0 C.1 (hss x hx).2⟩, hK⟩ K q).step st
/-- System.arraycopy between two byte[]s, the places told -/
theorem Wk.acopy {index : Nat} {a b : Addr} {k k' : ClassId} {z z' sp dp nn : Int32} {vs vd us : List Value} {dv dd : Value} {ty : FieldType} (W : Wk p l e R s m args below meth c Z EL kn own T h ss cells slots) (me : Me p meth c nm bytes maxL ret)
    (w1 : (Cond.methodLink own index Jvm.Stand.acN).before a0 Z = true) (w2 : (Cond.native Jvm.Stand.acN).before a0 Z = true) (w3 : (Cond.static Jvm.Stand.acN).before a0 Z = true) (w4 : (Cond.initialized "java/lang/System").before a0 Z = true)
    (A : Arv Z h a k ty z vs dv) (B : Arv Z h b k' ty z' vd dd) (hty : refKind ty = false) (hS : Sf Z h ss b) (hz : Z.heap.size ≤ b)
    (h1 : ¬ sp < 0) (h2 : ¬ dp < 0) (h3 : ¬ nn < 0) (h4 : sp.toNatClampNeg + nn.toNatClampNeg ≤ z.toNatClampNeg) (h5 : dp.toNatClampNeg + nn.toNatClampNeg ≤ z'.toNatClampNeg)
    (hus : us = (List.range nn.toNatClampNeg).map fun i => vs.getD (sp.toNatClampNeg + i) dv) (hl : dp.toNatClampNeg + nn.toNatClampNeg ≤ vd.length) (hd : decode bytes pc = .ok (.invokestatic index, 3)) (hsz : Ls.size = maxL) (hf : 1 ≤ R.frames) (hlo : (st.map fun v => v.category).sum + (nativeFrameWords "java/lang/System" "arraycopy" 5 + 11) ≤ R.locals)
    (F : ∀ T' h', Wk p l e R s m args below meth c Z EL kn own T' h' ss cells slots → Keep h h' [b] → Arv Z h' b k' ty z' (vd.take dp.toNatClampNeg ++ us ++ vd.drop (dp.toNatClampNeg + nn.toNatClampNeg)) dd → Fi p e below s Z EL kc ks P T' (mkF m (pc + 3) Ls st)) :
    Fi p e below s Z EL kc ks P T (mkF m pc Ls (.int nn :: .int dp :: .ref b :: .int sp :: .ref a :: st)) :=
  W.keeps (ws := [b]) (Q := fun h' => Arv Z h' b k' ty z' (vd.take dp.toNatClampNeg ++ us ++ vd.drop (dp.toNatClampNeg + nn.toNatClampNeg)) dd) (allS hS all0) (allS hz all0)
    (fun X hZ hown N => by
      obtain ⟨T', h', L, X', e', N', K, q, st'⟩ := cpA X me.x hZ hown w1 w2 w3 w4 W.heap A B (Or.inl ⟨rfl, hty⟩) h1 h2 h3 h4 h5 hus hl N hz (g := mkF m pc Ls (.int nn :: .int dp :: .ref b :: .int sp :: .ref a :: st)) rfl (hsz.trans me.ml.symm) rfl (hb me.b hd) hf (W := (st.map fun v => v.category).sum) (by show 2 * 0 + _ ≤ _; omega) hlo
      exact ⟨T', h', L, X', e', N', K, q, st'⟩)
    F
end Kit5
end Jvm.OwnKit
namespace Jvm.Pilot.@@N@@
open Jvm Jvm.ClassFile Sem Op Lib Jvm.Free Jvm.Stand Jvm.LawKit Jvm.RoadKit Bundle Jvm.OwnKit Jvm.Pilot.@@N@@.Jvm.D
theorem d_jdk_52_method_15_0 : decode jdk_52_method_15_code 0 = .ok (.iload_n 1, 1) := by decide +kernel
theorem d_jdk_52_method_15_1 : decode jdk_52_method_15_code 1 = .ok (.aload_n 0, 1) := by decide +kernel
theorem d_jdk_52_method_15_2 : decode jdk_52_method_15_code 2 = .ok (.arraylength, 1) := by decide +kernel
theorem d_jdk_52_method_15_3 : decode jdk_52_method_15_code 3 = .ok (.isub, 1) := by decide +kernel
theorem d_jdk_52_method_15_4 : decode jdk_52_method_15_code 4 = .ok (.bipush 31, 2) := by decide +kernel
theorem d_jdk_52_method_15_6 : decode jdk_52_method_15_code 6 = .ok (.iushr, 1) := by decide +kernel
theorem d_jdk_52_method_15_7 : decode jdk_52_method_15_code 7 = .ok (.i2b, 1) := by decide +kernel
theorem d_jdk_52_method_15_8 : decode jdk_52_method_15_code 8 = .ok (.ireturn, 1) := by decide +kernel
theorem d_jdk_52_method_21_3 : decode jdk_52_method_21_code 3 = .ok (.iload 5, 2) := by decide +kernel
theorem d_jdk_52_method_21_5 : decode jdk_52_method_21_code 5 = .ok (.iload 4, 2) := by decide +kernel
theorem d_jdk_52_method_21_7 : decode jdk_52_method_21_code 7 = .ok (.if_icmp .ge 37, 3) := by decide +kernel
theorem d_jdk_52_method_21_44 : decode jdk_52_method_21_code 44 = .ok (.iload 4, 2) := by decide +kernel
theorem d_jdk_52_method_21_46 : decode jdk_52_method_21_code 46 = .ok (.ireturn, 1) := by decide +kernel
theorem d_jdk_52_method_21_10 : decode jdk_52_method_21_code 10 = .ok (.aload_n 0, 1) := by decide +kernel
theorem d_jdk_52_method_21_11 : decode jdk_52_method_21_code 11 = .ok (.iload_n 1, 1) := by decide +kernel
theorem d_jdk_52_method_21_12 : decode jdk_52_method_21_code 12 = .ok (.caload, 1) := by decide +kernel
theorem d_jdk_52_method_21_13 : decode jdk_52_method_21_code 13 = .ok (.istore 6, 2) := by decide +kernel
theorem d_jdk_52_method_21_15 : decode jdk_52_method_21_code 15 = .ok (.iload 6, 2) := by decide +kernel
theorem d_jdk_52_method_21_17 : decode jdk_52_method_21_code 17 = .ok (.sipush 255, 3) := by decide +kernel
theorem d_jdk_52_method_21_20 : decode jdk_52_method_21_code 20 = .ok (.if_icmp .le 6, 3) := by decide +kernel
theorem d_jdk_52_method_21_26 : decode jdk_52_method_21_code 26 = .ok (.aload_n 2, 1) := by decide +kernel
theorem d_jdk_52_method_21_27 : decode jdk_52_method_21_code 27 = .ok (.iload_n 3, 1) := by decide +kernel
theorem d_jdk_52_method_21_28 : decode jdk_52_method_21_code 28 = .ok (.iload 6, 2) := by decide +kernel
theorem d_jdk_52_method_21_30 : decode jdk_52_method_21_code 30 = .ok (.i2b, 1) := by decide +kernel
theorem d_jdk_52_method_21_31 : decode jdk_52_method_21_code 31 = .ok (.bastore, 1) := by decide +kernel
theorem d_jdk_52_method_21_32 : decode jdk_52_method_21_code 32 = .ok (.iinc 1 1, 3) := by decide +kernel
theorem d_jdk_52_method_21_35 : decode jdk_52_method_21_code 35 = .ok (.iinc 3 1, 3) := by decide +kernel
theorem d_jdk_52_method_21_38 : decode jdk_52_method_21_code 38 = .ok (.iinc 5 1, 3) := by decide +kernel
theorem d_jdk_52_method_21_41 : decode jdk_52_method_21_code 41 = .ok (.goto (-38), 3) := by decide +kernel
theorem d_jdk_52_method_21_0 : decode jdk_52_method_21_code 0 = .ok (.iconst 0, 1) := by decide +kernel
theorem d_jdk_52_method_21_1 : decode jdk_52_method_21_code 1 = .ok (.istore 5, 2) := by decide +kernel
theorem d_jdk_52_method_16_0 : decode jdk_52_method_16_code 0 = .ok (.iload_n 2, 1) := by decide +kernel
theorem d_jdk_52_method_16_1 : decode jdk_52_method_16_code 1 = .ok (.newarray .byte, 2) := by decide +kernel
theorem d_jdk_52_method_16_3 : decode jdk_52_method_16_code 3 = .ok (.astore_n 3, 1) := by decide +kernel
theorem d_jdk_52_method_16_4 : decode jdk_52_method_16_code 4 = .ok (.aload_n 0, 1) := by decide +kernel
theorem d_jdk_52_method_16_5 : decode jdk_52_method_16_code 5 = .ok (.iload_n 1, 1) := by decide +kernel
theorem d_jdk_52_method_16_6 : decode jdk_52_method_16_code 6 = .ok (.aload_n 3, 1) := by decide +kernel
theorem d_jdk_52_method_16_7 : decode jdk_52_method_16_code 7 = .ok (.iconst 0, 1) := by decide +kernel
theorem d_jdk_52_method_16_8 : decode jdk_52_method_16_code 8 = .ok (.iload_n 2, 1) := by decide +kernel
theorem d_jdk_52_method_16_9 : decode jdk_52_method_16_code 9 = .ok (.invokestatic 115, 3) := by decide +kernel
theorem d_jdk_52_method_16_12 : decode jdk_52_method_16_code 12 = .ok (.istore 4, 2) := by decide +kernel
theorem d_jdk_52_method_16_14 : decode jdk_52_method_16_code 14 = .ok (.iload 4, 2) := by decide +kernel
theorem d_jdk_52_method_16_16 : decode jdk_52_method_16_code 16 = .ok (.iload_n 2, 1) := by decide +kernel
theorem d_jdk_52_method_16_17 : decode jdk_52_method_16_code 17 = .ok (.if_icmp .eq 40, 3) := by decide +kernel
theorem d_jdk_52_method_16_57 : decode jdk_52_method_16_code 57 = .ok (.aload_n 3, 1) := by decide +kernel
theorem d_jdk_52_method_16_58 : decode jdk_52_method_16_code 58 = .ok (.areturn, 1) := by decide +kernel
theorem d_jdk_42_method_149_0 : decode jdk_42_method_149_code 0 = .ok (.aload_n 0, 1) := by decide +kernel
theorem d_jdk_42_method_149_1 : decode jdk_42_method_149_code 1 = .ok (.invokespecial 1, 3) := by decide +kernel
theorem d_jdk_42_method_149_4 : decode jdk_42_method_149_code 4 = .ok (.iload_n 3, 1) := by decide +kernel
theorem d_jdk_42_method_149_5 : decode jdk_42_method_149_code 5 = .ok (.ifCond .ne 22, 3) := by decide +kernel
theorem d_jdk_42_method_149_8 : decode jdk_42_method_149_code 8 = .ok (.aload_n 0, 1) := by decide +kernel
theorem d_jdk_42_method_149_9 : decode jdk_42_method_149_code 9 = .ok (.ldc 7, 2) := by decide +kernel
theorem d_jdk_42_method_149_11 : decode jdk_42_method_149_code 11 = .ok (.getfield 9, 3) := by decide +kernel
theorem d_jdk_42_method_149_14 : decode jdk_42_method_149_code 14 = .ok (.putfield 9, 3) := by decide +kernel
theorem d_jdk_42_method_149_17 : decode jdk_42_method_149_code 17 = .ok (.aload_n 0, 1) := by decide +kernel
theorem d_jdk_42_method_149_18 : decode jdk_42_method_149_code 18 = .ok (.ldc 7, 2) := by decide +kernel
theorem d_jdk_42_method_149_20 : decode jdk_42_method_149_code 20 = .ok (.getfield 15, 3) := by decide +kernel
theorem d_jdk_42_method_149_23 : decode jdk_42_method_149_code 23 = .ok (.putfield 15, 3) := by decide +kernel
theorem d_jdk_42_method_149_26 : decode jdk_42_method_149_code 26 = .ok (.return_, 1) := by decide +kernel
theorem d_jdk_42_method_149_27 : decode jdk_42_method_149_code 27 = .ok (.getstatic 38, 3) := by decide +kernel
theorem d_jdk_42_method_149_30 : decode jdk_42_method_149_code 30 = .ok (.ifCond .eq 28, 3) := by decide +kernel
theorem d_jdk_42_method_149_33 : decode jdk_42_method_149_code 33 = .ok (.aload_n 1, 1) := by decide +kernel
theorem d_jdk_42_method_149_34 : decode jdk_42_method_149_code 34 = .ok (.iload_n 2, 1) := by decide +kernel
theorem d_jdk_42_method_149_35 : decode jdk_42_method_149_code 35 = .ok (.iload_n 3, 1) := by decide +kernel
theorem d_jdk_42_method_149_36 : decode jdk_42_method_149_code 36 = .ok (.invokestatic 177, 3) := by decide +kernel
theorem d_jdk_42_method_149_39 : decode jdk_42_method_149_code 39 = .ok (.astore 5, 2) := by decide +kernel
theorem d_jdk_42_method_149_41 : decode jdk_42_method_149_code 41 = .ok (.aload_n 0, 1) := by decide +kernel
theorem d_jdk_42_method_149_42 : decode jdk_42_method_149_code 42 = .ok (.aload 5, 2) := by decide +kernel
theorem d_jdk_42_method_149_44 : decode jdk_42_method_149_code 44 = .ok (.iload_n 3, 1) := by decide +kernel
theorem d_jdk_42_method_149_45 : decode jdk_42_method_149_code 45 = .ok (.invokestatic 47, 3) := by decide +kernel
theorem d_jdk_42_method_149_48 : decode jdk_42_method_149_code 48 = .ok (.putfield 15, 3) := by decide +kernel
theorem d_jdk_42_method_149_51 : decode jdk_42_method_149_code 51 = .ok (.aload_n 0, 1) := by decide +kernel
theorem d_jdk_42_method_149_52 : decode jdk_42_method_149_code 52 = .ok (.aload 5, 2) := by decide +kernel
theorem d_jdk_42_method_149_54 : decode jdk_42_method_149_code 54 = .ok (.putfield 9, 3) := by decide +kernel
theorem d_jdk_42_method_149_57 : decode jdk_42_method_149_code 57 = .ok (.return_, 1) := by decide +kernel
theorem d_jdk_42_method_3_0 : decode jdk_42_method_3_code 0 = .ok (.aload_n 0, 1) := by decide +kernel
theorem d_jdk_42_method_3_1 : decode jdk_42_method_3_code 1 = .ok (.aload_n 1, 1) := by decide +kernel
theorem d_jdk_42_method_3_2 : decode jdk_42_method_3_code 2 = .ok (.iconst 0, 1) := by decide +kernel
theorem d_jdk_42_method_3_3 : decode jdk_42_method_3_code 3 = .ok (.aload_n 1, 1) := by decide +kernel
theorem d_jdk_42_method_3_4 : decode jdk_42_method_3_code 4 = .ok (.arraylength, 1) := by decide +kernel
theorem d_jdk_42_method_3_5 : decode jdk_42_method_3_code 5 = .ok (.aconst_null, 1) := by decide +kernel
theorem d_jdk_42_method_3_6 : decode jdk_42_method_3_code 6 = .ok (.invokespecial 27, 3) := by decide +kernel
theorem d_jdk_42_method_3_9 : decode jdk_42_method_3_code 9 = .ok (.return_, 1) := by decide +kernel
theorem d_jdk_42_method_152_0 : decode jdk_42_method_152_code 0 = .ok (.getstatic 38, 3) := by decide +kernel
theorem d_jdk_42_method_152_3 : decode jdk_42_method_152_code 3 = .ok (.ifCond .eq 10, 3) := by decide +kernel
theorem d_jdk_42_method_152_6 : decode jdk_42_method_152_code 6 = .ok (.aload_n 0, 1) := by decide +kernel
theorem d_jdk_42_method_152_7 : decode jdk_42_method_152_code 7 = .ok (.getfield 15, 3) := by decide +kernel
theorem d_jdk_42_method_152_10 : decode jdk_42_method_152_code 10 = .ok (.goto 4, 3) := by decide +kernel
theorem d_jdk_42_method_152_14 : decode jdk_42_method_152_code 14 = .ok (.ireturn, 1) := by decide +kernel
theorem d_jdk_42_method_54_0 : decode jdk_42_method_54_code 0 = .ok (.aload_n 0, 1) := by decide +kernel
theorem d_jdk_42_method_54_1 : decode jdk_42_method_54_code 1 = .ok (.getfield 9, 3) := by decide +kernel
theorem d_jdk_42_method_54_4 : decode jdk_42_method_54_code 4 = .ok (.arraylength, 1) := by decide +kernel
theorem d_jdk_42_method_54_5 : decode jdk_42_method_54_code 5 = .ok (.aload_n 0, 1) := by decide +kernel
theorem d_jdk_42_method_54_6 : decode jdk_42_method_54_code 6 = .ok (.invokevirtual 335, 3) := by decide +kernel
theorem d_jdk_42_method_54_9 : decode jdk_42_method_54_code 9 = .ok (.ishr, 1) := by decide +kernel
theorem d_jdk_42_method_54_10 : decode jdk_42_method_54_code 10 = .ok (.ireturn, 1) := by decide +kernel
theorem d_jdk_42_method_154_0 : decode jdk_42_method_154_code 0 = .ok (.getstatic 38, 3) := by decide +kernel
theorem d_jdk_42_method_154_3 : decode jdk_42_method_154_code 3 = .ok (.ifCond .eq 14, 3) := by decide +kernel
theorem d_jdk_42_method_154_6 : decode jdk_42_method_154_code 6 = .ok (.aload_n 0, 1) := by decide +kernel
theorem d_jdk_42_method_154_7 : decode jdk_42_method_154_code 7 = .ok (.getfield 15, 3) := by decide +kernel
theorem d_jdk_42_method_154_10 : decode jdk_42_method_154_code 10 = .ok (.ifCond .ne 7, 3) := by decide +kernel
theorem d_jdk_42_method_154_13 : decode jdk_42_method_154_code 13 = .ok (.iconst 1, 1) := by decide +kernel
theorem d_jdk_42_method_154_14 : decode jdk_42_method_154_code 14 = .ok (.goto 4, 3) := by decide +kernel
theorem d_jdk_42_method_154_18 : decode jdk_42_method_154_code 18 = .ok (.ireturn, 1) := by decide +kernel
theorem d_jdk_41_method_11_0 : decode jdk_41_method_11_code 0 = .ok (.iload_n 0, 1) := by decide +kernel
theorem d_jdk_41_method_11_1 : decode jdk_41_method_11_code 1 = .ok (.ifCond .lt 8, 3) := by decide +kernel
theorem d_jdk_41_method_11_4 : decode jdk_41_method_11_code 4 = .ok (.iload_n 0, 1) := by decide +kernel
theorem d_jdk_41_method_11_5 : decode jdk_41_method_11_code 5 = .ok (.iload_n 1, 1) := by decide +kernel
theorem d_jdk_41_method_11_6 : decode jdk_41_method_11_code 6 = .ok (.if_icmp .lt 10, 3) := by decide +kernel
theorem d_jdk_41_method_11_16 : decode jdk_41_method_11_code 16 = .ok (.iload_n 0, 1) := by decide +kernel
theorem d_jdk_41_method_11_17 : decode jdk_41_method_11_code 17 = .ok (.ireturn, 1) := by decide +kernel
theorem d_jdk_42_method_155_0 : decode jdk_42_method_155_code 0 = .ok (.iload_n 0, 1) := by decide +kernel
theorem d_jdk_42_method_155_1 : decode jdk_42_method_155_code 1 = .ok (.iload_n 1, 1) := by decide +kernel
theorem d_jdk_42_method_155_2 : decode jdk_42_method_155_code 2 = .ok (.getstatic 1053, 3) := by decide +kernel
theorem d_jdk_42_method_155_5 : decode jdk_42_method_155_code 5 = .ok (.invokestatic 1059, 3) := by decide +kernel
theorem d_jdk_42_method_155_8 : decode jdk_42_method_155_code 8 = .ok (.pop, 1) := by decide +kernel
theorem d_jdk_42_method_155_9 : decode jdk_42_method_155_code 9 = .ok (.return_, 1) := by decide +kernel
theorem d_jdk_43_method_2_0 : decode jdk_43_method_2_code 0 = .ok (.iload_n 1, 1) := by decide +kernel
theorem d_jdk_43_method_2_1 : decode jdk_43_method_2_code 1 = .ok (.aload_n 0, 1) := by decide +kernel
theorem d_jdk_43_method_2_2 : decode jdk_43_method_2_code 2 = .ok (.arraylength, 1) := by decide +kernel
theorem d_jdk_43_method_2_3 : decode jdk_43_method_2_code 3 = .ok (.invokestatic 9, 3) := by decide +kernel
theorem d_jdk_43_method_2_6 : decode jdk_43_method_2_code 6 = .ok (.aload_n 0, 1) := by decide +kernel
theorem d_jdk_43_method_2_7 : decode jdk_43_method_2_code 7 = .ok (.iload_n 1, 1) := by decide +kernel
theorem d_jdk_43_method_2_8 : decode jdk_43_method_2_code 8 = .ok (.baload, 1) := by decide +kernel
theorem d_jdk_43_method_2_9 : decode jdk_43_method_2_code 9 = .ok (.sipush 255, 3) := by decide +kernel
theorem d_jdk_43_method_2_12 : decode jdk_43_method_2_code 12 = .ok (.iand, 1) := by decide +kernel
theorem d_jdk_43_method_2_13 : decode jdk_43_method_2_code 13 = .ok (.i2c, 1) := by decide +kernel
theorem d_jdk_43_method_2_14 : decode jdk_43_method_2_code 14 = .ok (.ireturn, 1) := by decide +kernel
theorem d_jdk_42_method_56_0 : decode jdk_42_method_56_code 0 = .ok (.aload_n 0, 1) := by decide +kernel
theorem d_jdk_42_method_56_1 : decode jdk_42_method_56_code 1 = .ok (.invokevirtual 492, 3) := by decide +kernel
theorem d_jdk_42_method_56_4 : decode jdk_42_method_56_code 4 = .ok (.ifCond .eq 12, 3) := by decide +kernel
theorem d_jdk_42_method_56_7 : decode jdk_42_method_56_code 7 = .ok (.aload_n 0, 1) := by decide +kernel
theorem d_jdk_42_method_56_8 : decode jdk_42_method_56_code 8 = .ok (.getfield 9, 3) := by decide +kernel
theorem d_jdk_42_method_56_11 : decode jdk_42_method_56_code 11 = .ok (.iload_n 1, 1) := by decide +kernel
theorem d_jdk_42_method_56_12 : decode jdk_42_method_56_code 12 = .ok (.invokestatic 495, 3) := by decide +kernel
theorem d_jdk_42_method_56_15 : decode jdk_42_method_56_code 15 = .ok (.ireturn, 1) := by decide +kernel
theorem d_method_2_0 : decode method_2_code 0 = .ok (.iload_n 0, 1) := by decide +kernel
theorem d_method_2_1 : decode method_2_code 1 = .ok (.bipush 7, 2) := by decide +kernel
theorem d_method_2_3 : decode method_2_code 3 = .ok (.iand, 1) := by decide +kernel
theorem d_method_2_4 : decode method_2_code 4 = .ok (.istore_n 1, 1) := by decide +kernel
theorem d_method_2_5 : decode method_2_code 5 = .ok (.iload_n 1, 1) := by decide +kernel
theorem d_method_2_6 : decode method_2_code 6 = .ok (.ifCond .eq 8, 3) := by decide +kernel
theorem d_method_2_14 : decode method_2_code 14 = .ok (.bipush 34, 2) := by decide +kernel
theorem d_method_2_16 : decode method_2_code 16 = .ok (.ireturn, 1) := by decide +kernel
theorem d_method_2_9 : decode method_2_code 9 = .ok (.iload_n 1, 1) := by decide +kernel
theorem d_method_2_10 : decode method_2_code 10 = .ok (.iconst 1, 1) := by decide +kernel
theorem d_method_2_11 : decode method_2_code 11 = .ok (.if_icmp .ne 6, 3) := by decide +kernel
theorem d_method_2_17 : decode method_2_code 17 = .ok (.iload_n 1, 1) := by decide +kernel
theorem d_method_2_18 : decode method_2_code 18 = .ok (.iconst 2, 1) := by decide +kernel
theorem d_method_2_19 : decode method_2_code 19 = .ok (.if_icmp .ne 6, 3) := by decide +kernel
theorem d_method_2_25 : decode method_2_code 25 = .ok (.iload_n 1, 1) := by decide +kernel
theorem d_method_2_26 : decode method_2_code 26 = .ok (.iconst 3, 1) := by decide +kernel
theorem d_method_2_27 : decode method_2_code 27 = .ok (.if_icmp .ne 6, 3) := by decide +kernel
theorem d_method_2_33 : decode method_2_code 33 = .ok (.iload_n 0, 1) := by decide +kernel
theorem d_method_2_34 : decode method_2_code 34 = .ok (.iconst 3, 1) := by decide +kernel
theorem d_method_2_35 : decode method_2_code 35 = .ok (.iushr, 1) := by decide +kernel
theorem d_method_2_36 : decode method_2_code 36 = .ok (.sipush 255, 3) := by decide +kernel
theorem d_method_2_39 : decode method_2_code 39 = .ok (.iand, 1) := by decide +kernel
theorem d_method_2_40 : decode method_2_code 40 = .ok (.i2c, 1) := by decide +kernel
theorem d_method_2_41 : decode method_2_code 41 = .ok (.ireturn, 1) := by decide +kernel
theorem d_method_2_30 : decode method_2_code 30 = .ok (.bipush 35, 2) := by decide +kernel
theorem d_method_2_32 : decode method_2_code 32 = .ok (.ireturn, 1) := by decide +kernel
theorem d_method_2_22 : decode method_2_code 22 = .ok (.bipush 92, 2) := by decide +kernel
theorem d_method_2_24 : decode method_2_code 24 = .ok (.ireturn, 1) := by decide +kernel
theorem d_method_3_0 : decode method_3_code 0 = .ok (.iload_n 0, 1) := by decide +kernel
theorem d_method_3_1 : decode method_3_code 1 = .ok (.iconst 4, 1) := by decide +kernel
theorem d_method_3_2 : decode method_3_code 2 = .ok (.if_icmp .lt 5, 3) := by decide +kernel
theorem d_method_3_7 : decode method_3_code 7 = .ok (.iload_n 0, 1) := by decide +kernel
theorem d_method_3_8 : decode method_3_code 8 = .ok (.iconst 2, 1) := by decide +kernel
theorem d_method_3_9 : decode method_3_code 9 = .ok (.iand, 1) := by decide +kernel
theorem d_method_3_10 : decode method_3_code 10 = .ok (.ifCond .eq 5, 3) := by decide +kernel
theorem d_method_3_15 : decode method_3_code 15 = .ok (.iload_n 0, 1) := by decide +kernel
theorem d_method_3_16 : decode method_3_code 16 = .ok (.iconst 1, 1) := by decide +kernel
theorem d_method_3_17 : decode method_3_code 17 = .ok (.iand, 1) := by decide +kernel
theorem d_method_3_18 : decode method_3_code 18 = .ok (.ifCond .eq 7, 3) := by decide +kernel
theorem d_method_3_25 : decode method_3_code 25 = .ok (.iconst 0, 1) := by decide +kernel
theorem d_method_3_26 : decode method_3_code 26 = .ok (.istore_n 3, 1) := by decide +kernel
theorem d_method_3_27 : decode method_3_code 27 = .ok (.iload_n 3, 1) := by decide +kernel
theorem d_method_3_28 : decode method_3_code 28 = .ok (.ifCond .eq 11, 3) := by decide +kernel
theorem d_method_3_39 : decode method_3_code 39 = .ok (.iload_n 1, 1) := by decide +kernel
theorem d_method_3_40 : decode method_3_code 40 = .ok (.bipush 34, 2) := by decide +kernel
theorem d_method_3_42 : decode method_3_code 42 = .ok (.if_icmp .ne 13, 3) := by decide +kernel
theorem d_method_3_55 : decode method_3_code 55 = .ok (.iload_n 1, 1) := by decide +kernel
theorem d_method_3_56 : decode method_3_code 56 = .ok (.bipush 35, 2) := by decide +kernel
theorem d_method_3_58 : decode method_3_code 58 = .ok (.if_icmp .ne 11, 3) := by decide +kernel
theorem d_method_3_69 : decode method_3_code 69 = .ok (.iload_n 0, 1) := by decide +kernel
theorem d_method_3_70 : decode method_3_code 70 = .ok (.ireturn, 1) := by decide +kernel
theorem d_method_3_61 : decode method_3_code 61 = .ok (.iload_n 3, 1) := by decide +kernel
theorem d_method_3_62 : decode method_3_code 62 = .ok (.ifCond .ne 7, 3) := by decide +kernel
theorem d_method_3_65 : decode method_3_code 65 = .ok (.iconst 4, 1) := by decide +kernel
theorem d_method_3_66 : decode method_3_code 66 = .ok (.iload_n 2, 1) := by decide +kernel
theorem d_method_3_67 : decode method_3_code 67 = .ok (.iadd, 1) := by decide +kernel
theorem d_method_3_68 : decode method_3_code 68 = .ok (.ireturn, 1) := by decide +kernel
theorem d_method_3_45 : decode method_3_code 45 = .ok (.iload_n 3, 1) := by decide +kernel
theorem d_method_3_46 : decode method_3_code 46 = .ok (.ifCond .eq 7, 3) := by decide +kernel
theorem d_method_3_53 : decode method_3_code 53 = .ok (.iconst 1, 1) := by decide +kernel
theorem d_method_3_54 : decode method_3_code 54 = .ok (.ireturn, 1) := by decide +kernel
theorem d_method_3_21 : decode method_3_code 21 = .ok (.iconst 1, 1) := by decide +kernel
theorem d_method_3_22 : decode method_3_code 22 = .ok (.goto 4, 3) := by decide +kernel
theorem d_method_3_31 : decode method_3_code 31 = .ok (.iload_n 1, 1) := by decide +kernel
theorem d_method_3_32 : decode method_3_code 32 = .ok (.bipush 92, 2) := by decide +kernel
theorem d_method_3_34 : decode method_3_code 34 = .ok (.if_icmp .ne 5, 3) := by decide +kernel
theorem d_method_3_49 : decode method_3_code 49 = .ok (.iconst 0, 1) := by decide +kernel
theorem d_method_3_50 : decode method_3_code 50 = .ok (.goto 4, 3) := by decide +kernel
theorem d_method_3_37 : decode method_3_code 37 = .ok (.iconst 3, 1) := by decide +kernel
theorem d_method_3_38 : decode method_3_code 38 = .ok (.ireturn, 1) := by decide +kernel
theorem d_method_3_13 : decode method_3_code 13 = .ok (.iconst 1, 1) := by decide +kernel
theorem d_method_3_14 : decode method_3_code 14 = .ok (.ireturn, 1) := by decide +kernel
theorem d_method_3_5 : decode method_3_code 5 = .ok (.iload_n 0, 1) := by decide +kernel
theorem d_method_3_6 : decode method_3_code 6 = .ok (.ireturn, 1) := by decide +kernel
theorem d_prog_10_method_2_4 : decode prog_10_method_2_code 4 = .ok (.iload_n 2, 1) := by decide +kernel
theorem d_prog_10_method_2_5 : decode prog_10_method_2_code 5 = .ok (.aload_n 0, 1) := by decide +kernel
theorem d_prog_10_method_2_6 : decode prog_10_method_2_code 6 = .ok (.invokevirtual 21, 3) := by decide +kernel
theorem d_prog_10_method_2_9 : decode prog_10_method_2_code 9 = .ok (.if_icmp .ge 62, 3) := by decide +kernel
theorem d_prog_10_method_2_71 : decode prog_10_method_2_code 71 = .ok (.iconst (-1), 1) := by decide +kernel
theorem d_prog_10_method_2_72 : decode prog_10_method_2_code 72 = .ok (.ireturn, 1) := by decide +kernel
theorem d_prog_10_method_2_12 : decode prog_10_method_2_code 12 = .ok (.aload_n 0, 1) := by decide +kernel
theorem d_prog_10_method_2_13 : decode prog_10_method_2_code 13 = .ok (.iload_n 2, 1) := by decide +kernel
theorem d_prog_10_method_2_14 : decode prog_10_method_2_code 14 = .ok (.invokevirtual 27, 3) := by decide +kernel
theorem d_prog_10_method_2_17 : decode prog_10_method_2_code 17 = .ok (.istore_n 3, 1) := by decide +kernel
theorem d_prog_10_method_2_18 : decode prog_10_method_2_code 18 = .ok (.iload_n 1, 1) := by decide +kernel
theorem d_prog_10_method_2_19 : decode prog_10_method_2_code 19 = .ok (.ifCond .eq 15, 3) := by decide +kernel
theorem d_prog_10_method_2_34 : decode prog_10_method_2_code 34 = .ok (.iload_n 3, 1) := by decide +kernel
theorem d_prog_10_method_2_35 : decode prog_10_method_2_code 35 = .ok (.bipush 34, 2) := by decide +kernel
theorem d_prog_10_method_2_37 : decode prog_10_method_2_code 37 = .ok (.if_icmp .ne 16, 3) := by decide +kernel
theorem d_prog_10_method_2_53 : decode prog_10_method_2_code 53 = .ok (.iload_n 3, 1) := by decide +kernel
theorem d_prog_10_method_2_54 : decode prog_10_method_2_code 54 = .ok (.bipush 35, 2) := by decide +kernel
theorem d_prog_10_method_2_56 : decode prog_10_method_2_code 56 = .ok (.if_icmp .ne 9, 3) := by decide +kernel
theorem d_prog_10_method_2_65 : decode prog_10_method_2_code 65 = .ok (.iinc 2 1, 3) := by decide +kernel
theorem d_prog_10_method_2_68 : decode prog_10_method_2_code 68 = .ok (.goto (-64), 3) := by decide +kernel
theorem d_prog_10_method_2_59 : decode prog_10_method_2_code 59 = .ok (.iload_n 1, 1) := by decide +kernel
theorem d_prog_10_method_2_60 : decode prog_10_method_2_code 60 = .ok (.ifCond .ne 5, 3) := by decide +kernel
theorem d_prog_10_method_2_63 : decode prog_10_method_2_code 63 = .ok (.iload_n 2, 1) := by decide +kernel
theorem d_prog_10_method_2_64 : decode prog_10_method_2_code 64 = .ok (.ireturn, 1) := by decide +kernel
theorem d_prog_10_method_2_40 : decode prog_10_method_2_code 40 = .ok (.iload_n 1, 1) := by decide +kernel
theorem d_prog_10_method_2_41 : decode prog_10_method_2_code 41 = .ok (.ifCond .ne 7, 3) := by decide +kernel
theorem d_prog_10_method_2_44 : decode prog_10_method_2_code 44 = .ok (.iconst 1, 1) := by decide +kernel
theorem d_prog_10_method_2_45 : decode prog_10_method_2_code 45 = .ok (.goto 4, 3) := by decide +kernel
theorem d_prog_10_method_2_49 : decode prog_10_method_2_code 49 = .ok (.istore_n 1, 1) := by decide +kernel
theorem d_prog_10_method_2_50 : decode prog_10_method_2_code 50 = .ok (.goto 15, 3) := by decide +kernel
theorem d_prog_10_method_2_22 : decode prog_10_method_2_code 22 = .ok (.iload_n 3, 1) := by decide +kernel
theorem d_prog_10_method_2_23 : decode prog_10_method_2_code 23 = .ok (.bipush 92, 2) := by decide +kernel
theorem d_prog_10_method_2_25 : decode prog_10_method_2_code 25 = .ok (.if_icmp .ne 9, 3) := by decide +kernel
theorem d_prog_10_method_2_48 : decode prog_10_method_2_code 48 = .ok (.iconst 0, 1) := by decide +kernel
theorem d_prog_10_method_2_28 : decode prog_10_method_2_code 28 = .ok (.iinc 2 1, 3) := by decide +kernel
theorem d_prog_10_method_2_31 : decode prog_10_method_2_code 31 = .ok (.goto 34, 3) := by decide +kernel
theorem d_prog_10_method_2_0 : decode prog_10_method_2_code 0 = .ok (.iconst 0, 1) := by decide +kernel
theorem d_prog_10_method_2_1 : decode prog_10_method_2_code 1 = .ok (.istore_n 1, 1) := by decide +kernel
theorem d_prog_10_method_2_2 : decode prog_10_method_2_code 2 = .ok (.iconst 0, 1) := by decide +kernel
theorem d_prog_10_method_2_3 : decode prog_10_method_2_code 3 = .ok (.istore_n 2, 1) := by decide +kernel
theorem pn_0 : plainName "java/lang/StringUTF16" = true := by first | (simp [plainName, overriddenIn]; done) | decide +kernel
theorem pn_1 : plainName "java/lang/String" = true := by first | (simp [plainName, overriddenIn]; done) | decide +kernel
theorem pn_2 : plainName "jdk/internal/util/Preconditions" = true := by first | (simp [plainName, overriddenIn]; done) | decide +kernel
theorem pn_3 : plainName "java/lang/StringLatin1" = true := by first | (simp [plainName, overriddenIn]; done) | decide +kernel
theorem pn_4 : plainName "com/example/triplink/triplink/rules/GrammarTokensCommentStartPinLaw" = true := by first | (simp [plainName, overriddenIn]; done) | decide +kernel
theorem pn_5 : plainName "com/example/triplink/triplink/rules/GrammarTokens" = true := by first | (simp [plainName, overriddenIn]; done) | decide +kernel
theorem pd_0 : parseMethodDescriptor "([CI[BII)I" = some ⟨[(.array .char), .int, (.array .byte), .int, .int], some .int⟩ := by decide +kernel
theorem pd_1 : parseMethodDescriptor "([CII)[B" = some ⟨[(.array .char), .int, .int], some (.array .byte)⟩ := by decide +kernel
theorem pd_2 : parseMethodDescriptor "([BI)B" = some ⟨[(.array .byte), .int], some .byte⟩ := by decide +kernel
theorem pd_3 : parseMethodDescriptor "([CIILjava/lang/Void;)V" = some ⟨[(.array .char), .int, .int, (.object "java/lang/Void")], none⟩ := by decide +kernel
theorem pd_4 : parseMethodDescriptor "()B" = some ⟨[], some .byte⟩ := by decide +kernel
theorem pd_5 : parseMethodDescriptor "(IILjava/util/function/BiFunction;)I" = some ⟨[.int, .int, (.object "java/util/function/BiFunction")], some .int⟩ := by decide +kernel
theorem pd_6 : parseMethodDescriptor "(II)V" = some ⟨[.int, .int], none⟩ := by decide +kernel
theorem pd_7 : parseMethodDescriptor "()Z" = some ⟨[], some .boolean⟩ := by decide +kernel
theorem pd_8 : parseMethodDescriptor "([BI)C" = some ⟨[(.array .byte), .int], some .char⟩ := by decide +kernel
theorem pd_9 : parseMethodDescriptor "()I" = some ⟨[], some .int⟩ := by decide +kernel
theorem pd_10 : parseMethodDescriptor "(I)C" = some ⟨[.int], some .char⟩ := by decide +kernel
theorem pd_11 : parseMethodDescriptor "([C)V" = some ⟨[(.array .char)], none⟩ := by decide +kernel
theorem pd_12 : parseMethodDescriptor "(Ljava/lang/String;)I" = some ⟨[(.object "java/lang/String")], some .int⟩ := by decide +kernel
theorem pd_13 : parseMethodDescriptor "(ICI)I" = some ⟨[.int, .char, .int], some .int⟩ := by decide +kernel
def Gl (Z : State) (a0 : Array Value) : Prop := (∀ d ∈ tables_1, d.before a0 Z = true) ∧ EW Z a0 consts_1 ∧ (∃ G : Int32, Sta Z Z.heap "java/lang/String" "COMPACT_STRINGS" "Z" (.int G) ∧ ¬ G = 0) ∧ (∃ G : Value, Sta Z Z.heap "jdk/internal/util/Preconditions" "SIOOBE_FORMATTER" "Ljava/util/function/BiFunction;" G ∧ G.isRef = true) ∧ True
theorem stratoms {Z : State} {a0 : Array Value} (g : Gl Z a0) : ∀ d ∈ Bundle.stringAtoms, d.before a0 Z = true := fun d hd => g.1 d ((by decide +kernel : ∀ d ∈ Bundle.stringAtoms, d ∈ tables_1) d hd)
/-- the law's own step -/
def stF (s c i : Int32) : Int32 := if s < 4 then (if s &&& 2 = 0 then (if s &&& 1 = 0 then (if c = 34 then 1 else if c = 35 then 4 + i else s) else (if c = 92 then 3 else if c = 34 then 0 else s)) else 1) else s
def rn : List Int32 → Int32 → Nat → Int32
  | [], s, _ => s
  | c :: cs, s, i => rn cs (stF s c (Int32.ofNat i)) (i + 1)
def rF (s : Int32) : Int32 := if s < 4 then -1 else s - 4
theorem stF0 (c i : Int32) : stF 0 c i = if c = 34 then 1 else if c = 35 then 4 + i else 0 := rfl
theorem stF1 (c i : Int32) : stF 1 c i = if c = 92 then 3 else if c = 34 then 0 else 1 := rfl
theorem stF3 (c i : Int32) : stF 3 c i = 1 := rfl
theorem stFb {s : Int32} (c i : Int32) (h : ¬ s < 4) : stF s c i = s := if_neg h
theorem rn_big {s : Int32} (h : ¬ s < 4) : ∀ (l : List Int32) (i : Nat), rn l s i = s
  | [], _ => rfl
  | c :: l, i => by
    show rn l (stF s c (Int32.ofNat i)) (i + 1) = s
    rw [stFb _ _ h]; exact rn_big h l (i + 1)
theorem rn_at {cs : List Int32} {i : Nat} (h : i < cs.length) (s : Int32) : rn (cs.drop i) s i = rn (cs.drop (i + 1)) (stF s (cs.getD i 0) (Int32.ofNat i)) (i + 1) := by
  have e : cs.drop i = cs.getD i 0 :: cs.drop (i + 1) := by
    rw [List.drop_eq_getElem_cons h]; simp [List.getD_eq_getElem?_getD, h]
  rw [e]; rfl
theorem rn_off {cs : List Int32} {i : Nat} (h : cs.length ≤ i) (s : Int32) (k : Nat) : rn (cs.drop i) s k = s := by
  rw [List.drop_eq_nil_of_le h]; rfl
theorem found_big {i : Nat} (h : i < 2 ^ 20) : ¬ (4 : Int32) + Int32.ofNat i < 4 := by
  have e : (4 : Int32) + Int32.ofNat i = Int32.ofNat (4 + i) := on_add 4 i
  rw [e]; exact on_nlt (n := 4) (by omega) (by omega)
theorem found_res {i : Nat} (h : i < 2 ^ 20) : rF ((4 : Int32) + Int32.ofNat i) = Int32.ofNat i := by
  rw [rF, if_neg (found_big h), Int32.add_comm, Int32.add_sub_cancel]
theorem own_n5 (x : Int32) : (x &&& (7 : Int32)) % (6 : Int32) = 0 ∨ (x &&& (7 : Int32)) % (6 : Int32) = 1 ∨ (x &&& (7 : Int32)) % (6 : Int32) = 2 ∨ (x &&& (7 : Int32)) % (6 : Int32) = 3 ∨ (x &&& (7 : Int32)) % (6 : Int32) = 4 ∨ (x &&& (7 : Int32)) % (6 : Int32) = 5 := by
  have q := c_mask x 7 3 (by omega) (by decide)
  have r := c_irem (x &&& 7) 6 6 rfl
  simp only [← Int32.toInt_inj]
  have e0 : (0 : Int32).toInt = 0 := rfl
  have e1 : (1 : Int32).toInt = 1 := rfl
  have e2 : (2 : Int32).toInt = 2 := rfl
  have e3 : (3 : Int32).toInt = 3 := rfl
  have e4 : (4 : Int32).toInt = 4 := rfl
  have e5 : (5 : Int32).toInt = 5 := rfl
  rw [e0, e1, e2, e3, e4, e5]
  have := r.1 (by omega)
  omega
set_option maxRecDepth 65536 in
set_option maxHeartbeats 4000000 in
theorem c_coderlen {l : Launch} {Z : State} {a0 : Array Value} {kn : Bool} (g : Gl Z a0) {ws : List Cond} {h0 : Heap} {ss : List Addr} (hO : Old Z Z.heap.size h0) {b : Addr} {n : Int32} {kb : ClassId} {vs : List Value} {dv : Value} (A : Arv Z h0 b kb .byte n vs dv) :
    Con l Z consts_1 kn ws (⟨"java/lang/StringUTF16", "coderFromArrayLen", "([BI)B"⟩ : MethodName) jdk_52_method_15_code 2 (some .byte) ({ frames := 0, cells := 0, slots := 0, locals := 0 } : Room) #[(.ref b), (.int n)] h0 ss (rV fun v h => h0 = h ∧ v = .int 0) := by
  have hw := g.1
  have hEL := g.2.1
  refine Con.of pn_0 hO ?_
  intro p e s m below meth c T0 me W0
  refine Fi.entry (L := #[.val (.ref b), .val (.int n)]) (by first | (simp [entryFrame, mkF, argsToLocals, Value.category, maxLocals]; done) | (simp [entryFrame, mkF, argsToLocals, Value.category]; done) | rfl) ?_
  refine W0.iloadN me d_jdk_52_method_15_0 rfl ?_
  refine W0.aloadN me d_jdk_52_method_15_1 rfl rfl ?_
  show Fi p e below s Z _ _ _ _ T0 (mkF m 2 #[.val (.ref b), .val (.int n)] [(.ref b), (.int n)])
  refine W0.alen me A d_jdk_52_method_15_2 ?_
  refine W0.isub me d_jdk_52_method_15_3 ?_
  refine W0.bipush me d_jdk_52_method_15_4 (v := 31) rfl ?_
  refine W0.iushr me d_jdk_52_method_15_6 ?_
  refine W0.i2b me d_jdk_52_method_15_7 ?_
  show Fi p e below s Z _ _ _ _ T0 (mkF m 8 #[.val (.ref b), .val (.int n)] [(.int ((XT.ushr (n - n) (31 : Int32)).toInt8.toInt32))])
  have e1 : (XT.ushr (n - n) (31 : Int32)).toInt8.toInt32 = 0 := by rw [Int32.sub_self]; decide
  rw [e1]
  exact W0.retN hEL me (Or.inr (Or.inl rfl)) d_jdk_52_method_15_8 ⟨rfl, rfl⟩ (by decide) (by decide)

set_option maxRecDepth 65536 in
set_option maxHeartbeats 4000000 in
theorem c_compress {l : Launch} {Z : State} {a0 : Array Value} {kn : Bool} (g : Gl Z a0) {ws : List Cond} {h0 : Heap} {ss : List Addr} (hO : Old Z Z.heap.size h0) {ca b : Addr} {kca kb : ClassId} {cs : List Int32} {dv : Value} (Aca : Arv Z h0 ca kca .char (Int32.ofNat cs.length) (cs.map Value.int) dv) (A0 : Arv Z h0 b kb .byte (Int32.ofNat cs.length) [] (.int 0)) (hne : ca ≠ b) (hS : b ∈ ss) (hz : Z.heap.size ≤ b) (h8 : C8 cs) (hl : cs.length < 2 ^ 20) :
    Con l Z consts_1 kn ws (⟨"java/lang/StringUTF16", "compress", "([CI[BII)I"⟩ : MethodName) jdk_52_method_21_code 7 (some .int) ({ frames := 0, cells := 0, slots := 0, locals := 0 } : Room) #[(.ref ca), (.int 0), (.ref b), (.int 0), (.int (Int32.ofNat cs.length))] h0 ss (rV fun v h => Keep h0 h [b] ∧ v = .int (Int32.ofNat cs.length) ∧ Arv Z h b kb .byte (Int32.ofNat cs.length) (lb cs) (.int 0)) := by
  have hw := g.1
  have hEL := g.2.1
  refine Con.of pn_0 hO ?_
  intro p e s m below meth c T0 me W0
  refine Fi.entry (L := #[.val (.ref ca), .val (.int 0), .val (.ref b), .val (.int 0), .val (.int (Int32.ofNat cs.length)), .unset, .unset]) (by first | (simp [entryFrame, mkF, argsToLocals, Value.category, maxLocals]; done) | (simp [entryFrame, mkF, argsToLocals, Value.category]; done) | rfl) ?_
  have loop : ∀ (r i : Nat) (T1 : State) (h1 : Heap) (o : Slot), i + r = cs.length → (o = .unset ∨ ∃ w, o = .val w ∧ w.category = 1) → Wk p l e ({ frames := 0, cells := 0, slots := 0, locals := 0 } : Room) s m #[(.ref ca), (.int 0), (.ref b), (.int 0), (.int (Int32.ofNat cs.length))] below meth c Z consts_1 kn "java/lang/StringUTF16" T1 h1 ss 0 0 → Keep h0 h1 [b] → Arv Z h1 b kb .byte (Int32.ofNat cs.length) (lb (cs.take i)) (.int 0) →
      Fi p e below s Z consts_1 0 0 (rV fun v h => Keep h0 h [b] ∧ v = .int (Int32.ofNat cs.length) ∧ Arv Z h b kb .byte (Int32.ofNat cs.length) (lb cs) (.int 0)) T1 (mkF m 3 #[.val (.ref ca), .val (.int (Int32.ofNat i)), .val (.ref b), .val (.int (Int32.ofNat i)), .val (.int (Int32.ofNat cs.length)), .val (.int (Int32.ofNat i)), o] []) := by
    intro r
    induction r with
    | zero =>
      intro i T1 h1 o hi ho W1 K A
      refine W1.iload me d_jdk_52_method_21_3 rfl ?_
      refine W1.iload me d_jdk_52_method_21_5 rfl ?_
      refine W1.icY_ge me d_jdk_52_method_21_7 (on_nlt (by omega) (by omega)) (pc' := 44) (by decide) (by decide) ?_
      refine W1.iload me d_jdk_52_method_21_44 rfl ?_
      have e1 : cs.take i = cs := List.take_of_length_le (by omega)
      rw [e1] at A
      exact W1.retI hEL me d_jdk_52_method_21_46 ⟨K, rfl, A⟩ (by decide) (by decide)
    | succ r ih =>
      intro i T1 h1 o hi ho W1 K A
      have hlt : i < cs.length := by omega
      have Ac := Aca.keep K (ninS hne nin0)
      have hch := h8.at hlt
      obtain ⟨x, hx⟩ : ∃ x, x = cs.getD i 0 := ⟨_, rfl⟩
      refine W1.iload me d_jdk_52_method_21_3 rfl ?_
      refine W1.iload me d_jdk_52_method_21_5 rfl ?_
      refine W1.icN_ge me d_jdk_52_method_21_7 (on_lt hlt (by omega)) ?_
      refine W1.aloadN me d_jdk_52_method_21_10 rfl rfl ?_
      refine W1.iloadN me d_jdk_52_method_21_11 rfl ?_
      refine W1.caload me Ac d_jdk_52_method_21_12 (on_in hlt (by omega)) (v := .int x) (by rw [on_clamp (by omega), ci_get hlt, hx]) ?_
      refine W1.istore me d_jdk_52_method_21_13 (l' := #[.val (.ref ca), .val (.int (Int32.ofNat i)), .val (.ref b), .val (.int (Int32.ofNat i)), .val (.int (Int32.ofNat cs.length)), .val (.int (Int32.ofNat i)), .val (.int x)]) (XS.store1 (i := 6) rfl ho rfl) ?_
      refine W1.iload me d_jdk_52_method_21_15 rfl ?_
      refine W1.sipush me d_jdk_52_method_21_17 (v := 255) rfl ?_
      refine W1.icY_le me d_jdk_52_method_21_20 (hx ▸ hch.2) (pc' := 26) (by decide) (by decide) ?_
      refine W1.aloadN me d_jdk_52_method_21_26 rfl rfl ?_
      refine W1.iloadN me d_jdk_52_method_21_27 rfl ?_
      refine W1.iload me d_jdk_52_method_21_28 rfl ?_
      refine W1.i2b me d_jdk_52_method_21_30 ?_
      show Fi p e below s Z _ _ _ _ T1 (mkF m 31 #[.val (.ref ca), .val (.int (Int32.ofNat i)), .val (.ref b), .val (.int (Int32.ofNat i)), .val (.int (Int32.ofNat cs.length)), .val (.int (Int32.ofNat i)), .val (.int x)] [(.int (x.toInt8.toInt32)), (.int (Int32.ofNat i)), (.ref b)])
      refine W1.bastoreP me A (nar_byte_idem x) d_jdk_52_method_21_31 (i := i) (by rw [lb_len, List.length_take]; omega) (on_clamp (by omega)) (on_in hlt (by omega)) hS hz ?_
      intro T2 h2 W2 R2 A2
      refine W2.iinc me d_jdk_52_method_21_32 (v := 1) rfl rfl (l' := #[.val (.ref ca), .val (.int ((Int32.ofNat i) + (1 : Int32))), .val (.ref b), .val (.int (Int32.ofNat i)), .val (.int (Int32.ofNat cs.length)), .val (.int (Int32.ofNat i)), .val (.int x)]) rfl ?_
      refine W2.iinc me d_jdk_52_method_21_35 (v := 1) rfl rfl (l' := #[.val (.ref ca), .val (.int ((Int32.ofNat i) + (1 : Int32))), .val (.ref b), .val (.int ((Int32.ofNat i) + (1 : Int32))), .val (.int (Int32.ofNat cs.length)), .val (.int (Int32.ofNat i)), .val (.int x)]) rfl ?_
      refine W2.iinc me d_jdk_52_method_21_38 (v := 1) rfl rfl (l' := #[.val (.ref ca), .val (.int ((Int32.ofNat i) + (1 : Int32))), .val (.ref b), .val (.int ((Int32.ofNat i) + (1 : Int32))), .val (.int (Int32.ofNat cs.length)), .val (.int ((Int32.ofNat i) + (1 : Int32))), .val (.int x)]) rfl ?_
      refine W2.goto me d_jdk_52_method_21_41 (pc' := 3) (by decide) (by decide) ?_
      show Fi p e below s Z _ _ _ _ T2 (mkF m 3 #[.val (.ref ca), .val (.int ((Int32.ofNat i) + (1 : Int32))), .val (.ref b), .val (.int ((Int32.ofNat i) + (1 : Int32))), .val (.int (Int32.ofNat cs.length)), .val (.int ((Int32.ofNat i) + (1 : Int32))), .val (.int x)] [])
      rw [on_succ]
      exact ih (i + 1) T2 h2 (.val (.int x)) (by omega) (Or.inr ⟨_, rfl, rfl⟩) W2 (K.wr R2 (Or.inl (List.mem_singleton.mpr rfl))) (by rw [hx, lb_take_succ hlt] at A2; exact A2)
  refine W0.iconst me d_jdk_52_method_21_0 (v := 0) rfl ?_
  refine W0.istore me d_jdk_52_method_21_1 (l' := #[.val (.ref ca), .val (.int 0), .val (.ref b), .val (.int 0), .val (.int (Int32.ofNat cs.length)), .val (.int (0 : Int32)), .unset]) rfl ?_
  exact loop cs.length 0 T0 h0 .unset (by omega) (Or.inl rfl) W0 (Keep.refl _ _) A0

set_option maxRecDepth 65536 in
set_option maxHeartbeats 4000000 in
theorem c_compress1 {l : Launch} {Z : State} {a0 : Array Value} {kn : Bool} (g : Gl Z a0) {ws : List Cond} {h0 : Heap} {ss : List Addr} (hO : Old Z Z.heap.size h0) {ca : Addr} {kca : ClassId} {cs : List Int32} {dv : Value} (Aca : Arv Z h0 ca kca .char (Int32.ofNat cs.length) (cs.map Value.int) dv) (h8 : C8 cs) (hl : cs.length ≤ 8) :
    Con l Z consts_1 kn ws (⟨"java/lang/StringUTF16", "compress", "([CII)[B"⟩ : MethodName) jdk_52_method_16_code 6 (some (.array .byte)) ({ frames := 1, cells := 1, slots := 8, locals := 18 } : Room) #[(.ref ca), (.int 0), (.int (Int32.ofNat cs.length))] h0 ss (rV fun v h => Ext h0 h ∧ ∃ b kb, v = .ref b ∧ h0.size ≤ b ∧ Arv Z h b kb .byte (Int32.ofNat cs.length) (lb cs) (.int 0)) := by
  have hw := g.1
  have hEL := g.2.1
  refine Con.of pn_0 hO ?_
  intro p e s m below meth c T0 me W0
  refine Fi.entry (L := #[.val (.ref ca), .val (.int 0), .val (.int (Int32.ofNat cs.length)), .unset, .unset, .unset]) (by first | (simp [entryFrame, mkF, argsToLocals, Value.category, maxLocals]; done) | (simp [entryFrame, mkF, argsToLocals, Value.category]; done) | rfl) ?_
  have hlt1 := own_lt Aca.lt
  refine W0.iloadN me d_jdk_52_method_16_0 rfl ?_
  show Fi p e below s Z _ _ _ _ T0 (mkF m 1 #[.val (.ref ca), .val (.int 0), .val (.int (Int32.ofNat cs.length)), .unset, .unset, .unset] [(.int (Int32.ofNat cs.length))])
  refine W0.newA me (hw _ (List.mem_of_getElem? (i := 26) rfl)) d_jdk_52_method_16_1 (on_nneg (by omega)) (cap := 8) (by rw [on_clamp (by omega)]; exact hl) (own_le rfl) (own_le rfl) (own_le rfl) ?_
  intro T1 h1 a1 k1 g1 W1 E1 A1
  refine W1.astoreN me d_jdk_52_method_16_3 (l' := #[.val (.ref ca), .val (.int 0), .val (.int (Int32.ofNat cs.length)), .val (.ref a1), .unset, .unset]) rfl rfl ?_
  refine W1.aloadN me d_jdk_52_method_16_4 rfl rfl ?_
  refine W1.iloadN me d_jdk_52_method_16_5 rfl ?_
  refine W1.aloadN me d_jdk_52_method_16_6 rfl rfl ?_
  refine W1.iconst me d_jdk_52_method_16_7 (v := 0) rfl ?_
  refine W1.iloadN me d_jdk_52_method_16_8 rfl ?_
  show Fi p e below s Z _ _ _ _ T1 (mkF m 9 #[.val (.ref ca), .val (.int 0), .val (.int (Int32.ofNat cs.length)), .val (.ref a1), .unset, .unset] [(.int (Int32.ofNat cs.length)), (.int (0 : Int32)), (.ref a1), (.int 0), (.ref ca)])
  refine W1.callS me hEL (hw _ (List.mem_of_getElem? (i := 27) rfl)) (hw _ (List.mem_of_getElem? (i := 28) rfl)) (hw _ (List.mem_of_getElem? (i := 24) rfl)) (hw _ (List.mem_of_getElem? (i := 29) rfl)) (argsL := [(.ref ca), (.int 0), (.ref a1), (.int (0 : Int32)), (.int (Int32.ofNat cs.length))]) (rest := []) (c_compress g W1.old (Aca.ext E1) A1 (own_ne (by omega)) (List.mem_cons_self ..) (by have := hO.2.1; omega) h8 (by omega)) d_jdk_52_method_16_9 (by decide) (fun _ q => q) rfl (lenOf pd_0 rfl) (own_le rfl) (own_le rfl) (own_le rfl) (own_le rfl) rfl ?_
  intro T2 h2 v2 W2 z2 q2
  obtain ⟨_, rfl, K2, rfl, A2⟩ := q2
  show Fi p e below s Z _ _ _ _ T2 (mkF m 12 #[.val (.ref ca), .val (.int 0), .val (.int (Int32.ofNat cs.length)), .val (.ref a1), .unset, .unset] [(.int (Int32.ofNat cs.length))])
  refine W2.istore me d_jdk_52_method_16_12 (l' := #[.val (.ref ca), .val (.int 0), .val (.int (Int32.ofNat cs.length)), .val (.ref a1), .val (.int (Int32.ofNat cs.length)), .unset]) rfl ?_
  refine W2.iload me d_jdk_52_method_16_14 rfl ?_
  refine W2.iloadN me d_jdk_52_method_16_16 rfl ?_
  show Fi p e below s Z _ _ _ _ T2 (mkF m 17 #[.val (.ref ca), .val (.int 0), .val (.int (Int32.ofNat cs.length)), .val (.ref a1), .val (.int (Int32.ofNat cs.length)), .unset] [(.int (Int32.ofNat cs.length)), (.int (Int32.ofNat cs.length))])
  refine W2.icY_eq me d_jdk_52_method_16_17 rfl (pc' := 57) (by decide) (by decide) ?_
  refine W2.aloadN me d_jdk_52_method_16_57 rfl rfl ?_
  show Fi p e below s Z _ _ _ _ T2 (mkF m 58 #[.val (.ref ca), .val (.int 0), .val (.int (Int32.ofNat cs.length)), .val (.ref a1), .val (.int (Int32.ofNat cs.length)), .unset] [(.ref a1)])
  exact W2.retA hEL me d_jdk_52_method_16_58 ⟨own_xk E1 K2 (allS (by omega) all0), a1, k1, rfl, by omega, A2⟩ (by decide) (by decide) rfl rfl rfl

set_option maxRecDepth 65536 in
set_option maxHeartbeats 4000000 in
theorem c_init149 {l : Launch} {Z : State} {a0 : Array Value} {kn : Bool} (g : Gl Z a0) {ws : List Cond} {h0 : Heap} {ss : List Addr} (hO : Old Z Z.heap.size h0) {x ca : Addr} {kca : ClassId} {cs : List Int32} {dv vv vc : Value} (EX : Exa Z h0 x "java/lang/String") (FV : Fld Z h0 x "java/lang/String" "value" "[B" vv) (FC : Fld Z h0 x "java/lang/String" "coder" "B" vc) (Aca : Arv Z h0 ca kca .char (Int32.ofNat cs.length) (cs.map Value.int) dv) (hS : x ∈ ss) (hz : Z.heap.size ≤ x) (h8 : C8 cs) (hl : cs.length ≤ 8) :
    Con l Z consts_1 kn ws (⟨"java/lang/String", "<init>", "([CIILjava/lang/Void;)V"⟩ : MethodName) jdk_42_method_149_code 6 none ({ frames := 2, cells := 4, slots := 8, locals := 35 } : Room) #[(.ref x), (.ref ca), (.int 0), (.int (Int32.ofNat cs.length)), .null] h0 ss (rU fun h => Keep h0 h [x] ∧ Lat Z h x cs) := by
  have hw := g.1
  have hEL := g.2.1
  refine Con.of pn_1 hO ?_
  intro p e s m below meth c T0 me W0
  refine Fi.entry (L := #[.val (.ref x), .val (.ref ca), .val (.int 0), .val (.int (Int32.ofNat cs.length)), .val .null, .unset]) (by first | (simp [entryFrame, mkF, argsToLocals, Value.category, maxLocals]; done) | (simp [entryFrame, mkF, argsToLocals, Value.category]; done) | rfl) ?_
  refine W0.aloadN me d_jdk_42_method_149_0 rfl rfl ?_
  show Fi p e below s Z _ _ _ _ T0 (mkF m 1 #[.val (.ref x), .val (.ref ca), .val (.int 0), .val (.int (Int32.ofNat cs.length)), .val .null, .unset] [(.ref x)])
  refine W0.initO me (hw _ (List.mem_of_getElem? (i := 18) rfl)) (hw _ (List.mem_of_getElem? (i := 19) rfl)) (hw _ (List.mem_of_getElem? (i := 20) rfl)) d_jdk_42_method_149_1 rfl (own_le rfl) (own_le rfl) ?_
  intro T1 W1
  show Fi p e below s Z _ _ _ _ T1 (mkF m 4 #[.val (.ref x), .val (.ref ca), .val (.int 0), .val (.int (Int32.ofNat cs.length)), .val .null, .unset] [])
  refine W1.iloadN me d_jdk_42_method_149_4 rfl ?_
  show Fi p e below s Z _ _ _ _ T1 (mkF m 5 #[.val (.ref x), .val (.ref ca), .val (.int 0), .val (.int (Int32.ofNat cs.length)), .val .null, .unset] [(.int (Int32.ofNat cs.length))])
  have hLV : Laid Z a0 "java/lang/String" "java/lang/String" "value" "[B" := Or.inr (hw _ (List.mem_of_getElem? (i := 36) rfl))
  have hLC : Laid Z a0 "java/lang/String" "java/lang/String" "coder" "B" := Or.inr (hw _ (List.mem_of_getElem? (i := 34) rfl))
  have hvc : Jvm.RoadKit.slotOf Z "java/lang/String" "value" "[B" ≠ Jvm.RoadKit.slotOf Z "java/lang/String" "coder" "B" := slot_ne hLV hLC (by decide) (t := .array .byte) (t' := .byte) (by decide) (by decide)
  have hxlt := own_lt EX.lt
  refine W1.if_ne me d_jdk_42_method_149_5 (pc' := 27) (by decide) (by decide) (fun hb => ?_) (fun hb => ?_)
  rotate_left
  ·
    have e0 : cs.length = 0 := (on_inj (by omega) (by omega)).mp (hb.trans rfl)
    have ec : cs = [] := List.eq_nil_of_length_eq_zero e0
    refine W1.aloadN me d_jdk_42_method_149_8 rfl rfl ?_
    show Fi p e below s Z _ _ _ _ T1 (mkF m 9 #[.val (.ref x), .val (.ref ca), .val (.int 0), .val (.int (Int32.ofNat cs.length)), .val .null, .unset] [(.ref x)])
    refine W1.ldcS me hEL (List.mem_of_getElem? (i := 0) rfl) (hw _ (List.mem_of_getElem? (i := 73) rfl)) (stratoms g) (vs := []) (z := 0) ⟨by decide, by decide⟩ (by decide) (by decide) d_jdk_42_method_149_9 (n := 0) (by decide) (by decide) (by decide) (by decide) ?_
    intro T2 h2 a2 b2 k2 W2 E2 A2 C2 V2 B2 N2
    show Fi p e below s Z _ _ _ _ T2 (mkF m 11 #[.val (.ref x), .val (.ref ca), .val (.int 0), .val (.int (Int32.ofNat cs.length)), .val .null, .unset] [(.ref a2), (.ref x)])
    refine W2.getF me (hw _ (List.mem_of_getElem? (i := 35) rfl)) V2 Via.refl d_jdk_42_method_149_11 ?_
    intro T3 W3
    show Fi p e below s Z _ _ _ _ T3 (mkF m 14 #[.val (.ref x), .val (.ref ca), .val (.int 0), .val (.int (Int32.ofNat cs.length)), .val .null, .unset] [(.ref b2), (.ref x)])
    have N2a := (N2 x hS).1
    have N2b := (N2 x hS).2
    refine W3.putF me (hw _ (List.mem_of_getElem? (i := 35) rfl)) (FV.ext E2) Via.refl (EX.ext E2) (Or.inr ⟨(hw _ (List.mem_of_getElem? (i := 36) rfl)), rfl, rfl⟩) (hw _ (List.mem_of_getElem? (i := 9) rfl)) (ty := (.array .byte)) (by decide) rfl rfl (Or.inl hS) hz d_jdk_42_method_149_14 ?_
    intro T4 h4 W4 R4
    show Fi p e below s Z _ _ _ _ T4 (mkF m 17 #[.val (.ref x), .val (.ref ca), .val (.int 0), .val (.int (Int32.ofNat cs.length)), .val .null, .unset] [])
    refine W4.aloadN me d_jdk_42_method_149_17 rfl rfl ?_
    show Fi p e below s Z _ _ _ _ T4 (mkF m 18 #[.val (.ref x), .val (.ref ca), .val (.int 0), .val (.int (Int32.ofNat cs.length)), .val .null, .unset] [(.ref x)])
    refine W4.ldcS me hEL (List.mem_of_getElem? (i := 0) rfl) (hw _ (List.mem_of_getElem? (i := 73) rfl)) (stratoms g) (vs := []) (z := 0) ⟨by decide, by decide⟩ (by decide) (by decide) d_jdk_42_method_149_18 (n := 0) (by decide) (by decide) (by decide) (by decide) ?_
    intro T5 h5 a5 b5 k5 W5 E5 A5 C5 V5 B5 N5
    show Fi p e below s Z _ _ _ _ T5 (mkF m 20 #[.val (.ref x), .val (.ref ca), .val (.int 0), .val (.int (Int32.ofNat cs.length)), .val .null, .unset] [(.ref a5), (.ref x)])
    refine W5.getF me (hw _ (List.mem_of_getElem? (i := 33) rfl)) C5 Via.refl d_jdk_42_method_149_20 ?_
    intro T6 W6
    show Fi p e below s Z _ _ _ _ T6 (mkF m 23 #[.val (.ref x), .val (.ref ca), .val (.int 0), .val (.int (Int32.ofNat cs.length)), .val .null, .unset] [(.int (0 : Int32)), (.ref x)])
    have FC3 := ((FC.ext E2).other R4 (Or.inr hvc.symm)).ext E5
    have FV3 := ((FV.ext E2).same R4).ext E5
    have EX3 := ((EX.ext E2).wr R4).ext E5
    have B3 := (B2.other R4 (Ne.symm N2b)).ext E5
    refine W6.putF me (hw _ (List.mem_of_getElem? (i := 33) rfl)) FC3 Via.refl EX3 (Or.inr ⟨(hw _ (List.mem_of_getElem? (i := 34) rfl)), rfl, rfl⟩) (hw _ (List.mem_of_getElem? (i := 9) rfl)) (ty := .byte) (by decide) rfl rfl (Or.inl hS) hz d_jdk_42_method_149_23 ?_
    intro T7 h7 W7 R7
    show Fi p e below s Z _ _ _ _ T7 (mkF m 26 #[.val (.ref x), .val (.ref ca), .val (.int 0), .val (.int (Int32.ofNat cs.length)), .val .null, .unset] [])
    have K4 : Keep h0 h7 [x] := (((own_xK E2 [x]).wr R4 (Or.inl (List.mem_singleton.mpr rfl))).ext E5).wr R7 (Or.inl (List.mem_singleton.mpr rfl))
    exact W7.retU hEL me d_jdk_42_method_149_26 ⟨K4, by rw [ec]; exact ⟨b2, k2, EX3.wr R7, FC3.same R7, FV3.other R7 (Or.inr hvc), B3.other R7 (Ne.symm N2b), by decide, C8.nil⟩⟩ (by decide) (by decide)
  ·
    show Fi p e below s Z _ _ _ _ T1 (mkF m 27 #[.val (.ref x), .val (.ref ca), .val (.int 0), .val (.int (Int32.ofNat cs.length)), .val .null, .unset] [])
    obtain ⟨G, O2, P2⟩ := g.2.2.1
    refine W1.getS me (hw _ (List.mem_of_getElem? (i := 21) rfl)) O2 Via.refl d_jdk_42_method_149_27 ?_
    intro T8 W8
    show Fi p e below s Z _ _ _ _ T8 (mkF m 30 #[.val (.ref x), .val (.ref ca), .val (.int 0), .val (.int (Int32.ofNat cs.length)), .val .null, .unset] [(.int G)])
    refine W8.ifN_eq me d_jdk_42_method_149_30 P2 ?_
    refine W8.aloadN me d_jdk_42_method_149_33 rfl rfl ?_
    refine W8.iloadN me d_jdk_42_method_149_34 rfl ?_
    refine W8.iloadN me d_jdk_42_method_149_35 rfl ?_
    show Fi p e below s Z _ _ _ _ T8 (mkF m 36 #[.val (.ref x), .val (.ref ca), .val (.int 0), .val (.int (Int32.ofNat cs.length)), .val .null, .unset] [(.int (Int32.ofNat cs.length)), (.int 0), (.ref ca)])
    refine W8.callS me hEL (hw _ (List.mem_of_getElem? (i := 22) rfl)) (hw _ (List.mem_of_getElem? (i := 23) rfl)) (hw _ (List.mem_of_getElem? (i := 24) rfl)) (hw _ (List.mem_of_getElem? (i := 25) rfl)) (argsL := [(.ref ca), (.int 0), (.int (Int32.ofNat cs.length))]) (rest := []) (c_compress1 (ss := []) g W8.old Aca h8 hl) d_jdk_42_method_149_36 (by decide) (fun _ q => nomatch q) rfl (lenOf pd_1 rfl) (own_le rfl) (own_le rfl) (own_le rfl) (own_le rfl) rfl ?_
    intro T9 h9 v9 W9 z9 q9
    obtain ⟨_, rfl, E9, b9, k9, rfl, y9, A9⟩ := q9
    show Fi p e below s Z _ _ _ _ T9 (mkF m 39 #[.val (.ref x), .val (.ref ca), .val (.int 0), .val (.int (Int32.ofNat cs.length)), .val .null, .unset] [(.ref b9)])
    refine W9.astore me d_jdk_42_method_149_39 (l' := #[.val (.ref x), .val (.ref ca), .val (.int 0), .val (.int (Int32.ofNat cs.length)), .val .null, .val (.ref b9)]) rfl rfl ?_
    refine W9.aloadN me d_jdk_42_method_149_41 rfl rfl ?_
    refine W9.aload me d_jdk_42_method_149_42 rfl rfl ?_
    refine W9.iloadN me d_jdk_42_method_149_44 rfl ?_
    show Fi p e below s Z _ _ _ _ T9 (mkF m 45 #[.val (.ref x), .val (.ref ca), .val (.int 0), .val (.int (Int32.ofNat cs.length)), .val .null, .val (.ref b9)] [(.int (Int32.ofNat cs.length)), (.ref b9), (.ref x)])
    refine W9.callS me hEL (hw _ (List.mem_of_getElem? (i := 30) rfl)) (hw _ (List.mem_of_getElem? (i := 31) rfl)) (hw _ (List.mem_of_getElem? (i := 24) rfl)) (hw _ (List.mem_of_getElem? (i := 32) rfl)) (argsL := [(.ref b9), (.int (Int32.ofNat cs.length))]) (rest := [(.ref x)]) (c_coderlen (ss := []) g W9.old A9) d_jdk_42_method_149_45 (by decide) (fun _ q => nomatch q) rfl (lenOf pd_2 rfl) (own_le rfl) (own_le rfl) (own_le rfl) (own_le rfl) rfl ?_
    intro T10 h10 v10 W10 z10 q10
    obtain ⟨_, rfl, rfl, rfl⟩ := q10
    show Fi p e below s Z _ _ _ _ T10 (mkF m 48 #[.val (.ref x), .val (.ref ca), .val (.int 0), .val (.int (Int32.ofNat cs.length)), .val .null, .val (.ref b9)] [(.int (0 : Int32)), (.ref x)])
    refine W10.putF me (hw _ (List.mem_of_getElem? (i := 33) rfl)) (FC.ext E9) Via.refl (EX.ext E9) (Or.inr ⟨(hw _ (List.mem_of_getElem? (i := 34) rfl)), rfl, rfl⟩) (hw _ (List.mem_of_getElem? (i := 9) rfl)) (ty := .byte) (by decide) rfl rfl (Or.inl hS) hz d_jdk_42_method_149_48 ?_
    intro T11 h11 W11 R11
    show Fi p e below s Z _ _ _ _ T11 (mkF m 51 #[.val (.ref x), .val (.ref ca), .val (.int 0), .val (.int (Int32.ofNat cs.length)), .val .null, .val (.ref b9)] [])
    refine W11.aloadN me d_jdk_42_method_149_51 rfl rfl ?_
    refine W11.aload me d_jdk_42_method_149_52 rfl rfl ?_
    show Fi p e below s Z _ _ _ _ T11 (mkF m 54 #[.val (.ref x), .val (.ref ca), .val (.int 0), .val (.int (Int32.ofNat cs.length)), .val .null, .val (.ref b9)] [(.ref b9), (.ref x)])
    refine W11.putF me (hw _ (List.mem_of_getElem? (i := 35) rfl)) ((FV.ext E9).other R11 (Or.inr hvc)) Via.refl ((EX.ext E9).wr R11) (Or.inr ⟨(hw _ (List.mem_of_getElem? (i := 36) rfl)), rfl, rfl⟩) (hw _ (List.mem_of_getElem? (i := 9) rfl)) (ty := (.array .byte)) (by decide) rfl rfl (Or.inl hS) hz d_jdk_42_method_149_54 ?_
    intro T12 h12 W12 R12
    show Fi p e below s Z _ _ _ _ T12 (mkF m 57 #[.val (.ref x), .val (.ref ca), .val (.int 0), .val (.int (Int32.ofNat cs.length)), .val .null, .val (.ref b9)] [])
    have hne5 : b9 ≠ x := own_en (by omega)
    have K8 : Keep h0 h12 [x] := ((own_xK E9 [x]).wr R11 (Or.inl (List.mem_singleton.mpr rfl))).wr R12 (Or.inl (List.mem_singleton.mpr rfl))
    exact W12.retU hEL me d_jdk_42_method_149_57 ⟨K8, b9, k9, ((EX.ext E9).wr R11).wr R12, ((FC.ext E9).same R11).other R12 (Or.inr hvc.symm), ((FV.ext E9).other R11 (Or.inr hvc)).same R12, (A9.other R11 hne5).other R12 hne5, by omega, h8⟩ (by decide) (by decide)

set_option maxRecDepth 65536 in
set_option maxHeartbeats 4000000 in
theorem c_init3 {l : Launch} {Z : State} {a0 : Array Value} {kn : Bool} (g : Gl Z a0) {ws : List Cond} {h0 : Heap} {ss : List Addr} (hO : Old Z Z.heap.size h0) {x ca : Addr} {kca : ClassId} {cs : List Int32} {dv vv vc : Value} (EX : Exa Z h0 x "java/lang/String") (FV : Fld Z h0 x "java/lang/String" "value" "[B" vv) (FC : Fld Z h0 x "java/lang/String" "coder" "B" vc) (Aca : Arv Z h0 ca kca .char (Int32.ofNat cs.length) (cs.map Value.int) dv) (hS : x ∈ ss) (hz : Z.heap.size ≤ x) (h8 : C8 cs) (hl : cs.length ≤ 8) :
    Con l Z consts_1 kn ws (⟨"java/lang/String", "<init>", "([C)V"⟩ : MethodName) jdk_42_method_3_code 2 none ({ frames := 3, cells := 4, slots := 8, locals := 52 } : Room) #[(.ref x), (.ref ca)] h0 ss (rU fun h => Keep h0 h [x] ∧ Lat Z h x cs) := by
  have hw := g.1
  have hEL := g.2.1
  refine Con.of pn_1 hO ?_
  intro p e s m below meth c T0 me W0
  refine Fi.entry (L := #[.val (.ref x), .val (.ref ca)]) (by first | (simp [entryFrame, mkF, argsToLocals, Value.category, maxLocals]; done) | (simp [entryFrame, mkF, argsToLocals, Value.category]; done) | rfl) ?_
  refine W0.aloadN me d_jdk_42_method_3_0 rfl rfl ?_
  refine W0.aloadN me d_jdk_42_method_3_1 rfl rfl ?_
  refine W0.iconst me d_jdk_42_method_3_2 (v := 0) rfl ?_
  refine W0.aloadN me d_jdk_42_method_3_3 rfl rfl ?_
  show Fi p e below s Z _ _ _ _ T0 (mkF m 4 #[.val (.ref x), .val (.ref ca)] [(.ref ca), (.int (0 : Int32)), (.ref ca), (.ref x)])
  refine W0.alen me Aca d_jdk_42_method_3_4 ?_
  refine W0.aconstNull me d_jdk_42_method_3_5 ?_
  show Fi p e below s Z _ _ _ _ T0 (mkF m 6 #[.val (.ref x), .val (.ref ca)] [.null, (.int (Int32.ofNat cs.length)), (.int (0 : Int32)), (.ref ca), (.ref x)])
  refine W0.callI me hEL (hw _ (List.mem_of_getElem? (i := 14) rfl)) (hw _ (List.mem_of_getElem? (i := 15) rfl)) (hw _ (List.mem_of_getElem? (i := 10) rfl)) (hw _ (List.mem_of_getElem? (i := 17) rfl)) rfl (a := x) (argsL := [(.ref ca), (.int (0 : Int32)), (.int (Int32.ofNat cs.length)), .null]) (rest := []) (c_init149 g W0.old EX FV FC Aca hS hz h8 hl) d_jdk_42_method_3_6 (by decide) (fun _ q => q) rfl (lenOf pd_3 rfl) (own_le rfl) (own_le rfl) (own_le rfl) (own_le rfl) rfl ?_
  intro T1 h1 v1 W1 z1 q1
  obtain ⟨rfl, K1, L1⟩ := q1
  show Fi p e below s Z _ _ _ _ T1 (mkF m 9 #[.val (.ref x), .val (.ref ca)] [])
  exact W1.retU hEL me d_jdk_42_method_3_9 ⟨K1, L1⟩ (by decide) (by decide)

set_option maxRecDepth 65536 in
set_option maxHeartbeats 4000000 in
theorem c_coder {l : Launch} {Z : State} {a0 : Array Value} {kn : Bool} (g : Gl Z a0) {ws : List Cond} {h0 : Heap} {ss : List Addr} (hO : Old Z Z.heap.size h0) {a : Addr} {cd : Int32} (FC : Fld Z h0 a "java/lang/String" "coder" "B" (.int cd)) (hcd : nar .byte cd = cd) :
    Con l Z consts_1 kn ws (⟨"java/lang/String", "coder", "()B"⟩ : MethodName) jdk_42_method_152_code 1 (some .byte) ({ frames := 0, cells := 0, slots := 0, locals := 0 } : Room) #[(.ref a)] h0 ss (rV fun v h => h0 = h ∧ v = .int cd) := by
  have hw := g.1
  have hEL := g.2.1
  refine Con.of pn_1 hO ?_
  intro p e s m below meth c T0 me W0
  refine Fi.entry (L := #[.val (.ref a)]) (by first | (simp [entryFrame, mkF, argsToLocals, Value.category, maxLocals]; done) | (simp [entryFrame, mkF, argsToLocals, Value.category]; done) | rfl) ?_
  obtain ⟨G, O2, P2⟩ := g.2.2.1
  refine W0.getS me (hw _ (List.mem_of_getElem? (i := 21) rfl)) O2 Via.refl d_jdk_42_method_152_0 ?_
  intro T1 W1
  show Fi p e below s Z _ _ _ _ T1 (mkF m 3 #[.val (.ref a)] [(.int G)])
  refine W1.ifN_eq me d_jdk_42_method_152_3 P2 ?_
  refine W1.aloadN me d_jdk_42_method_152_6 rfl rfl ?_
  show Fi p e below s Z _ _ _ _ T1 (mkF m 7 #[.val (.ref a)] [(.ref a)])
  refine W1.getF me (hw _ (List.mem_of_getElem? (i := 33) rfl)) FC Via.refl d_jdk_42_method_152_7 ?_
  intro T2 W2
  show Fi p e below s Z _ _ _ _ T2 (mkF m 10 #[.val (.ref a)] [(.int cd)])
  refine W2.goto me d_jdk_42_method_152_10 (pc' := 14) (by decide) (by decide) ?_
  show Fi p e below s Z _ _ _ _ T2 (mkF m 14 #[.val (.ref a)] [(.int cd)])
  exact W2.retN hEL me (Or.inr (Or.inl rfl)) d_jdk_42_method_152_14 ⟨rfl, by rw [hcd]⟩ (by decide) (by decide)

set_option maxRecDepth 65536 in
set_option maxHeartbeats 4000000 in
theorem c_length {l : Launch} {Z : State} {a0 : Array Value} {kn : Bool} (g : Gl Z a0) {ws : List Cond} {h0 : Heap} {ss : List Addr} (hO : Old Z Z.heap.size h0) {a : Addr} {cs : List Int32} (L : Lat Z h0 a cs) :
    Con l Z consts_1 kn ws (⟨"java/lang/String", "length", "()I"⟩ : MethodName) jdk_42_method_54_code 1 (some .int) ({ frames := 1, cells := 0, slots := 0, locals := 13 } : Room) #[(.ref a)] h0 ss (rV fun v h => h0 = h ∧ v = .int (Int32.ofNat cs.length)) := by
  have hw := g.1
  have hEL := g.2.1
  refine Con.of pn_1 hO ?_
  intro p e s m below meth c T0 me W0
  refine Fi.entry (L := #[.val (.ref a)]) (by first | (simp [entryFrame, mkF, argsToLocals, Value.category, maxLocals]; done) | (simp [entryFrame, mkF, argsToLocals, Value.category]; done) | rfl) ?_
  obtain ⟨vb, kb, EX, FC, FV, AB, hl, h8⟩ := L
  refine W0.aloadN me d_jdk_42_method_54_0 rfl rfl ?_
  show Fi p e below s Z _ _ _ _ T0 (mkF m 1 #[.val (.ref a)] [(.ref a)])
  refine W0.getF me (hw _ (List.mem_of_getElem? (i := 35) rfl)) FV Via.refl d_jdk_42_method_54_1 ?_
  intro T1 W1
  show Fi p e below s Z _ _ _ _ T1 (mkF m 4 #[.val (.ref a)] [(.ref vb)])
  refine W1.alen me AB d_jdk_42_method_54_4 ?_
  refine W1.aloadN me d_jdk_42_method_54_5 rfl rfl ?_
  show Fi p e below s Z _ _ _ _ T1 (mkF m 6 #[.val (.ref a)] [(.ref a), (.int (Int32.ofNat cs.length))])
  refine W1.callV me hEL (hw _ (List.mem_of_getElem? (i := 46) rfl)) (hw _ (List.mem_of_getElem? (i := 47) rfl)) (fun hZ' => notFace_of_selects (args := #[]) (mvT (s := s.setVm _) hZ' (hw _ (List.mem_of_getElem? (i := 49) rfl)))) (hw _ (List.mem_of_getElem? (i := 49) rfl)) (hw _ (List.mem_of_getElem? (i := 48) rfl)) (hw _ (List.mem_of_getElem? (i := 10) rfl)) (hw _ (List.mem_of_getElem? (i := 50) rfl)) (a := a) (argsL := []) (rest := [(.int (Int32.ofNat cs.length))]) EX (c_coder (ss := []) g W1.old FC rfl) d_jdk_42_method_54_6 (by decide) (fun _ q => nomatch q) rfl (lenOf pd_4 rfl) (own_le rfl) (own_le rfl) (own_le rfl) (own_le rfl) rfl ?_
  intro T2 h2 v2 W2 z2 q2
  obtain ⟨_, rfl, rfl, rfl⟩ := q2
  show Fi p e below s Z _ _ _ _ T2 (mkF m 9 #[.val (.ref a)] [(.int (0 : Int32)), (.int (Int32.ofNat cs.length))])
  refine W2.ishr me d_jdk_42_method_54_9 ?_
  show Fi p e below s Z _ _ _ _ T2 (mkF m 10 #[.val (.ref a)] [(.int ((Int32.ofNat cs.length) >>> ((0 : Int32) &&& 31)))])
  have e1 : Int32.ofNat cs.length >>> ((0 : Int32) &&& 31) = Int32.ofNat cs.length := by simp
  rw [e1]
  exact W2.retI hEL me d_jdk_42_method_54_10 ⟨rfl, rfl⟩ (by decide) (by decide)

set_option maxRecDepth 65536 in
set_option maxHeartbeats 4000000 in
theorem c_islat {l : Launch} {Z : State} {a0 : Array Value} {kn : Bool} (g : Gl Z a0) {ws : List Cond} {h0 : Heap} {ss : List Addr} (hO : Old Z Z.heap.size h0) {a : Addr} (FC : Fld Z h0 a "java/lang/String" "coder" "B" (.int 0)) :
    Con l Z consts_1 kn ws (⟨"java/lang/String", "isLatin1", "()Z"⟩ : MethodName) jdk_42_method_154_code 1 (some .boolean) ({ frames := 0, cells := 0, slots := 0, locals := 0 } : Room) #[(.ref a)] h0 ss (rV fun v h => h0 = h ∧ v = .int 1) := by
  have hw := g.1
  have hEL := g.2.1
  refine Con.of pn_1 hO ?_
  intro p e s m below meth c T0 me W0
  refine Fi.entry (L := #[.val (.ref a)]) (by first | (simp [entryFrame, mkF, argsToLocals, Value.category, maxLocals]; done) | (simp [entryFrame, mkF, argsToLocals, Value.category]; done) | rfl) ?_
  obtain ⟨G, O2, P2⟩ := g.2.2.1
  refine W0.getS me (hw _ (List.mem_of_getElem? (i := 21) rfl)) O2 Via.refl d_jdk_42_method_154_0 ?_
  intro T1 W1
  show Fi p e below s Z _ _ _ _ T1 (mkF m 3 #[.val (.ref a)] [(.int G)])
  refine W1.ifN_eq me d_jdk_42_method_154_3 P2 ?_
  refine W1.aloadN me d_jdk_42_method_154_6 rfl rfl ?_
  show Fi p e below s Z _ _ _ _ T1 (mkF m 7 #[.val (.ref a)] [(.ref a)])
  refine W1.getF me (hw _ (List.mem_of_getElem? (i := 33) rfl)) FC Via.refl d_jdk_42_method_154_7 ?_
  intro T2 W2
  show Fi p e below s Z _ _ _ _ T2 (mkF m 10 #[.val (.ref a)] [(.int (0 : Int32))])
  refine W2.ifN_ne me d_jdk_42_method_154_10 rfl ?_
  refine W2.iconst me d_jdk_42_method_154_13 (v := 1) rfl ?_
  refine W2.goto me d_jdk_42_method_154_14 (pc' := 18) (by decide) (by decide) ?_
  show Fi p e below s Z _ _ _ _ T2 (mkF m 18 #[.val (.ref a)] [(.int (1 : Int32))])
  exact W2.retN hEL me (Or.inl rfl) d_jdk_42_method_154_18 ⟨rfl, rfl⟩ (by decide) (by decide)

set_option maxRecDepth 65536 in
set_option maxHeartbeats 4000000 in
theorem c_pchk {l : Launch} {Z : State} {a0 : Array Value} {kn : Bool} (g : Gl Z a0) {ws : List Cond} {h0 : Heap} {ss : List Addr} (hO : Old Z Z.heap.size h0) {i n : Int32} {G : Value} (rG : G.isRef = true) (hi : ¬ i < 0 ∧ i < n) :
    Con l Z consts_1 kn ws (⟨"jdk/internal/util/Preconditions", "checkIndex", "(IILjava/util/function/BiFunction;)I"⟩ : MethodName) jdk_41_method_11_code 3 (some .int) ({ frames := 0, cells := 0, slots := 0, locals := 0 } : Room) #[(.int i), (.int n), G] h0 ss (rV fun v h => h0 = h ∧ v = .int i) := by
  have hw := g.1
  have hEL := g.2.1
  refine Con.of pn_2 hO ?_
  intro p e s m below meth c T0 me W0
  have hcG : G.category = 1 := XT.cat1 rG
  refine Fi.entry (L := #[.val (.int i), .val (.int n), .val G]) (by rcases ref_cases rG with rfl | ⟨ga, rfl⟩ <;> simp [entryFrame, mkF, argsToLocals, Value.category]) ?_
  refine W0.iloadN me d_jdk_41_method_11_0 rfl ?_
  show Fi p e below s Z _ _ _ _ T0 (mkF m 1 #[.val (.int i), .val (.int n), .val G] [(.int i)])
  refine W0.ifN_lt me d_jdk_41_method_11_1 hi.1 ?_
  refine W0.iloadN me d_jdk_41_method_11_4 rfl ?_
  refine W0.iloadN me d_jdk_41_method_11_5 rfl ?_
  show Fi p e below s Z _ _ _ _ T0 (mkF m 6 #[.val (.int i), .val (.int n), .val G] [(.int n), (.int i)])
  refine W0.icY_lt me d_jdk_41_method_11_6 hi.2 (pc' := 16) (by decide) (by decide) ?_
  refine W0.iloadN me d_jdk_41_method_11_16 rfl ?_
  show Fi p e below s Z _ _ _ _ T0 (mkF m 17 #[.val (.int i), .val (.int n), .val G] [(.int i)])
  exact W0.retI hEL me d_jdk_41_method_11_17 ⟨rfl, rfl⟩ (by decide) (by decide)

set_option maxRecDepth 65536 in
set_option maxHeartbeats 4000000 in
theorem c_schk {l : Launch} {Z : State} {a0 : Array Value} {kn : Bool} (g : Gl Z a0) {ws : List Cond} {h0 : Heap} {ss : List Addr} (hO : Old Z Z.heap.size h0) {i n : Int32} (hi : ¬ i < 0 ∧ i < n) :
    Con l Z consts_1 kn ws (⟨"java/lang/String", "checkIndex", "(II)V"⟩ : MethodName) jdk_42_method_155_code 2 none ({ frames := 1, cells := 0, slots := 0, locals := 14 } : Room) #[(.int i), (.int n)] h0 ss (rU fun h => h0 = h) := by
  have hw := g.1
  have hEL := g.2.1
  refine Con.of pn_1 hO ?_
  intro p e s m below meth c T0 me W0
  refine Fi.entry (L := #[.val (.int i), .val (.int n)]) (by first | (simp [entryFrame, mkF, argsToLocals, Value.category, maxLocals]; done) | (simp [entryFrame, mkF, argsToLocals, Value.category]; done) | rfl) ?_
  obtain ⟨G, O3, rG⟩ := g.2.2.2.1
  refine W0.iloadN me d_jdk_42_method_155_0 rfl ?_
  refine W0.iloadN me d_jdk_42_method_155_1 rfl ?_
  show Fi p e below s Z _ _ _ _ T0 (mkF m 2 #[.val (.int i), .val (.int n)] [(.int n), (.int i)])
  refine W0.getS me (hw _ (List.mem_of_getElem? (i := 68) rfl)) O3 Via.refl d_jdk_42_method_155_2 ?_
  intro T1 W1
  show Fi p e below s Z _ _ _ _ T1 (mkF m 5 #[.val (.int i), .val (.int n)] [G, (.int n), (.int i)])
  refine W1.callS me hEL (hw _ (List.mem_of_getElem? (i := 70) rfl)) (hw _ (List.mem_of_getElem? (i := 71) rfl)) (hw _ (List.mem_of_getElem? (i := 69) rfl)) (hw _ (List.mem_of_getElem? (i := 72) rfl)) (argsL := [(.int i), (.int n), G]) (rest := []) (c_pchk (ss := []) g W1.old rG hi) d_jdk_42_method_155_5 (by decide) (fun _ q => nomatch q) rfl (lenOf pd_5 rfl) (own_le rfl) (own_le rfl) (own_le rfl) (own_le rfl) rfl ?_
  intro T2 h2 v2 W2 z2 q2
  obtain ⟨_, rfl, rfl, rfl⟩ := q2
  show Fi p e below s Z _ _ _ _ T2 (mkF m 8 #[.val (.int i), .val (.int n)] [(.int i)])
  refine W2.pop me d_jdk_42_method_155_8 rfl ?_
  show Fi p e below s Z _ _ _ _ T2 (mkF m 9 #[.val (.int i), .val (.int n)] [])
  exact W2.retU hEL me d_jdk_42_method_155_9 rfl (by decide) (by decide)

set_option maxRecDepth 65536 in
set_option maxHeartbeats 4000000 in
theorem c_latat {l : Launch} {Z : State} {a0 : Array Value} {kn : Bool} (g : Gl Z a0) {ws : List Cond} {h0 : Heap} {ss : List Addr} (hO : Old Z Z.heap.size h0) {b : Addr} {kb : ClassId} {cs : List Int32} {i : Nat} (AB : Arv Z h0 b kb .byte (Int32.ofNat cs.length) (lb cs) (.int 0)) (hl : cs.length < 2 ^ 20) (h8 : C8 cs) (hi : i < cs.length) :
    Con l Z consts_1 kn ws (⟨"java/lang/StringLatin1", "charAt", "([BI)C"⟩ : MethodName) jdk_43_method_2_code 2 (some .char) ({ frames := 2, cells := 0, slots := 0, locals := 27 } : Room) #[(.ref b), (.int (Int32.ofNat i))] h0 ss (rV fun v h => h0 = h ∧ v = .int (cs.getD i 0)) := by
  have hw := g.1
  have hEL := g.2.1
  refine Con.of pn_3 hO ?_
  intro p e s m below meth c T0 me W0
  refine Fi.entry (L := #[.val (.ref b), .val (.int (Int32.ofNat i))]) (by first | (simp [entryFrame, mkF, argsToLocals, Value.category, maxLocals]; done) | (simp [entryFrame, mkF, argsToLocals, Value.category]; done) | rfl) ?_
  refine W0.iloadN me d_jdk_43_method_2_0 rfl ?_
  refine W0.aloadN me d_jdk_43_method_2_1 rfl rfl ?_
  show Fi p e below s Z _ _ _ _ T0 (mkF m 2 #[.val (.ref b), .val (.int (Int32.ofNat i))] [(.ref b), (.int (Int32.ofNat i))])
  refine W0.alen me AB d_jdk_43_method_2_2 ?_
  refine W0.callS me hEL (hw _ (List.mem_of_getElem? (i := 65) rfl)) (hw _ (List.mem_of_getElem? (i := 66) rfl)) (hw _ (List.mem_of_getElem? (i := 10) rfl)) (hw _ (List.mem_of_getElem? (i := 67) rfl)) (argsL := [(.int (Int32.ofNat i)), (.int (Int32.ofNat cs.length))]) (rest := []) (c_schk (ss := []) g W0.old (on_in hi (by omega))) d_jdk_43_method_2_3 (by decide) (fun _ q => nomatch q) rfl (lenOf pd_6 rfl) (own_le rfl) (own_le rfl) (own_le rfl) (own_le rfl) rfl ?_
  intro T1 h1 v1 W1 z1 q1
  obtain ⟨rfl, rfl⟩ := q1
  show Fi p e below s Z _ _ _ _ T1 (mkF m 6 #[.val (.ref b), .val (.int (Int32.ofNat i))] [])
  refine W1.aloadN me d_jdk_43_method_2_6 rfl rfl ?_
  refine W1.iloadN me d_jdk_43_method_2_7 rfl ?_
  show Fi p e below s Z _ _ _ _ T1 (mkF m 8 #[.val (.ref b), .val (.int (Int32.ofNat i))] [(.int (Int32.ofNat i)), (.ref b)])
  refine W1.baload me AB d_jdk_43_method_2_8 (on_in hi (by omega)) (v := .int (cs.getD i 0).toInt8.toInt32) (by rw [on_clamp (by omega), lb_get hi]) ?_
  show Fi p e below s Z _ _ _ _ T1 (mkF m 9 #[.val (.ref b), .val (.int (Int32.ofNat i))] [(.int (cs.getD i 0).toInt8.toInt32)])
  refine W1.sipush me d_jdk_43_method_2_9 (v := 255) rfl ?_
  refine W1.iand me d_jdk_43_method_2_12 ?_
  refine W1.i2c me d_jdk_43_method_2_13 ?_
  show Fi p e below s Z _ _ _ _ T1 (mkF m 14 #[.val (.ref b), .val (.int (Int32.ofNat i))] [(.int (((cs.getD i 0).toInt8.toInt32 &&& (255 : Int32)).toUInt32.toUInt16.toUInt32.toInt32))])
  have e1 := byte_back (h8.at hi)
  have e2 : ((cs.getD i 0).toInt8.toInt32 &&& (255 : Int32)).toUInt32.toUInt16.toUInt32.toInt32 = cs.getD i 0 := by rw [i2c_mask, e1]
  rw [e2]
  exact W1.retN hEL me (Or.inr (Or.inr (Or.inl rfl))) d_jdk_43_method_2_14 ⟨rfl, by rw [nar_char_of (up16 (h8.at hi))]⟩ (by decide) (by decide)

set_option maxRecDepth 65536 in
set_option maxHeartbeats 4000000 in
theorem c_charat {l : Launch} {Z : State} {a0 : Array Value} {kn : Bool} (g : Gl Z a0) {ws : List Cond} {h0 : Heap} {ss : List Addr} (hO : Old Z Z.heap.size h0) {a : Addr} {cs : List Int32} {i : Nat} (L : Lat Z h0 a cs) (hi : i < cs.length) :
    Con l Z consts_1 kn ws (⟨"java/lang/String", "charAt", "(I)C"⟩ : MethodName) jdk_42_method_56_code 2 (some .char) ({ frames := 3, cells := 0, slots := 0, locals := 40 } : Room) #[(.ref a), (.int (Int32.ofNat i))] h0 ss (rV fun v h => h0 = h ∧ v = .int (cs.getD i 0)) := by
  have hw := g.1
  have hEL := g.2.1
  refine Con.of pn_1 hO ?_
  intro p e s m below meth c T0 me W0
  refine Fi.entry (L := #[.val (.ref a), .val (.int (Int32.ofNat i))]) (by first | (simp [entryFrame, mkF, argsToLocals, Value.category, maxLocals]; done) | (simp [entryFrame, mkF, argsToLocals, Value.category]; done) | rfl) ?_
  obtain ⟨vb, kb, EX, FC, FV, AB, hl, h8⟩ := L
  refine W0.aloadN me d_jdk_42_method_56_0 rfl rfl ?_
  show Fi p e below s Z _ _ _ _ T0 (mkF m 1 #[.val (.ref a), .val (.int (Int32.ofNat i))] [(.ref a)])
  refine W0.callV me hEL (hw _ (List.mem_of_getElem? (i := 56) rfl)) (hw _ (List.mem_of_getElem? (i := 57) rfl)) (fun hZ' => notFace_of_selects (args := #[]) (mvT (s := s.setVm _) hZ' (hw _ (List.mem_of_getElem? (i := 59) rfl)))) (hw _ (List.mem_of_getElem? (i := 59) rfl)) (hw _ (List.mem_of_getElem? (i := 58) rfl)) (hw _ (List.mem_of_getElem? (i := 10) rfl)) (hw _ (List.mem_of_getElem? (i := 60) rfl)) (a := a) (argsL := []) (rest := []) EX (c_islat (ss := []) g W0.old FC) d_jdk_42_method_56_1 (by decide) (fun _ q => nomatch q) rfl (lenOf pd_7 rfl) (own_le rfl) (own_le rfl) (own_le rfl) (own_le rfl) rfl ?_
  intro T1 h1 v1 W1 z1 q1
  obtain ⟨_, rfl, rfl, rfl⟩ := q1
  show Fi p e below s Z _ _ _ _ T1 (mkF m 4 #[.val (.ref a), .val (.int (Int32.ofNat i))] [(.int (1 : Int32))])
  refine W1.ifN_eq me d_jdk_42_method_56_4 (by decide) ?_
  refine W1.aloadN me d_jdk_42_method_56_7 rfl rfl ?_
  show Fi p e below s Z _ _ _ _ T1 (mkF m 8 #[.val (.ref a), .val (.int (Int32.ofNat i))] [(.ref a)])
  refine W1.getF me (hw _ (List.mem_of_getElem? (i := 35) rfl)) FV Via.refl d_jdk_42_method_56_8 ?_
  intro T2 W2
  show Fi p e below s Z _ _ _ _ T2 (mkF m 11 #[.val (.ref a), .val (.int (Int32.ofNat i))] [(.ref vb)])
  refine W2.iloadN me d_jdk_42_method_56_11 rfl ?_
  show Fi p e below s Z _ _ _ _ T2 (mkF m 12 #[.val (.ref a), .val (.int (Int32.ofNat i))] [(.int (Int32.ofNat i)), (.ref vb)])
  refine W2.callS me hEL (hw _ (List.mem_of_getElem? (i := 61) rfl)) (hw _ (List.mem_of_getElem? (i := 62) rfl)) (hw _ (List.mem_of_getElem? (i := 63) rfl)) (hw _ (List.mem_of_getElem? (i := 64) rfl)) (argsL := [(.ref vb), (.int (Int32.ofNat i))]) (rest := []) (c_latat (ss := []) g W2.old AB hl h8 hi) d_jdk_42_method_56_12 (by decide) (fun _ q => nomatch q) rfl (lenOf pd_8 rfl) (own_le rfl) (own_le rfl) (own_le rfl) (own_le rfl) rfl ?_
  intro T3 h3 v3 W3 z3 q3
  obtain ⟨_, rfl, rfl, rfl⟩ := q3
  show Fi p e below s Z _ _ _ _ T3 (mkF m 15 #[.val (.ref a), .val (.int (Int32.ofNat i))] [(.int (cs.getD i 0))])
  exact W3.retN hEL me (Or.inr (Or.inr (Or.inl rfl))) d_jdk_42_method_56_15 ⟨rfl, by rw [nar_char_of (up16 (h8.at hi))]⟩ (by decide) (by decide)

set_option maxRecDepth 65536 in
set_option maxHeartbeats 4000000 in
theorem c_pick {l : Launch} {Z : State} {a0 : Array Value} {kn : Bool} (g : Gl Z a0) {ws : List Cond} {h0 : Heap} {ss : List Addr} (hO : Old Z Z.heap.size h0) {x : Int32} :
    Con l Z consts_1 kn ws (⟨"com/example/triplink/triplink/rules/GrammarTokensCommentStartPinLaw", "pick", "(I)C"⟩ : MethodName) method_2_code 2 (some .char) ({ frames := 0, cells := 0, slots := 0, locals := 0 } : Room) #[(.int x)] h0 ss (rV fun v h => h0 = h ∧ ∃ y, v = .int y ∧ ¬ y < 0 ∧ ¬ (255 : Int32) < y) := by
  have hw := g.1
  have hEL := g.2.1
  refine Con.of pn_4 hO ?_
  intro p e s m below meth c T0 me W0
  refine Fi.entry (L := #[.val (.int x), .unset]) (by first | (simp [entryFrame, mkF, argsToLocals, Value.category, maxLocals]; done) | (simp [entryFrame, mkF, argsToLocals, Value.category]; done) | rfl) ?_
  refine W0.iloadN me d_method_2_0 rfl ?_
  refine W0.bipush me d_method_2_1 (v := 7) rfl ?_
  refine W0.iand me d_method_2_3 ?_
  refine W0.istoreN me d_method_2_4 (l' := #[.val (.int x), .val (.int (x &&& (7 : Int32)))]) rfl ?_
  refine W0.iloadN me d_method_2_5 rfl ?_
  show Fi p e below s Z _ _ _ _ T0 (mkF m 6 #[.val (.int x), .val (.int (x &&& (7 : Int32)))] [(.int (x &&& (7 : Int32)))])
  refine W0.if_eq me d_method_2_6 (pc' := 14) (by decide) (by decide) (fun h1 => ?_) (fun h1 => ?_)
  ·
    show Fi p e below s Z _ _ _ _ T0 (mkF m 14 #[.val (.int x), .val (.int (x &&& (7 : Int32)))] [])
    refine W0.bipush me d_method_2_14 (v := 34) rfl ?_
    show Fi p e below s Z _ _ _ _ T0 (mkF m 16 #[.val (.int x), .val (.int (x &&& (7 : Int32)))] [(.int (34 : Int32))])
    exact W0.retN hEL me (Or.inr (Or.inr (Or.inl rfl))) d_method_2_16 ⟨rfl, _, rfl, by decide, by decide⟩ (by decide) (by decide)
  ·
    show Fi p e below s Z _ _ _ _ T0 (mkF m 9 #[.val (.int x), .val (.int (x &&& (7 : Int32)))] [])
    refine W0.iloadN me d_method_2_9 rfl ?_
    refine W0.iconst me d_method_2_10 (v := 1) rfl ?_
    show Fi p e below s Z _ _ _ _ T0 (mkF m 11 #[.val (.int x), .val (.int (x &&& (7 : Int32)))] [(.int (1 : Int32)), (.int (x &&& (7 : Int32)))])
    refine W0.ic_ne me d_method_2_11 (pc' := 17) (by decide) (by decide) (fun h2 => ?_) (fun h2 => ?_)
    ·
      show Fi p e below s Z _ _ _ _ T0 (mkF m 17 #[.val (.int x), .val (.int (x &&& (7 : Int32)))] [])
      refine W0.iloadN me d_method_2_17 rfl ?_
      refine W0.iconst me d_method_2_18 (v := 2) rfl ?_
      show Fi p e below s Z _ _ _ _ T0 (mkF m 19 #[.val (.int x), .val (.int (x &&& (7 : Int32)))] [(.int (2 : Int32)), (.int (x &&& (7 : Int32)))])
      refine W0.ic_ne me d_method_2_19 (pc' := 25) (by decide) (by decide) (fun h3 => ?_) (fun h3 => ?_)
      ·
        show Fi p e below s Z _ _ _ _ T0 (mkF m 25 #[.val (.int x), .val (.int (x &&& (7 : Int32)))] [])
        refine W0.iloadN me d_method_2_25 rfl ?_
        refine W0.iconst me d_method_2_26 (v := 3) rfl ?_
        show Fi p e below s Z _ _ _ _ T0 (mkF m 27 #[.val (.int x), .val (.int (x &&& (7 : Int32)))] [(.int (3 : Int32)), (.int (x &&& (7 : Int32)))])
        refine W0.ic_ne me d_method_2_27 (pc' := 33) (by decide) (by decide) (fun h4 => ?_) (fun h4 => ?_)
        ·
          show Fi p e below s Z _ _ _ _ T0 (mkF m 33 #[.val (.int x), .val (.int (x &&& (7 : Int32)))] [])
          refine W0.iloadN me d_method_2_33 rfl ?_
          refine W0.iconst me d_method_2_34 (v := 3) rfl ?_
          refine W0.iushr me d_method_2_35 ?_
          refine W0.sipush me d_method_2_36 (v := 255) rfl ?_
          refine W0.iand me d_method_2_39 ?_
          refine W0.i2c me d_method_2_40 ?_
          show Fi p e below s Z _ _ _ _ T0 (mkF m 41 #[.val (.int x), .val (.int (x &&& (7 : Int32)))] [(.int (((XT.ushr x (3 : Int32)) &&& (255 : Int32)).toUInt32.toUInt16.toUInt32.toInt32))])
          have hq := c255 (XT.ushr x (3 : Int32))
          exact W0.retN hEL me (Or.inr (Or.inr (Or.inl rfl))) d_method_2_41 ⟨rfl, _, rfl, by rw [nar_char_of (up16 hq)]; exact hq⟩ (by decide) (by decide)
        ·
          show Fi p e below s Z _ _ _ _ T0 (mkF m 30 #[.val (.int x), .val (.int (x &&& (7 : Int32)))] [])
          refine W0.bipush me d_method_2_30 (v := 35) rfl ?_
          show Fi p e below s Z _ _ _ _ T0 (mkF m 32 #[.val (.int x), .val (.int (x &&& (7 : Int32)))] [(.int (35 : Int32))])
          exact W0.retN hEL me (Or.inr (Or.inr (Or.inl rfl))) d_method_2_32 ⟨rfl, _, rfl, by decide, by decide⟩ (by decide) (by decide)
      ·
        show Fi p e below s Z _ _ _ _ T0 (mkF m 22 #[.val (.int x), .val (.int (x &&& (7 : Int32)))] [])
        refine W0.bipush me d_method_2_22 (v := 92) rfl ?_
        show Fi p e below s Z _ _ _ _ T0 (mkF m 24 #[.val (.int x), .val (.int (x &&& (7 : Int32)))] [(.int (92 : Int32))])
        exact W0.retN hEL me (Or.inr (Or.inr (Or.inl rfl))) d_method_2_24 ⟨rfl, _, rfl, by decide, by decide⟩ (by decide) (by decide)
    ·
      show Fi p e below s Z _ _ _ _ T0 (mkF m 14 #[.val (.int x), .val (.int (x &&& (7 : Int32)))] [])
      refine W0.bipush me d_method_2_14 (v := 34) rfl ?_
      show Fi p e below s Z _ _ _ _ T0 (mkF m 16 #[.val (.int x), .val (.int (x &&& (7 : Int32)))] [(.int (34 : Int32))])
      exact W0.retN hEL me (Or.inr (Or.inr (Or.inl rfl))) d_method_2_16 ⟨rfl, _, rfl, by decide, by decide⟩ (by decide) (by decide)

set_option maxRecDepth 65536 in
set_option maxHeartbeats 4000000 in
theorem c_step {l : Launch} {Z : State} {a0 : Array Value} {kn : Bool} (g : Gl Z a0) {ws : List Cond} {h0 : Heap} {ss : List Addr} (hO : Old Z Z.heap.size h0) {st ch ix : Int32} :
    Con l Z consts_1 kn ws (⟨"com/example/triplink/triplink/rules/GrammarTokensCommentStartPinLaw", "step", "(ICI)I"⟩ : MethodName) method_3_code 4 (some .int) ({ frames := 0, cells := 0, slots := 0, locals := 0 } : Room) #[(.int st), (.int ch), (.int ix)] h0 ss (rV fun v h => h0 = h ∧ v = .int (stF st ch ix)) := by
  have hw := g.1
  have hEL := g.2.1
  refine Con.of pn_4 hO ?_
  intro p e s m below meth c T0 me W0
  refine Fi.entry (L := #[.val (.int st), .val (.int ch), .val (.int ix), .unset]) (by first | (simp [entryFrame, mkF, argsToLocals, Value.category, maxLocals]; done) | (simp [entryFrame, mkF, argsToLocals, Value.category]; done) | rfl) ?_
  refine W0.iloadN me d_method_3_0 rfl ?_
  refine W0.iconst me d_method_3_1 (v := 4) rfl ?_
  show Fi p e below s Z _ _ _ _ T0 (mkF m 2 #[.val (.int st), .val (.int ch), .val (.int ix), .unset] [(.int (4 : Int32)), (.int st)])
  refine W0.ic_lt me d_method_3_2 (pc' := 7) (by decide) (by decide) (fun h1 => ?_) (fun h1 => ?_)
  ·
    show Fi p e below s Z _ _ _ _ T0 (mkF m 7 #[.val (.int st), .val (.int ch), .val (.int ix), .unset] [])
    refine W0.iloadN me d_method_3_7 rfl ?_
    refine W0.iconst me d_method_3_8 (v := 2) rfl ?_
    refine W0.iand me d_method_3_9 ?_
    show Fi p e below s Z _ _ _ _ T0 (mkF m 10 #[.val (.int st), .val (.int ch), .val (.int ix), .unset] [(.int (st &&& (2 : Int32)))])
    refine W0.if_eq me d_method_3_10 (pc' := 15) (by decide) (by decide) (fun h2 => ?_) (fun h2 => ?_)
    ·
      show Fi p e below s Z _ _ _ _ T0 (mkF m 15 #[.val (.int st), .val (.int ch), .val (.int ix), .unset] [])
      refine W0.iloadN me d_method_3_15 rfl ?_
      refine W0.iconst me d_method_3_16 (v := 1) rfl ?_
      refine W0.iand me d_method_3_17 ?_
      show Fi p e below s Z _ _ _ _ T0 (mkF m 18 #[.val (.int st), .val (.int ch), .val (.int ix), .unset] [(.int (st &&& (1 : Int32)))])
      refine W0.if_eq me d_method_3_18 (pc' := 25) (by decide) (by decide) (fun h3 => ?_) (fun h3 => ?_)
      ·
        show Fi p e below s Z _ _ _ _ T0 (mkF m 25 #[.val (.int st), .val (.int ch), .val (.int ix), .unset] [])
        refine W0.iconst me d_method_3_25 (v := 0) rfl ?_
        refine W0.istoreN me d_method_3_26 (l' := #[.val (.int st), .val (.int ch), .val (.int ix), .val (.int (0 : Int32))]) rfl ?_
        refine W0.iloadN me d_method_3_27 rfl ?_
        show Fi p e below s Z _ _ _ _ T0 (mkF m 28 #[.val (.int st), .val (.int ch), .val (.int ix), .val (.int (0 : Int32))] [(.int (0 : Int32))])
        refine W0.ifY_eq me d_method_3_28 (by decide) (pc' := 39) (by decide) (by decide) ?_
        show Fi p e below s Z _ _ _ _ T0 (mkF m 39 #[.val (.int st), .val (.int ch), .val (.int ix), .val (.int (0 : Int32))] [])
        refine W0.iloadN me d_method_3_39 rfl ?_
        refine W0.bipush me d_method_3_40 (v := 34) rfl ?_
        show Fi p e below s Z _ _ _ _ T0 (mkF m 42 #[.val (.int st), .val (.int ch), .val (.int ix), .val (.int (0 : Int32))] [(.int (34 : Int32)), (.int ch)])
        refine W0.ic_ne me d_method_3_42 (pc' := 55) (by decide) (by decide) (fun h4 => ?_) (fun h4 => ?_)
        ·
          show Fi p e below s Z _ _ _ _ T0 (mkF m 55 #[.val (.int st), .val (.int ch), .val (.int ix), .val (.int (0 : Int32))] [])
          refine W0.iloadN me d_method_3_55 rfl ?_
          refine W0.bipush me d_method_3_56 (v := 35) rfl ?_
          show Fi p e below s Z _ _ _ _ T0 (mkF m 58 #[.val (.int st), .val (.int ch), .val (.int ix), .val (.int (0 : Int32))] [(.int (35 : Int32)), (.int ch)])
          refine W0.ic_ne me d_method_3_58 (pc' := 69) (by decide) (by decide) (fun h5 => ?_) (fun h5 => ?_)
          ·
            show Fi p e below s Z _ _ _ _ T0 (mkF m 69 #[.val (.int st), .val (.int ch), .val (.int ix), .val (.int (0 : Int32))] [])
            refine W0.iloadN me d_method_3_69 rfl ?_
            show Fi p e below s Z _ _ _ _ T0 (mkF m 70 #[.val (.int st), .val (.int ch), .val (.int ix), .val (.int (0 : Int32))] [(.int st)])
            exact W0.retI hEL me d_method_3_70 ⟨rfl, by simp [stF, h1, h2, h3, h4, h5]⟩ (by decide) (by decide)
          ·
            show Fi p e below s Z _ _ _ _ T0 (mkF m 61 #[.val (.int st), .val (.int ch), .val (.int ix), .val (.int (0 : Int32))] [])
            refine W0.iloadN me d_method_3_61 rfl ?_
            show Fi p e below s Z _ _ _ _ T0 (mkF m 62 #[.val (.int st), .val (.int ch), .val (.int ix), .val (.int (0 : Int32))] [(.int (0 : Int32))])
            refine W0.ifN_ne me d_method_3_62 (by decide) ?_
            show Fi p e below s Z _ _ _ _ T0 (mkF m 65 #[.val (.int st), .val (.int ch), .val (.int ix), .val (.int (0 : Int32))] [])
            refine W0.iconst me d_method_3_65 (v := 4) rfl ?_
            refine W0.iloadN me d_method_3_66 rfl ?_
            refine W0.iadd me d_method_3_67 ?_
            show Fi p e below s Z _ _ _ _ T0 (mkF m 68 #[.val (.int st), .val (.int ch), .val (.int ix), .val (.int (0 : Int32))] [(.int ((4 : Int32) + ix))])
            show Fi p e below s Z _ _ _ _ T0 (mkF m 68 #[.val (.int st), .val (.int ch), .val (.int ix), .val (.int (0 : Int32))] [(.int ((4 : Int32) + ix))])
            exact W0.retI hEL me d_method_3_68 ⟨rfl, by simp [stF, h1, h2, h3, h4, h5]⟩ (by decide) (by decide)
        ·
          show Fi p e below s Z _ _ _ _ T0 (mkF m 45 #[.val (.int st), .val (.int ch), .val (.int ix), .val (.int (0 : Int32))] [])
          refine W0.iloadN me d_method_3_45 rfl ?_
          show Fi p e below s Z _ _ _ _ T0 (mkF m 46 #[.val (.int st), .val (.int ch), .val (.int ix), .val (.int (0 : Int32))] [(.int (0 : Int32))])
          refine W0.ifY_eq me d_method_3_46 (by decide) (pc' := 53) (by decide) (by decide) ?_
          show Fi p e below s Z _ _ _ _ T0 (mkF m 53 #[.val (.int st), .val (.int ch), .val (.int ix), .val (.int (0 : Int32))] [])
          refine W0.iconst me d_method_3_53 (v := 1) rfl ?_
          show Fi p e below s Z _ _ _ _ T0 (mkF m 54 #[.val (.int st), .val (.int ch), .val (.int ix), .val (.int (0 : Int32))] [(.int (1 : Int32))])
          show Fi p e below s Z _ _ _ _ T0 (mkF m 54 #[.val (.int st), .val (.int ch), .val (.int ix), .val (.int (0 : Int32))] [(.int (1 : Int32))])
          exact W0.retI hEL me d_method_3_54 ⟨rfl, by simp [stF, h1, h2, h3, h4]⟩ (by decide) (by decide)
      ·
        show Fi p e below s Z _ _ _ _ T0 (mkF m 21 #[.val (.int st), .val (.int ch), .val (.int ix), .unset] [])
        refine W0.iconst me d_method_3_21 (v := 1) rfl ?_
        refine W0.goto me d_method_3_22 (pc' := 26) (by decide) (by decide) ?_
        refine W0.istoreN me d_method_3_26 (l' := #[.val (.int st), .val (.int ch), .val (.int ix), .val (.int (1 : Int32))]) rfl ?_
        refine W0.iloadN me d_method_3_27 rfl ?_
        show Fi p e below s Z _ _ _ _ T0 (mkF m 28 #[.val (.int st), .val (.int ch), .val (.int ix), .val (.int (1 : Int32))] [(.int (1 : Int32))])
        refine W0.ifN_eq me d_method_3_28 (by decide) ?_
        show Fi p e below s Z _ _ _ _ T0 (mkF m 31 #[.val (.int st), .val (.int ch), .val (.int ix), .val (.int (1 : Int32))] [])
        refine W0.iloadN me d_method_3_31 rfl ?_
        refine W0.bipush me d_method_3_32 (v := 92) rfl ?_
        show Fi p e below s Z _ _ _ _ T0 (mkF m 34 #[.val (.int st), .val (.int ch), .val (.int ix), .val (.int (1 : Int32))] [(.int (92 : Int32)), (.int ch)])
        refine W0.ic_ne me d_method_3_34 (pc' := 39) (by decide) (by decide) (fun h4 => ?_) (fun h4 => ?_)
        ·
          show Fi p e below s Z _ _ _ _ T0 (mkF m 39 #[.val (.int st), .val (.int ch), .val (.int ix), .val (.int (1 : Int32))] [])
          refine W0.iloadN me d_method_3_39 rfl ?_
          refine W0.bipush me d_method_3_40 (v := 34) rfl ?_
          show Fi p e below s Z _ _ _ _ T0 (mkF m 42 #[.val (.int st), .val (.int ch), .val (.int ix), .val (.int (1 : Int32))] [(.int (34 : Int32)), (.int ch)])
          refine W0.ic_ne me d_method_3_42 (pc' := 55) (by decide) (by decide) (fun h5 => ?_) (fun h5 => ?_)
          ·
            show Fi p e below s Z _ _ _ _ T0 (mkF m 55 #[.val (.int st), .val (.int ch), .val (.int ix), .val (.int (1 : Int32))] [])
            refine W0.iloadN me d_method_3_55 rfl ?_
            refine W0.bipush me d_method_3_56 (v := 35) rfl ?_
            show Fi p e below s Z _ _ _ _ T0 (mkF m 58 #[.val (.int st), .val (.int ch), .val (.int ix), .val (.int (1 : Int32))] [(.int (35 : Int32)), (.int ch)])
            refine W0.ic_ne me d_method_3_58 (pc' := 69) (by decide) (by decide) (fun h6 => ?_) (fun h6 => ?_)
            ·
              show Fi p e below s Z _ _ _ _ T0 (mkF m 69 #[.val (.int st), .val (.int ch), .val (.int ix), .val (.int (1 : Int32))] [])
              refine W0.iloadN me d_method_3_69 rfl ?_
              show Fi p e below s Z _ _ _ _ T0 (mkF m 70 #[.val (.int st), .val (.int ch), .val (.int ix), .val (.int (1 : Int32))] [(.int st)])
              exact W0.retI hEL me d_method_3_70 ⟨rfl, by simp [stF, h1, h2, h3, h4, h5]⟩ (by decide) (by decide)
            ·
              show Fi p e below s Z _ _ _ _ T0 (mkF m 61 #[.val (.int st), .val (.int ch), .val (.int ix), .val (.int (1 : Int32))] [])
              refine W0.iloadN me d_method_3_61 rfl ?_
              show Fi p e below s Z _ _ _ _ T0 (mkF m 62 #[.val (.int st), .val (.int ch), .val (.int ix), .val (.int (1 : Int32))] [(.int (1 : Int32))])
              refine W0.ifY_ne me d_method_3_62 (by decide) (pc' := 69) (by decide) (by decide) ?_
              show Fi p e below s Z _ _ _ _ T0 (mkF m 69 #[.val (.int st), .val (.int ch), .val (.int ix), .val (.int (1 : Int32))] [])
              refine W0.iloadN me d_method_3_69 rfl ?_
              show Fi p e below s Z _ _ _ _ T0 (mkF m 70 #[.val (.int st), .val (.int ch), .val (.int ix), .val (.int (1 : Int32))] [(.int st)])
              show Fi p e below s Z _ _ _ _ T0 (mkF m 70 #[.val (.int st), .val (.int ch), .val (.int ix), .val (.int (1 : Int32))] [(.int st)])
              exact W0.retI hEL me d_method_3_70 ⟨rfl, by simp [stF, h1, h2, h3, h4, h5]⟩ (by decide) (by decide)
          ·
            show Fi p e below s Z _ _ _ _ T0 (mkF m 45 #[.val (.int st), .val (.int ch), .val (.int ix), .val (.int (1 : Int32))] [])
            refine W0.iloadN me d_method_3_45 rfl ?_
            show Fi p e below s Z _ _ _ _ T0 (mkF m 46 #[.val (.int st), .val (.int ch), .val (.int ix), .val (.int (1 : Int32))] [(.int (1 : Int32))])
            refine W0.ifN_eq me d_method_3_46 (by decide) ?_
            show Fi p e below s Z _ _ _ _ T0 (mkF m 49 #[.val (.int st), .val (.int ch), .val (.int ix), .val (.int (1 : Int32))] [])
            refine W0.iconst me d_method_3_49 (v := 0) rfl ?_
            refine W0.goto me d_method_3_50 (pc' := 54) (by decide) (by decide) ?_
            show Fi p e below s Z _ _ _ _ T0 (mkF m 54 #[.val (.int st), .val (.int ch), .val (.int ix), .val (.int (1 : Int32))] [(.int (0 : Int32))])
            show Fi p e below s Z _ _ _ _ T0 (mkF m 54 #[.val (.int st), .val (.int ch), .val (.int ix), .val (.int (1 : Int32))] [(.int (0 : Int32))])
            exact W0.retI hEL me d_method_3_54 ⟨rfl, by simp [stF, h1, h2, h3, h4, h5]⟩ (by decide) (by decide)
        ·
          show Fi p e below s Z _ _ _ _ T0 (mkF m 37 #[.val (.int st), .val (.int ch), .val (.int ix), .val (.int (1 : Int32))] [])
          refine W0.iconst me d_method_3_37 (v := 3) rfl ?_
          show Fi p e below s Z _ _ _ _ T0 (mkF m 38 #[.val (.int st), .val (.int ch), .val (.int ix), .val (.int (1 : Int32))] [(.int (3 : Int32))])
          exact W0.retI hEL me d_method_3_38 ⟨rfl, by simp [stF, h1, h2, h3, h4]⟩ (by decide) (by decide)
    ·
      show Fi p e below s Z _ _ _ _ T0 (mkF m 13 #[.val (.int st), .val (.int ch), .val (.int ix), .unset] [])
      refine W0.iconst me d_method_3_13 (v := 1) rfl ?_
      show Fi p e below s Z _ _ _ _ T0 (mkF m 14 #[.val (.int st), .val (.int ch), .val (.int ix), .unset] [(.int (1 : Int32))])
      exact W0.retI hEL me d_method_3_14 ⟨rfl, by simp [stF, h1, h2]⟩ (by decide) (by decide)
  ·
    show Fi p e below s Z _ _ _ _ T0 (mkF m 5 #[.val (.int st), .val (.int ch), .val (.int ix), .unset] [])
    refine W0.iloadN me d_method_3_5 rfl ?_
    show Fi p e below s Z _ _ _ _ T0 (mkF m 6 #[.val (.int st), .val (.int ch), .val (.int ix), .unset] [(.int st)])
    exact W0.retI hEL me d_method_3_6 ⟨rfl, by simp [stF, h1]⟩ (by decide) (by decide)

set_option maxRecDepth 65536 in
set_option maxHeartbeats 4000000 in
theorem c_cstart {l : Launch} {Z : State} {a0 : Array Value} {kn : Bool} (g : Gl Z a0) {ws : List Cond} {h0 : Heap} {ss : List Addr} (hO : Old Z Z.heap.size h0) {a : Addr} {cs : List Int32} (L : Lat Z h0 a cs) :
    Con l Z consts_1 kn ws (⟨"com/example/triplink/triplink/rules/GrammarTokens", "commentStart", "(Ljava/lang/String;)I"⟩ : MethodName) prog_10_method_2_code 4 (some .int) ({ frames := 4, cells := 0, slots := 0, locals := 53 } : Room) #[(.ref a)] h0 ss (rV fun v h => h0 = h ∧ v = .int (rF (rn cs 0 0))) := by
  have hw := g.1
  have hEL := g.2.1
  refine Con.of pn_5 hO ?_
  intro p e s m below meth c T0 me W0
  refine Fi.entry (L := #[.val (.ref a), .unset, .unset, .unset]) (by first | (simp [entryFrame, mkF, argsToLocals, Value.category, maxLocals]; done) | (simp [entryFrame, mkF, argsToLocals, Value.category]; done) | rfl) ?_
  have hl20 : cs.length < 2 ^ 20 := by obtain ⟨_, _, _, _, _, _, q, _⟩ := L; exact q
  have EX : Exa Z h0 a "java/lang/String" := by obtain ⟨_, _, q, _⟩ := L; exact q
  have exit : ∀ (i : Nat) (q : Int32) (T1 : State) (o : Slot), cs.length ≤ i → i ≤ cs.length + 1 → (q = 0 ∨ q = 1) → rF (rn (cs.drop i) q i) = rF (rn cs 0 0) → Wk p l e ({ frames := 4, cells := 0, slots := 0, locals := 53 } : Room) s m #[(.ref a)] below meth c Z consts_1 kn "com/example/triplink/triplink/rules/GrammarTokens" T1 h0 ss 0 0 → Fi p e below s Z consts_1 0 0 (rV fun v h => h0 = h ∧ v = .int (rF (rn cs 0 0))) T1 (mkF m 4 #[.val (.ref a), .val (.int q), .val (.int (Int32.ofNat i)), o] []) := by
    intro i q T1 o hi hi2 hq hr W1
    refine W1.iloadN me d_prog_10_method_2_4 rfl ?_
    refine W1.aloadN me d_prog_10_method_2_5 rfl rfl ?_
    show Fi p e below s Z _ _ _ _ T1 (mkF m 6 #[.val (.ref a), .val (.int q), .val (.int (Int32.ofNat i)), o] [(.ref a), (.int (Int32.ofNat i))])
    refine W1.callV me hEL (hw _ (List.mem_of_getElem? (i := 41) rfl)) (hw _ (List.mem_of_getElem? (i := 42) rfl)) (fun hZ' => notFace_of_selects (args := #[]) (mvT (s := s.setVm _) hZ' (hw _ (List.mem_of_getElem? (i := 44) rfl)))) (hw _ (List.mem_of_getElem? (i := 44) rfl)) (hw _ (List.mem_of_getElem? (i := 43) rfl)) (hw _ (List.mem_of_getElem? (i := 10) rfl)) (hw _ (List.mem_of_getElem? (i := 45) rfl)) (a := a) (argsL := []) (rest := [(.int (Int32.ofNat i))]) EX (c_length (ss := []) g W1.old L) d_prog_10_method_2_6 (by decide) (fun _ q => nomatch q) rfl (lenOf pd_9 rfl) (own_le rfl) (own_le rfl) (own_le rfl) (own_le rfl) rfl ?_
    intro T2 h2 v2 W2 z2 q2
    obtain ⟨_, rfl, rfl, rfl⟩ := q2
    show Fi p e below s Z _ _ _ _ T2 (mkF m 9 #[.val (.ref a), .val (.int q), .val (.int (Int32.ofNat i)), o] [(.int (Int32.ofNat cs.length)), (.int (Int32.ofNat i))])
    refine W2.icY_ge me d_prog_10_method_2_9 (on_nlt hi (by omega)) (pc' := 71) (by decide) (by decide) ?_
    refine W2.iconst me d_prog_10_method_2_71 (v := -1) rfl ?_
    show Fi p e below s Z _ _ _ _ T2 (mkF m 72 #[.val (.ref a), .val (.int q), .val (.int (Int32.ofNat i)), o] [(.int (-1 : Int32))])
    rw [rn_off hi] at hr
    exact W2.retI hEL me d_prog_10_method_2_72 ⟨rfl, by rw [← hr]; rcases hq with rfl | rfl <;> rfl⟩ (by decide) (by decide)
  have loop : ∀ (r i : Nat) (q : Int32) (T1 : State) (o : Slot), cs.length ≤ i + r → i ≤ cs.length + 1 → (q = 0 ∨ q = 1) → (o = .unset ∨ ∃ w, o = .val w ∧ w.category = 1) → rF (rn (cs.drop i) q i) = rF (rn cs 0 0) → Wk p l e ({ frames := 4, cells := 0, slots := 0, locals := 53 } : Room) s m #[(.ref a)] below meth c Z consts_1 kn "com/example/triplink/triplink/rules/GrammarTokens" T1 h0 ss 0 0 → Fi p e below s Z consts_1 0 0 (rV fun v h => h0 = h ∧ v = .int (rF (rn cs 0 0))) T1 (mkF m 4 #[.val (.ref a), .val (.int q), .val (.int (Int32.ofNat i)), o] []) := by
    intro r
    induction r with
    | zero => exact fun i q T1 o hi hi2 hq _ hr W1 => exit i q T1 o hi hi2 hq hr W1
    | succ r ih =>
      intro i q T1 o hi hi2 hq ho hr W1
      by_cases hlt : i < cs.length
      rotate_left
      · exact exit i q T1 o (by omega) hi2 hq hr W1
      refine W1.iloadN me d_prog_10_method_2_4 rfl ?_
      refine W1.aloadN me d_prog_10_method_2_5 rfl rfl ?_
      show Fi p e below s Z _ _ _ _ T1 (mkF m 6 #[.val (.ref a), .val (.int q), .val (.int (Int32.ofNat i)), o] [(.ref a), (.int (Int32.ofNat i))])
      refine W1.callV me hEL (hw _ (List.mem_of_getElem? (i := 41) rfl)) (hw _ (List.mem_of_getElem? (i := 42) rfl)) (fun hZ' => notFace_of_selects (args := #[]) (mvT (s := s.setVm _) hZ' (hw _ (List.mem_of_getElem? (i := 44) rfl)))) (hw _ (List.mem_of_getElem? (i := 44) rfl)) (hw _ (List.mem_of_getElem? (i := 43) rfl)) (hw _ (List.mem_of_getElem? (i := 10) rfl)) (hw _ (List.mem_of_getElem? (i := 45) rfl)) (a := a) (argsL := []) (rest := [(.int (Int32.ofNat i))]) EX (c_length (ss := []) g W1.old L) d_prog_10_method_2_6 (by decide) (fun _ q => nomatch q) rfl (lenOf pd_9 rfl) (own_le rfl) (own_le rfl) (own_le rfl) (own_le rfl) rfl ?_
      intro T2 h2 v2 W2 z2 q2
      obtain ⟨_, rfl, rfl, rfl⟩ := q2
      show Fi p e below s Z _ _ _ _ T2 (mkF m 9 #[.val (.ref a), .val (.int q), .val (.int (Int32.ofNat i)), o] [(.int (Int32.ofNat cs.length)), (.int (Int32.ofNat i))])
      refine W2.icN_ge me d_prog_10_method_2_9 (on_lt hlt (by omega)) ?_
      refine W2.aloadN me d_prog_10_method_2_12 rfl rfl ?_
      refine W2.iloadN me d_prog_10_method_2_13 rfl ?_
      show Fi p e below s Z _ _ _ _ T2 (mkF m 14 #[.val (.ref a), .val (.int q), .val (.int (Int32.ofNat i)), o] [(.int (Int32.ofNat i)), (.ref a)])
      refine W2.callV me hEL (hw _ (List.mem_of_getElem? (i := 51) rfl)) (hw _ (List.mem_of_getElem? (i := 52) rfl)) (fun hZ' => notFace_of_selects (args := #[]) (mvT (s := s.setVm _) hZ' (hw _ (List.mem_of_getElem? (i := 54) rfl)))) (hw _ (List.mem_of_getElem? (i := 54) rfl)) (hw _ (List.mem_of_getElem? (i := 53) rfl)) (hw _ (List.mem_of_getElem? (i := 10) rfl)) (hw _ (List.mem_of_getElem? (i := 55) rfl)) (a := a) (argsL := [(.int (Int32.ofNat i))]) (rest := []) EX (c_charat (ss := []) g W2.old L hlt) d_prog_10_method_2_14 (by decide) (fun _ q => nomatch q) rfl (lenOf pd_10 rfl) (own_le rfl) (own_le rfl) (own_le rfl) (own_le rfl) rfl ?_
      intro T3 h3 v3 W3 z3 q3
      obtain ⟨_, rfl, rfl, rfl⟩ := q3
      show Fi p e below s Z _ _ _ _ T3 (mkF m 17 #[.val (.ref a), .val (.int q), .val (.int (Int32.ofNat i)), o] [(.int (cs.getD i 0))])
      rw [rn_at hlt] at hr
      obtain ⟨x, hx⟩ : ∃ z, z = cs.getD i 0 := ⟨_, rfl⟩
      rw [← hx] at hr ⊢
      refine W3.istoreN me d_prog_10_method_2_17 (l' := #[.val (.ref a), .val (.int q), .val (.int (Int32.ofNat i)), .val (.int x)]) (XS.store1 (i := 3) rfl ho rfl) ?_
      show Fi p e below s Z _ _ _ _ T3 (mkF m 18 #[.val (.ref a), .val (.int q), .val (.int (Int32.ofNat i)), .val (.int x)] [])
      rcases hq with rfl | rfl
      ·
        show Fi p e below s Z _ _ _ _ T3 (mkF m 18 #[.val (.ref a), .val (.int (0 : Int32)), .val (.int (Int32.ofNat i)), .val (.int x)] [])
        refine W3.iloadN me d_prog_10_method_2_18 rfl ?_
        show Fi p e below s Z _ _ _ _ T3 (mkF m 19 #[.val (.ref a), .val (.int (0 : Int32)), .val (.int (Int32.ofNat i)), .val (.int x)] [(.int (0 : Int32))])
        refine W3.ifY_eq me d_prog_10_method_2_19 (by decide) (pc' := 34) (by decide) (by decide) ?_
        show Fi p e below s Z _ _ _ _ T3 (mkF m 34 #[.val (.ref a), .val (.int (0 : Int32)), .val (.int (Int32.ofNat i)), .val (.int x)] [])
        refine W3.iloadN me d_prog_10_method_2_34 rfl ?_
        refine W3.bipush me d_prog_10_method_2_35 (v := 34) rfl ?_
        show Fi p e below s Z _ _ _ _ T3 (mkF m 37 #[.val (.ref a), .val (.int (0 : Int32)), .val (.int (Int32.ofNat i)), .val (.int x)] [(.int (34 : Int32)), (.int x)])
        refine W3.ic_ne me d_prog_10_method_2_37 (pc' := 53) (by decide) (by decide) (fun h1 => ?_) (fun h1 => ?_)
        ·
          show Fi p e below s Z _ _ _ _ T3 (mkF m 53 #[.val (.ref a), .val (.int (0 : Int32)), .val (.int (Int32.ofNat i)), .val (.int x)] [])
          refine W3.iloadN me d_prog_10_method_2_53 rfl ?_
          refine W3.bipush me d_prog_10_method_2_54 (v := 35) rfl ?_
          show Fi p e below s Z _ _ _ _ T3 (mkF m 56 #[.val (.ref a), .val (.int (0 : Int32)), .val (.int (Int32.ofNat i)), .val (.int x)] [(.int (35 : Int32)), (.int x)])
          refine W3.ic_ne me d_prog_10_method_2_56 (pc' := 65) (by decide) (by decide) (fun h2 => ?_) (fun h2 => ?_)
          ·
            show Fi p e below s Z _ _ _ _ T3 (mkF m 65 #[.val (.ref a), .val (.int (0 : Int32)), .val (.int (Int32.ofNat i)), .val (.int x)] [])
            refine W3.iinc me d_prog_10_method_2_65 (v := 1) rfl rfl (l' := #[.val (.ref a), .val (.int (0 : Int32)), .val (.int ((Int32.ofNat i) + (1 : Int32))), .val (.int x)]) rfl ?_
            refine W3.goto me d_prog_10_method_2_68 (pc' := 4) (by decide) (by decide) ?_
            show Fi p e below s Z _ _ _ _ T3 (mkF m 4 #[.val (.ref a), .val (.int (0 : Int32)), .val (.int ((Int32.ofNat i) + (1 : Int32))), .val (.int x)] [])
            rw [on_succ]
            have hs : Slot.val (.int x) = .unset ∨ ∃ w, Slot.val (.int x) = .val w ∧ w.category = 1 := Or.inr ⟨_, rfl, rfl⟩
            exact ih (i + 1) 0 _ _ (by omega) (by omega) (by simp) hs (by rw [stF0, if_neg h1, if_neg h2] at hr; exact hr) W3
          ·
            show Fi p e below s Z _ _ _ _ T3 (mkF m 59 #[.val (.ref a), .val (.int (0 : Int32)), .val (.int (Int32.ofNat i)), .val (.int x)] [])
            refine W3.iloadN me d_prog_10_method_2_59 rfl ?_
            show Fi p e below s Z _ _ _ _ T3 (mkF m 60 #[.val (.ref a), .val (.int (0 : Int32)), .val (.int (Int32.ofNat i)), .val (.int x)] [(.int (0 : Int32))])
            refine W3.ifN_ne me d_prog_10_method_2_60 (by decide) ?_
            show Fi p e below s Z _ _ _ _ T3 (mkF m 63 #[.val (.ref a), .val (.int (0 : Int32)), .val (.int (Int32.ofNat i)), .val (.int x)] [])
            refine W3.iloadN me d_prog_10_method_2_63 rfl ?_
            show Fi p e below s Z _ _ _ _ T3 (mkF m 64 #[.val (.ref a), .val (.int (0 : Int32)), .val (.int (Int32.ofNat i)), .val (.int x)] [(.int (Int32.ofNat i))])
            rw [stF0, if_neg h1, if_pos h2, rn_big (found_big (by omega))] at hr
            exact W3.retI hEL me d_prog_10_method_2_64 ⟨rfl, by rw [← hr, found_res (by omega)]⟩ (by decide) (by decide)
        ·
          show Fi p e below s Z _ _ _ _ T3 (mkF m 40 #[.val (.ref a), .val (.int (0 : Int32)), .val (.int (Int32.ofNat i)), .val (.int x)] [])
          refine W3.iloadN me d_prog_10_method_2_40 rfl ?_
          show Fi p e below s Z _ _ _ _ T3 (mkF m 41 #[.val (.ref a), .val (.int (0 : Int32)), .val (.int (Int32.ofNat i)), .val (.int x)] [(.int (0 : Int32))])
          refine W3.ifN_ne me d_prog_10_method_2_41 (by decide) ?_
          show Fi p e below s Z _ _ _ _ T3 (mkF m 44 #[.val (.ref a), .val (.int (0 : Int32)), .val (.int (Int32.ofNat i)), .val (.int x)] [])
          refine W3.iconst me d_prog_10_method_2_44 (v := 1) rfl ?_
          refine W3.goto me d_prog_10_method_2_45 (pc' := 49) (by decide) (by decide) ?_
          refine W3.istoreN me d_prog_10_method_2_49 (l' := #[.val (.ref a), .val (.int (1 : Int32)), .val (.int (Int32.ofNat i)), .val (.int x)]) rfl ?_
          refine W3.goto me d_prog_10_method_2_50 (pc' := 65) (by decide) (by decide) ?_
          show Fi p e below s Z _ _ _ _ T3 (mkF m 65 #[.val (.ref a), .val (.int (1 : Int32)), .val (.int (Int32.ofNat i)), .val (.int x)] [])
          refine W3.iinc me d_prog_10_method_2_65 (v := 1) rfl rfl (l' := #[.val (.ref a), .val (.int (1 : Int32)), .val (.int ((Int32.ofNat i) + (1 : Int32))), .val (.int x)]) rfl ?_
          refine W3.goto me d_prog_10_method_2_68 (pc' := 4) (by decide) (by decide) ?_
          show Fi p e below s Z _ _ _ _ T3 (mkF m 4 #[.val (.ref a), .val (.int (1 : Int32)), .val (.int ((Int32.ofNat i) + (1 : Int32))), .val (.int x)] [])
          rw [on_succ]
          have hs : Slot.val (.int x) = .unset ∨ ∃ w, Slot.val (.int x) = .val w ∧ w.category = 1 := Or.inr ⟨_, rfl, rfl⟩
          exact ih (i + 1) 1 _ _ (by omega) (by omega) (by simp) hs (by rw [stF0, if_pos h1] at hr; exact hr) W3
      ·
        show Fi p e below s Z _ _ _ _ T3 (mkF m 18 #[.val (.ref a), .val (.int (1 : Int32)), .val (.int (Int32.ofNat i)), .val (.int x)] [])
        refine W3.iloadN me d_prog_10_method_2_18 rfl ?_
        show Fi p e below s Z _ _ _ _ T3 (mkF m 19 #[.val (.ref a), .val (.int (1 : Int32)), .val (.int (Int32.ofNat i)), .val (.int x)] [(.int (1 : Int32))])
        refine W3.ifN_eq me d_prog_10_method_2_19 (by decide) ?_
        show Fi p e below s Z _ _ _ _ T3 (mkF m 22 #[.val (.ref a), .val (.int (1 : Int32)), .val (.int (Int32.ofNat i)), .val (.int x)] [])
        refine W3.iloadN me d_prog_10_method_2_22 rfl ?_
        refine W3.bipush me d_prog_10_method_2_23 (v := 92) rfl ?_
        show Fi p e below s Z _ _ _ _ T3 (mkF m 25 #[.val (.ref a), .val (.int (1 : Int32)), .val (.int (Int32.ofNat i)), .val (.int x)] [(.int (92 : Int32)), (.int x)])
        refine W3.ic_ne me d_prog_10_method_2_25 (pc' := 34) (by decide) (by decide) (fun h1 => ?_) (fun h1 => ?_)
        ·
          show Fi p e below s Z _ _ _ _ T3 (mkF m 34 #[.val (.ref a), .val (.int (1 : Int32)), .val (.int (Int32.ofNat i)), .val (.int x)] [])
          refine W3.iloadN me d_prog_10_method_2_34 rfl ?_
          refine W3.bipush me d_prog_10_method_2_35 (v := 34) rfl ?_
          show Fi p e below s Z _ _ _ _ T3 (mkF m 37 #[.val (.ref a), .val (.int (1 : Int32)), .val (.int (Int32.ofNat i)), .val (.int x)] [(.int (34 : Int32)), (.int x)])
          refine W3.ic_ne me d_prog_10_method_2_37 (pc' := 53) (by decide) (by decide) (fun h2 => ?_) (fun h2 => ?_)
          ·
            show Fi p e below s Z _ _ _ _ T3 (mkF m 53 #[.val (.ref a), .val (.int (1 : Int32)), .val (.int (Int32.ofNat i)), .val (.int x)] [])
            refine W3.iloadN me d_prog_10_method_2_53 rfl ?_
            refine W3.bipush me d_prog_10_method_2_54 (v := 35) rfl ?_
            show Fi p e below s Z _ _ _ _ T3 (mkF m 56 #[.val (.ref a), .val (.int (1 : Int32)), .val (.int (Int32.ofNat i)), .val (.int x)] [(.int (35 : Int32)), (.int x)])
            refine W3.ic_ne me d_prog_10_method_2_56 (pc' := 65) (by decide) (by decide) (fun h3 => ?_) (fun h3 => ?_)
            ·
              show Fi p e below s Z _ _ _ _ T3 (mkF m 65 #[.val (.ref a), .val (.int (1 : Int32)), .val (.int (Int32.ofNat i)), .val (.int x)] [])
              refine W3.iinc me d_prog_10_method_2_65 (v := 1) rfl rfl (l' := #[.val (.ref a), .val (.int (1 : Int32)), .val (.int ((Int32.ofNat i) + (1 : Int32))), .val (.int x)]) rfl ?_
              refine W3.goto me d_prog_10_method_2_68 (pc' := 4) (by decide) (by decide) ?_
              show Fi p e below s Z _ _ _ _ T3 (mkF m 4 #[.val (.ref a), .val (.int (1 : Int32)), .val (.int ((Int32.ofNat i) + (1 : Int32))), .val (.int x)] [])
              rw [on_succ]
              have hs : Slot.val (.int x) = .unset ∨ ∃ w, Slot.val (.int x) = .val w ∧ w.category = 1 := Or.inr ⟨_, rfl, rfl⟩
              exact ih (i + 1) 1 _ _ (by omega) (by omega) (by simp) hs (by rw [stF1, if_neg h1, if_neg h2] at hr; exact hr) W3
            ·
              show Fi p e below s Z _ _ _ _ T3 (mkF m 59 #[.val (.ref a), .val (.int (1 : Int32)), .val (.int (Int32.ofNat i)), .val (.int x)] [])
              refine W3.iloadN me d_prog_10_method_2_59 rfl ?_
              show Fi p e below s Z _ _ _ _ T3 (mkF m 60 #[.val (.ref a), .val (.int (1 : Int32)), .val (.int (Int32.ofNat i)), .val (.int x)] [(.int (1 : Int32))])
              refine W3.ifY_ne me d_prog_10_method_2_60 (by decide) (pc' := 65) (by decide) (by decide) ?_
              show Fi p e below s Z _ _ _ _ T3 (mkF m 65 #[.val (.ref a), .val (.int (1 : Int32)), .val (.int (Int32.ofNat i)), .val (.int x)] [])
              show Fi p e below s Z _ _ _ _ T3 (mkF m 65 #[.val (.ref a), .val (.int (1 : Int32)), .val (.int (Int32.ofNat i)), .val (.int x)] [])
              refine W3.iinc me d_prog_10_method_2_65 (v := 1) rfl rfl (l' := #[.val (.ref a), .val (.int (1 : Int32)), .val (.int ((Int32.ofNat i) + (1 : Int32))), .val (.int x)]) rfl ?_
              refine W3.goto me d_prog_10_method_2_68 (pc' := 4) (by decide) (by decide) ?_
              show Fi p e below s Z _ _ _ _ T3 (mkF m 4 #[.val (.ref a), .val (.int (1 : Int32)), .val (.int ((Int32.ofNat i) + (1 : Int32))), .val (.int x)] [])
              rw [on_succ]
              have hs : Slot.val (.int x) = .unset ∨ ∃ w, Slot.val (.int x) = .val w ∧ w.category = 1 := Or.inr ⟨_, rfl, rfl⟩
              exact ih (i + 1) 1 _ _ (by omega) (by omega) (by simp) hs (by rw [stF1, if_neg h1, if_neg h2] at hr; exact hr) W3
          ·
            show Fi p e below s Z _ _ _ _ T3 (mkF m 40 #[.val (.ref a), .val (.int (1 : Int32)), .val (.int (Int32.ofNat i)), .val (.int x)] [])
            refine W3.iloadN me d_prog_10_method_2_40 rfl ?_
            show Fi p e below s Z _ _ _ _ T3 (mkF m 41 #[.val (.ref a), .val (.int (1 : Int32)), .val (.int (Int32.ofNat i)), .val (.int x)] [(.int (1 : Int32))])
            refine W3.ifY_ne me d_prog_10_method_2_41 (by decide) (pc' := 48) (by decide) (by decide) ?_
            show Fi p e below s Z _ _ _ _ T3 (mkF m 48 #[.val (.ref a), .val (.int (1 : Int32)), .val (.int (Int32.ofNat i)), .val (.int x)] [])
            refine W3.iconst me d_prog_10_method_2_48 (v := 0) rfl ?_
            refine W3.istoreN me d_prog_10_method_2_49 (l' := #[.val (.ref a), .val (.int (0 : Int32)), .val (.int (Int32.ofNat i)), .val (.int x)]) rfl ?_
            refine W3.goto me d_prog_10_method_2_50 (pc' := 65) (by decide) (by decide) ?_
            show Fi p e below s Z _ _ _ _ T3 (mkF m 65 #[.val (.ref a), .val (.int (0 : Int32)), .val (.int (Int32.ofNat i)), .val (.int x)] [])
            refine W3.iinc me d_prog_10_method_2_65 (v := 1) rfl rfl (l' := #[.val (.ref a), .val (.int (0 : Int32)), .val (.int ((Int32.ofNat i) + (1 : Int32))), .val (.int x)]) rfl ?_
            refine W3.goto me d_prog_10_method_2_68 (pc' := 4) (by decide) (by decide) ?_
            show Fi p e below s Z _ _ _ _ T3 (mkF m 4 #[.val (.ref a), .val (.int (0 : Int32)), .val (.int ((Int32.ofNat i) + (1 : Int32))), .val (.int x)] [])
            rw [on_succ]
            have hs : Slot.val (.int x) = .unset ∨ ∃ w, Slot.val (.int x) = .val w ∧ w.category = 1 := Or.inr ⟨_, rfl, rfl⟩
            exact ih (i + 1) 0 _ _ (by omega) (by omega) (by simp) hs (by rw [stF1, if_neg h1, if_pos h2] at hr; exact hr) W3
        ·
          show Fi p e below s Z _ _ _ _ T3 (mkF m 28 #[.val (.ref a), .val (.int (1 : Int32)), .val (.int (Int32.ofNat i)), .val (.int x)] [])
          refine W3.iinc me d_prog_10_method_2_28 (v := 1) rfl rfl (l' := #[.val (.ref a), .val (.int (1 : Int32)), .val (.int ((Int32.ofNat i) + (1 : Int32))), .val (.int x)]) rfl ?_
          refine W3.goto me d_prog_10_method_2_31 (pc' := 65) (by decide) (by decide) ?_
          show Fi p e below s Z _ _ _ _ T3 (mkF m 65 #[.val (.ref a), .val (.int (1 : Int32)), .val (.int ((Int32.ofNat i) + (1 : Int32))), .val (.int x)] [])
          have h2 : rF (rn (cs.drop (i + 2)) 1 (i + 2)) = rF (rn cs 0 0) := by
            rw [stF1, if_pos h1] at hr
            by_cases h3 : i + 1 < cs.length
            · rw [rn_at h3, stF3] at hr; exact hr
            · rw [rn_off (by omega)] at hr
              rw [rn_off (by omega)]
              exact hr
          refine W3.iinc me d_prog_10_method_2_65 (v := 1) rfl rfl (l' := #[.val (.ref a), .val (.int (1 : Int32)), .val (.int (((Int32.ofNat i) + (1 : Int32)) + (1 : Int32))), .val (.int x)]) rfl ?_
          refine W3.goto me d_prog_10_method_2_68 (pc' := 4) (by decide) (by decide) ?_
          show Fi p e below s Z _ _ _ _ T3 (mkF m 4 #[.val (.ref a), .val (.int (1 : Int32)), .val (.int (((Int32.ofNat i) + (1 : Int32)) + (1 : Int32))), .val (.int x)] [])
          rw [on_succ, on_succ]
          have hs : Slot.val (.int x) = .unset ∨ ∃ w, Slot.val (.int x) = .val w ∧ w.category = 1 := Or.inr ⟨_, rfl, rfl⟩
          exact ih (i + 2) 1 _ _ (by omega) (by omega) (by simp) hs (by exact h2) W3
  refine W0.iconst me d_prog_10_method_2_0 (v := 0) rfl ?_
  refine W0.istoreN me d_prog_10_method_2_1 (l' := #[.val (.ref a), .val (.int (0 : Int32)), .unset, .unset]) rfl ?_
  refine W0.iconst me d_prog_10_method_2_2 (v := 0) rfl ?_
  refine W0.istoreN me d_prog_10_method_2_3 (l' := #[.val (.ref a), .val (.int (0 : Int32)), .val (.int (0 : Int32)), .unset]) rfl ?_
  show Fi p e below s Z _ _ _ _ T0 (mkF m 4 #[.val (.ref a), .val (.int (0 : Int32)), .val (.int (0 : Int32)), .unset] [])
  exact loop (cs.length) 0 0 _ _ (by omega) (by omega) (Or.inl rfl) (Or.inl rfl) rfl W0
set_option maxRecDepth 65536 in
set_option maxHeartbeats 4000000 in
theorem c_law {l : Launch} {Z : State} {a0 : Array Value} {kn : Bool} (g : Gl Z a0) {ws : List Cond} {h0 : Heap} {ss : List Addr} (hO : Old Z Z.heap.size h0) (p0 p1 p2 p3 p4 p5 : Int32) :
    Con l Z consts_1 kn ws x code maxLocals ret room_1 #[(.int p0), (.int p1), (.int p2), (.int p3), (.int p4), (.int p5)] h0 ss (rV fun v h => v = .int 1) := by
  have hw := g.1
  have hEL := g.2.1
  refine Con.of pn_4 hO ?_
  intro p e s m below meth c T0 me W0
  refine Fi.entry (L := #[.val (.int p0), .val (.int p1), .val (.int p2), .val (.int p3), .val (.int p4), .val (.int p5), .unset, .unset, .unset, .unset, .unset, .unset, .unset, .unset, .unset, .unset]) (by first | (simp [entryFrame, mkF, argsToLocals, Value.category, maxLocals]; done) | (simp [entryFrame, mkF, argsToLocals, Value.category]; done) | rfl) ?_
  refine W0.iload me at_0 rfl ?_
  refine W0.bipush me at_2 (v := 7) rfl ?_
  refine W0.iand me at_4 ?_
  refine W0.bipush me at_5 (v := 6) rfl ?_
  refine W0.irem me at_7 (by decide) ?_
  show Fi p e below s Z _ _ _ _ T0 (mkF m 8 #[.val (.int p0), .val (.int p1), .val (.int p2), .val (.int p3), .val (.int p4), .val (.int p5), .unset, .unset, .unset, .unset, .unset, .unset, .unset, .unset, .unset, .unset] [(.int ((p5 &&& (7 : Int32)) % (6 : Int32)))])
  obtain ⟨n, hn⟩ : ∃ z, z = ((p5 &&& (7 : Int32)) % (6 : Int32)) := ⟨_, rfl⟩
  rw [← hn]
  have hn5 : n = 0 ∨ n = 1 ∨ n = 2 ∨ n = 3 ∨ n = 4 ∨ n = 5 := hn ▸ own_n5 p5
  refine W0.istore me at_8 (l' := #[.val (.int p0), .val (.int p1), .val (.int p2), .val (.int p3), .val (.int p4), .val (.int p5), .val (.int n), .unset, .unset, .unset, .unset, .unset, .unset, .unset, .unset, .unset]) rfl ?_
  refine W0.iloadN me at_10 rfl ?_
  show Fi p e below s Z _ _ _ _ T0 (mkF m 11 #[.val (.int p0), .val (.int p1), .val (.int p2), .val (.int p3), .val (.int p4), .val (.int p5), .val (.int n), .unset, .unset, .unset, .unset, .unset, .unset, .unset, .unset, .unset] [(.int p0)])
  refine W0.callS me hEL (hw _ (List.mem_of_getElem? (i := 0) rfl)) (hw _ (List.mem_of_getElem? (i := 1) rfl)) (hw _ (List.mem_of_getElem? (i := 2) rfl)) (hw _ (List.mem_of_getElem? (i := 3) rfl)) (argsL := [(.int p0)]) (rest := []) (c_pick (ss := []) g W0.old) at_11 (by decide) (fun _ q => nomatch q) rfl (lenOf pd_10 rfl) (own_le rfl) (own_le rfl) (own_le rfl) (own_le rfl) rfl ?_
  intro T1 h1 v1 W1 z1 q1
  obtain ⟨_, rfl, rfl, c0, rfl, q0⟩ := q1
  show Fi p e below s Z _ _ _ _ T1 (mkF m 14 #[.val (.int p0), .val (.int p1), .val (.int p2), .val (.int p3), .val (.int p4), .val (.int p5), .val (.int n), .unset, .unset, .unset, .unset, .unset, .unset, .unset, .unset, .unset] [(.int c0)])
  refine W1.istore me at_14 (l' := #[.val (.int p0), .val (.int p1), .val (.int p2), .val (.int p3), .val (.int p4), .val (.int p5), .val (.int n), .val (.int c0), .unset, .unset, .unset, .unset, .unset, .unset, .unset, .unset]) rfl ?_
  refine W1.iloadN me at_16 rfl ?_
  show Fi p e below s Z _ _ _ _ T1 (mkF m 17 #[.val (.int p0), .val (.int p1), .val (.int p2), .val (.int p3), .val (.int p4), .val (.int p5), .val (.int n), .val (.int c0), .unset, .unset, .unset, .unset, .unset, .unset, .unset, .unset] [(.int p1)])
  refine W1.callS me hEL (hw _ (List.mem_of_getElem? (i := 0) rfl)) (hw _ (List.mem_of_getElem? (i := 1) rfl)) (hw _ (List.mem_of_getElem? (i := 2) rfl)) (hw _ (List.mem_of_getElem? (i := 3) rfl)) (argsL := [(.int p1)]) (rest := []) (c_pick (ss := []) g W1.old) at_17 (by decide) (fun _ q => nomatch q) rfl (lenOf pd_10 rfl) (own_le rfl) (own_le rfl) (own_le rfl) (own_le rfl) rfl ?_
  intro T2 h2 v2 W2 z2 q2
  obtain ⟨_, rfl, rfl, c1, rfl, q1⟩ := q2
  show Fi p e below s Z _ _ _ _ T2 (mkF m 20 #[.val (.int p0), .val (.int p1), .val (.int p2), .val (.int p3), .val (.int p4), .val (.int p5), .val (.int n), .val (.int c0), .unset, .unset, .unset, .unset, .unset, .unset, .unset, .unset] [(.int c1)])
  refine W2.istore me at_20 (l' := #[.val (.int p0), .val (.int p1), .val (.int p2), .val (.int p3), .val (.int p4), .val (.int p5), .val (.int n), .val (.int c0), .val (.int c1), .unset, .unset, .unset, .unset, .unset, .unset, .unset]) rfl ?_
  refine W2.iloadN me at_22 rfl ?_
  show Fi p e below s Z _ _ _ _ T2 (mkF m 23 #[.val (.int p0), .val (.int p1), .val (.int p2), .val (.int p3), .val (.int p4), .val (.int p5), .val (.int n), .val (.int c0), .val (.int c1), .unset, .unset, .unset, .unset, .unset, .unset, .unset] [(.int p2)])
  refine W2.callS me hEL (hw _ (List.mem_of_getElem? (i := 0) rfl)) (hw _ (List.mem_of_getElem? (i := 1) rfl)) (hw _ (List.mem_of_getElem? (i := 2) rfl)) (hw _ (List.mem_of_getElem? (i := 3) rfl)) (argsL := [(.int p2)]) (rest := []) (c_pick (ss := []) g W2.old) at_23 (by decide) (fun _ q => nomatch q) rfl (lenOf pd_10 rfl) (own_le rfl) (own_le rfl) (own_le rfl) (own_le rfl) rfl ?_
  intro T3 h3 v3 W3 z3 q3
  obtain ⟨_, rfl, rfl, c2, rfl, q2⟩ := q3
  show Fi p e below s Z _ _ _ _ T3 (mkF m 26 #[.val (.int p0), .val (.int p1), .val (.int p2), .val (.int p3), .val (.int p4), .val (.int p5), .val (.int n), .val (.int c0), .val (.int c1), .unset, .unset, .unset, .unset, .unset, .unset, .unset] [(.int c2)])
  refine W3.istore me at_26 (l' := #[.val (.int p0), .val (.int p1), .val (.int p2), .val (.int p3), .val (.int p4), .val (.int p5), .val (.int n), .val (.int c0), .val (.int c1), .val (.int c2), .unset, .unset, .unset, .unset, .unset, .unset]) rfl ?_
  refine W3.iloadN me at_28 rfl ?_
  show Fi p e below s Z _ _ _ _ T3 (mkF m 29 #[.val (.int p0), .val (.int p1), .val (.int p2), .val (.int p3), .val (.int p4), .val (.int p5), .val (.int n), .val (.int c0), .val (.int c1), .val (.int c2), .unset, .unset, .unset, .unset, .unset, .unset] [(.int p3)])
  refine W3.callS me hEL (hw _ (List.mem_of_getElem? (i := 0) rfl)) (hw _ (List.mem_of_getElem? (i := 1) rfl)) (hw _ (List.mem_of_getElem? (i := 2) rfl)) (hw _ (List.mem_of_getElem? (i := 3) rfl)) (argsL := [(.int p3)]) (rest := []) (c_pick (ss := []) g W3.old) at_29 (by decide) (fun _ q => nomatch q) rfl (lenOf pd_10 rfl) (own_le rfl) (own_le rfl) (own_le rfl) (own_le rfl) rfl ?_
  intro T4 h4 v4 W4 z4 q4
  obtain ⟨_, rfl, rfl, c3, rfl, q3⟩ := q4
  show Fi p e below s Z _ _ _ _ T4 (mkF m 32 #[.val (.int p0), .val (.int p1), .val (.int p2), .val (.int p3), .val (.int p4), .val (.int p5), .val (.int n), .val (.int c0), .val (.int c1), .val (.int c2), .unset, .unset, .unset, .unset, .unset, .unset] [(.int c3)])
  refine W4.istore me at_32 (l' := #[.val (.int p0), .val (.int p1), .val (.int p2), .val (.int p3), .val (.int p4), .val (.int p5), .val (.int n), .val (.int c0), .val (.int c1), .val (.int c2), .val (.int c3), .unset, .unset, .unset, .unset, .unset]) rfl ?_
  refine W4.iload me at_34 rfl ?_
  show Fi p e below s Z _ _ _ _ T4 (mkF m 36 #[.val (.int p0), .val (.int p1), .val (.int p2), .val (.int p3), .val (.int p4), .val (.int p5), .val (.int n), .val (.int c0), .val (.int c1), .val (.int c2), .val (.int c3), .unset, .unset, .unset, .unset, .unset] [(.int p4)])
  refine W4.callS me hEL (hw _ (List.mem_of_getElem? (i := 0) rfl)) (hw _ (List.mem_of_getElem? (i := 1) rfl)) (hw _ (List.mem_of_getElem? (i := 2) rfl)) (hw _ (List.mem_of_getElem? (i := 3) rfl)) (argsL := [(.int p4)]) (rest := []) (c_pick (ss := []) g W4.old) at_36 (by decide) (fun _ q => nomatch q) rfl (lenOf pd_10 rfl) (own_le rfl) (own_le rfl) (own_le rfl) (own_le rfl) rfl ?_
  intro T5 h5 v5 W5 z5 q5
  obtain ⟨_, rfl, rfl, c4, rfl, q4⟩ := q5
  show Fi p e below s Z _ _ _ _ T5 (mkF m 39 #[.val (.int p0), .val (.int p1), .val (.int p2), .val (.int p3), .val (.int p4), .val (.int p5), .val (.int n), .val (.int c0), .val (.int c1), .val (.int c2), .val (.int c3), .unset, .unset, .unset, .unset, .unset] [(.int c4)])
  refine W5.istore me at_39 (l' := #[.val (.int p0), .val (.int p1), .val (.int p2), .val (.int p3), .val (.int p4), .val (.int p5), .val (.int n), .val (.int c0), .val (.int c1), .val (.int c2), .val (.int c3), .val (.int c4), .unset, .unset, .unset, .unset]) rfl ?_
  show Fi p e below s Z _ _ _ _ T5 (mkF m 41 #[.val (.int p0), .val (.int p1), .val (.int p2), .val (.int p3), .val (.int p4), .val (.int p5), .val (.int n), .val (.int c0), .val (.int c1), .val (.int c2), .val (.int c3), .val (.int c4), .unset, .unset, .unset, .unset] [])
  rcases hn5 with rfl | rfl | rfl | rfl | rfl | rfl
  ·
    show Fi p e below s Z _ _ _ _ T5 (mkF m 41 #[.val (.int p0), .val (.int p1), .val (.int p2), .val (.int p3), .val (.int p4), .val (.int p5), .val (.int (0 : Int32)), .val (.int c0), .val (.int c1), .val (.int c2), .val (.int c3), .val (.int c4), .unset, .unset, .unset, .unset] [])
    refine W5.iload me at_41 rfl ?_
    show Fi p e below s Z _ _ _ _ T5 (mkF m 43 #[.val (.int p0), .val (.int p1), .val (.int p2), .val (.int p3), .val (.int p4), .val (.int p5), .val (.int (0 : Int32)), .val (.int c0), .val (.int c1), .val (.int c2), .val (.int c3), .val (.int c4), .unset, .unset, .unset, .unset] [(.int (0 : Int32))])
    refine W5.newA me (hw _ (List.mem_of_getElem? (i := 4) rfl)) at_43 (by decide) (cap := 5) (by decide) (own_le rfl) (own_le rfl) (own_le rfl) ?_
    intro T6 h6 a6 k6 g6 W6 E6 A6
    show Fi p e below s Z _ _ _ _ T6 (mkF m 45 #[.val (.int p0), .val (.int p1), .val (.int p2), .val (.int p3), .val (.int p4), .val (.int p5), .val (.int (0 : Int32)), .val (.int c0), .val (.int c1), .val (.int c2), .val (.int c3), .val (.int c4), .unset, .unset, .unset, .unset] [(.ref a6)])
    have hz6 : Z.heap.size ≤ a6 := by have := hO.2.1; omega
    refine W6.astore me at_45 (l' := #[.val (.int p0), .val (.int p1), .val (.int p2), .val (.int p3), .val (.int p4), .val (.int p5), .val (.int (0 : Int32)), .val (.int c0), .val (.int c1), .val (.int c2), .val (.int c3), .val (.int c4), .val (.ref a6), .unset, .unset, .unset]) rfl rfl ?_
    refine W6.iload me at_47 rfl ?_
    show Fi p e below s Z _ _ _ _ T6 (mkF m 49 #[.val (.int p0), .val (.int p1), .val (.int p2), .val (.int p3), .val (.int p4), .val (.int p5), .val (.int (0 : Int32)), .val (.int c0), .val (.int c1), .val (.int c2), .val (.int c3), .val (.int c4), .val (.ref a6), .unset, .unset, .unset] [(.int (0 : Int32))])
    refine W6.ifY_le me at_49 (by decide) (pc' := 58) (by decide) (by decide) ?_
    show Fi p e below s Z _ _ _ _ T6 (mkF m 58 #[.val (.int p0), .val (.int p1), .val (.int p2), .val (.int p3), .val (.int p4), .val (.int p5), .val (.int (0 : Int32)), .val (.int c0), .val (.int c1), .val (.int c2), .val (.int c3), .val (.int c4), .val (.ref a6), .unset, .unset, .unset] [])
    refine W6.iload me at_58 rfl ?_
    refine W6.iconst me at_60 (v := 1) rfl ?_
    show Fi p e below s Z _ _ _ _ T6 (mkF m 61 #[.val (.int p0), .val (.int p1), .val (.int p2), .val (.int p3), .val (.int p4), .val (.int p5), .val (.int (0 : Int32)), .val (.int c0), .val (.int c1), .val (.int c2), .val (.int c3), .val (.int c4), .val (.ref a6), .unset, .unset, .unset] [(.int (1 : Int32)), (.int (0 : Int32))])
    refine W6.icY_le me at_61 (by decide) (pc' := 70) (by decide) (by decide) ?_
    show Fi p e below s Z _ _ _ _ T6 (mkF m 70 #[.val (.int p0), .val (.int p1), .val (.int p2), .val (.int p3), .val (.int p4), .val (.int p5), .val (.int (0 : Int32)), .val (.int c0), .val (.int c1), .val (.int c2), .val (.int c3), .val (.int c4), .val (.ref a6), .unset, .unset, .unset] [])
    refine W6.iload me at_70 rfl ?_
    refine W6.iconst me at_72 (v := 2) rfl ?_
    show Fi p e below s Z _ _ _ _ T6 (mkF m 73 #[.val (.int p0), .val (.int p1), .val (.int p2), .val (.int p3), .val (.int p4), .val (.int p5), .val (.int (0 : Int32)), .val (.int c0), .val (.int c1), .val (.int c2), .val (.int c3), .val (.int c4), .val (.ref a6), .unset, .unset, .unset] [(.int (2 : Int32)), (.int (0 : Int32))])
    refine W6.icY_le me at_73 (by decide) (pc' := 82) (by decide) (by decide) ?_
    show Fi p e below s Z _ _ _ _ T6 (mkF m 82 #[.val (.int p0), .val (.int p1), .val (.int p2), .val (.int p3), .val (.int p4), .val (.int p5), .val (.int (0 : Int32)), .val (.int c0), .val (.int c1), .val (.int c2), .val (.int c3), .val (.int c4), .val (.ref a6), .unset, .unset, .unset] [])
    refine W6.iload me at_82 rfl ?_
    refine W6.iconst me at_84 (v := 3) rfl ?_
    show Fi p e below s Z _ _ _ _ T6 (mkF m 85 #[.val (.int p0), .val (.int p1), .val (.int p2), .val (.int p3), .val (.int p4), .val (.int p5), .val (.int (0 : Int32)), .val (.int c0), .val (.int c1), .val (.int c2), .val (.int c3), .val (.int c4), .val (.ref a6), .unset, .unset, .unset] [(.int (3 : Int32)), (.int (0 : Int32))])
    refine W6.icY_le me at_85 (by decide) (pc' := 94) (by decide) (by decide) ?_
    show Fi p e below s Z _ _ _ _ T6 (mkF m 94 #[.val (.int p0), .val (.int p1), .val (.int p2), .val (.int p3), .val (.int p4), .val (.int p5), .val (.int (0 : Int32)), .val (.int c0), .val (.int c1), .val (.int c2), .val (.int c3), .val (.int c4), .val (.ref a6), .unset, .unset, .unset] [])
    refine W6.iload me at_94 rfl ?_
    refine W6.iconst me at_96 (v := 4) rfl ?_
    show Fi p e below s Z _ _ _ _ T6 (mkF m 97 #[.val (.int p0), .val (.int p1), .val (.int p2), .val (.int p3), .val (.int p4), .val (.int p5), .val (.int (0 : Int32)), .val (.int c0), .val (.int c1), .val (.int c2), .val (.int c3), .val (.int c4), .val (.ref a6), .unset, .unset, .unset] [(.int (4 : Int32)), (.int (0 : Int32))])
    refine W6.icY_le me at_97 (by decide) (pc' := 106) (by decide) (by decide) ?_
    show Fi p e below s Z _ _ _ _ T6 (mkF m 106 #[.val (.int p0), .val (.int p1), .val (.int p2), .val (.int p3), .val (.int p4), .val (.int p5), .val (.int (0 : Int32)), .val (.int c0), .val (.int c1), .val (.int c2), .val (.int c3), .val (.int c4), .val (.ref a6), .unset, .unset, .unset] [])
    refine W6.iconst me at_106 (v := 0) rfl ?_
    refine W6.istore me at_107 (l' := #[.val (.int p0), .val (.int p1), .val (.int p2), .val (.int p3), .val (.int p4), .val (.int p5), .val (.int (0 : Int32)), .val (.int c0), .val (.int c1), .val (.int c2), .val (.int c3), .val (.int c4), .val (.ref a6), .val (.int (0 : Int32)), .unset, .unset]) rfl ?_
    refine W6.iload me at_109 rfl ?_
    show Fi p e below s Z _ _ _ _ T6 (mkF m 111 #[.val (.int p0), .val (.int p1), .val (.int p2), .val (.int p3), .val (.int p4), .val (.int p5), .val (.int (0 : Int32)), .val (.int c0), .val (.int c1), .val (.int c2), .val (.int c3), .val (.int c4), .val (.ref a6), .val (.int (0 : Int32)), .unset, .unset] [(.int (0 : Int32))])
    refine W6.ifY_le me at_111 (by decide) (pc' := 124) (by decide) (by decide) ?_
    show Fi p e below s Z _ _ _ _ T6 (mkF m 124 #[.val (.int p0), .val (.int p1), .val (.int p2), .val (.int p3), .val (.int p4), .val (.int p5), .val (.int (0 : Int32)), .val (.int c0), .val (.int c1), .val (.int c2), .val (.int c3), .val (.int c4), .val (.ref a6), .val (.int (0 : Int32)), .unset, .unset] [])
    refine W6.iload me at_124 rfl ?_
    refine W6.iconst me at_126 (v := 1) rfl ?_
    show Fi p e below s Z _ _ _ _ T6 (mkF m 127 #[.val (.int p0), .val (.int p1), .val (.int p2), .val (.int p3), .val (.int p4), .val (.int p5), .val (.int (0 : Int32)), .val (.int c0), .val (.int c1), .val (.int c2), .val (.int c3), .val (.int c4), .val (.ref a6), .val (.int (0 : Int32)), .unset, .unset] [(.int (1 : Int32)), (.int (0 : Int32))])
    refine W6.icY_le me at_127 (by decide) (pc' := 140) (by decide) (by decide) ?_
    show Fi p e below s Z _ _ _ _ T6 (mkF m 140 #[.val (.int p0), .val (.int p1), .val (.int p2), .val (.int p3), .val (.int p4), .val (.int p5), .val (.int (0 : Int32)), .val (.int c0), .val (.int c1), .val (.int c2), .val (.int c3), .val (.int c4), .val (.ref a6), .val (.int (0 : Int32)), .unset, .unset] [])
    refine W6.iload me at_140 rfl ?_
    refine W6.iconst me at_142 (v := 2) rfl ?_
    show Fi p e below s Z _ _ _ _ T6 (mkF m 143 #[.val (.int p0), .val (.int p1), .val (.int p2), .val (.int p3), .val (.int p4), .val (.int p5), .val (.int (0 : Int32)), .val (.int c0), .val (.int c1), .val (.int c2), .val (.int c3), .val (.int c4), .val (.ref a6), .val (.int (0 : Int32)), .unset, .unset] [(.int (2 : Int32)), (.int (0 : Int32))])
    refine W6.icY_le me at_143 (by decide) (pc' := 156) (by decide) (by decide) ?_
    show Fi p e below s Z _ _ _ _ T6 (mkF m 156 #[.val (.int p0), .val (.int p1), .val (.int p2), .val (.int p3), .val (.int p4), .val (.int p5), .val (.int (0 : Int32)), .val (.int c0), .val (.int c1), .val (.int c2), .val (.int c3), .val (.int c4), .val (.ref a6), .val (.int (0 : Int32)), .unset, .unset] [])
    refine W6.iload me at_156 rfl ?_
    refine W6.iconst me at_158 (v := 3) rfl ?_
    show Fi p e below s Z _ _ _ _ T6 (mkF m 159 #[.val (.int p0), .val (.int p1), .val (.int p2), .val (.int p3), .val (.int p4), .val (.int p5), .val (.int (0 : Int32)), .val (.int c0), .val (.int c1), .val (.int c2), .val (.int c3), .val (.int c4), .val (.ref a6), .val (.int (0 : Int32)), .unset, .unset] [(.int (3 : Int32)), (.int (0 : Int32))])
    refine W6.icY_le me at_159 (by decide) (pc' := 172) (by decide) (by decide) ?_
    show Fi p e below s Z _ _ _ _ T6 (mkF m 172 #[.val (.int p0), .val (.int p1), .val (.int p2), .val (.int p3), .val (.int p4), .val (.int p5), .val (.int (0 : Int32)), .val (.int c0), .val (.int c1), .val (.int c2), .val (.int c3), .val (.int c4), .val (.ref a6), .val (.int (0 : Int32)), .unset, .unset] [])
    refine W6.iload me at_172 rfl ?_
    refine W6.iconst me at_174 (v := 4) rfl ?_
    show Fi p e below s Z _ _ _ _ T6 (mkF m 175 #[.val (.int p0), .val (.int p1), .val (.int p2), .val (.int p3), .val (.int p4), .val (.int p5), .val (.int (0 : Int32)), .val (.int c0), .val (.int c1), .val (.int c2), .val (.int c3), .val (.int c4), .val (.ref a6), .val (.int (0 : Int32)), .unset, .unset] [(.int (4 : Int32)), (.int (0 : Int32))])
    refine W6.icY_le me at_175 (by decide) (pc' := 188) (by decide) (by decide) ?_
    show Fi p e below s Z _ _ _ _ T6 (mkF m 188 #[.val (.int p0), .val (.int p1), .val (.int p2), .val (.int p3), .val (.int p4), .val (.int p5), .val (.int (0 : Int32)), .val (.int c0), .val (.int c1), .val (.int c2), .val (.int c3), .val (.int c4), .val (.ref a6), .val (.int (0 : Int32)), .unset, .unset] [])
    show Fi p e below s Z _ _ _ _ T6 (mkF m 188 #[.val (.int p0), .val (.int p1), .val (.int p2), .val (.int p3), .val (.int p4), .val (.int p5), .val (.int (0 : Int32)), .val (.int c0), .val (.int c1), .val (.int c2), .val (.int c3), .val (.int c4), .val (.ref a6), .val (.int (0 : Int32)), .unset, .unset] [])
    obtain ⟨st, hst⟩ : ∃ z, z = (0 : Int32) := ⟨_, rfl⟩
    have hrn : rn [] 0 0 = st := hst ▸ rfl
    show Fi p e below s Z _ _ _ _ T6 (mkF m 188 #[.val (.int p0), .val (.int p1), .val (.int p2), .val (.int p3), .val (.int p4), .val (.int p5), .val (.int (0 : Int32)), .val (.int c0), .val (.int c1), .val (.int c2), .val (.int c3), .val (.int c4), .val (.ref a6), .val (.int (0 : Int32)), .unset, .unset] [])
    refine W6.iload me at_188 rfl ?_
    refine W6.iconst me at_190 (v := 4) rfl ?_
    show Fi p e below s Z _ _ _ _ T6 (mkF m 191 #[.val (.int p0), .val (.int p1), .val (.int p2), .val (.int p3), .val (.int p4), .val (.int p5), .val (.int (0 : Int32)), .val (.int c0), .val (.int c1), .val (.int c2), .val (.int c3), .val (.int c4), .val (.ref a6), .val (.int (0 : Int32)), .unset, .unset] [(.int (4 : Int32)), (.int (0 : Int32))])
    refine W6.icY_lt me at_191 (by decide) (pc' := 201) (by decide) (by decide) ?_
    show Fi p e below s Z _ _ _ _ T6 (mkF m 201 #[.val (.int p0), .val (.int p1), .val (.int p2), .val (.int p3), .val (.int p4), .val (.int p5), .val (.int (0 : Int32)), .val (.int c0), .val (.int c1), .val (.int c2), .val (.int c3), .val (.int c4), .val (.ref a6), .val (.int (0 : Int32)), .unset, .unset] [])
    refine W6.iconst me at_201 (v := -1) rfl ?_
    refine W6.istore me at_202 (l' := #[.val (.int p0), .val (.int p1), .val (.int p2), .val (.int p3), .val (.int p4), .val (.int p5), .val (.int (0 : Int32)), .val (.int c0), .val (.int c1), .val (.int c2), .val (.int c3), .val (.int c4), .val (.ref a6), .val (.int (0 : Int32)), .val (.int (-1 : Int32)), .unset]) rfl ?_
    show Fi p e below s Z _ _ _ _ T6 (mkF m 204 #[.val (.int p0), .val (.int p1), .val (.int p2), .val (.int p3), .val (.int p4), .val (.int p5), .val (.int (0 : Int32)), .val (.int c0), .val (.int c1), .val (.int c2), .val (.int c3), .val (.int c4), .val (.ref a6), .val (.int (0 : Int32)), .val (.int (-1 : Int32)), .unset] [])
    show Fi p e below s Z _ _ _ _ T6 (mkF m 204 #[.val (.int p0), .val (.int p1), .val (.int p2), .val (.int p3), .val (.int p4), .val (.int p5), .val (.int (0 : Int32)), .val (.int c0), .val (.int c1), .val (.int c2), .val (.int c3), .val (.int c4), .val (.ref a6), .val (.int (0 : Int32)), .val (.int (-1 : Int32)), .unset] [])
    refine W6.newO me (hw _ (List.mem_of_getElem? (i := 8) rfl)) (hw _ (List.mem_of_getElem? (i := 9) rfl)) (hw _ (List.mem_of_getElem? (i := 10) rfl)) at_204 (own_le rfl) (own_le rfl) ?_
    intro T7 h7 a7 g7 W7 E7 A7 D7 U7
    show Fi p e below s Z _ _ _ _ T7 (mkF m 207 #[.val (.int p0), .val (.int p1), .val (.int p2), .val (.int p3), .val (.int p4), .val (.int p5), .val (.int (0 : Int32)), .val (.int c0), .val (.int c1), .val (.int c2), .val (.int c3), .val (.int c4), .val (.ref a6), .val (.int (0 : Int32)), .val (.int (-1 : Int32)), .unset] [(.ref a7)])
    refine W7.dup me at_207 rfl ?_
    refine W7.aload me at_208 rfl rfl ?_
    show Fi p e below s Z _ _ _ _ T7 (mkF m 210 #[.val (.int p0), .val (.int p1), .val (.int p2), .val (.int p3), .val (.int p4), .val (.int p5), .val (.int (0 : Int32)), .val (.int c0), .val (.int c1), .val (.int c2), .val (.int c3), .val (.int c4), .val (.ref a6), .val (.int (0 : Int32)), .val (.int (-1 : Int32)), .unset] [(.ref a6), (.ref a7), (.ref a7)])
    refine W7.callI me hEL (hw _ (List.mem_of_getElem? (i := 11) rfl)) (hw _ (List.mem_of_getElem? (i := 12) rfl)) (hw _ (List.mem_of_getElem? (i := 10) rfl)) (hw _ (List.mem_of_getElem? (i := 13) rfl)) rfl (a := a7) (argsL := [(.ref a6)]) (rest := [(.ref a7)]) (c_init3 g W7.old (cs := []) A7 (D7 (Or.inr (hw _ (List.mem_of_getElem? (i := 36) rfl))) (ty := .array .byte) (by decide)) (D7 (Or.inr (hw _ (List.mem_of_getElem? (i := 34) rfl))) (ty := .byte) (by decide)) (A6.ext E7) (List.mem_cons_self ..) (by have := W6.old.2.1; omega) C8.nil (own_le rfl)) at_210 (by decide) (fun _ q => q) rfl (lenOf pd_11 rfl) (own_le rfl) (own_le rfl) (own_le rfl) (own_le rfl) rfl ?_
    intro T8 h8 v8 W8 z8 q8
    obtain ⟨rfl, K8, L8⟩ := q8
    show Fi p e below s Z _ _ _ _ T8 (mkF m 213 #[.val (.int p0), .val (.int p1), .val (.int p2), .val (.int p3), .val (.int p4), .val (.int p5), .val (.int (0 : Int32)), .val (.int c0), .val (.int c1), .val (.int c2), .val (.int c3), .val (.int c4), .val (.ref a6), .val (.int (0 : Int32)), .val (.int (-1 : Int32)), .unset] [(.ref a7)])
    refine W8.callS me hEL (hw _ (List.mem_of_getElem? (i := 37) rfl)) (hw _ (List.mem_of_getElem? (i := 38) rfl)) (hw _ (List.mem_of_getElem? (i := 39) rfl)) (hw _ (List.mem_of_getElem? (i := 40) rfl)) (argsL := [(.ref a7)]) (rest := []) (c_cstart (ss := []) g W8.old L8) at_213 (by decide) (fun _ q => nomatch q) rfl (lenOf pd_12 rfl) (own_le rfl) (own_le rfl) (own_le rfl) (own_le rfl) rfl ?_
    intro T9 h9 v9 W9 z9 q9
    obtain ⟨_, rfl, rfl, rfl⟩ := q9
    show Fi p e below s Z _ _ _ _ T9 (mkF m 216 #[.val (.int p0), .val (.int p1), .val (.int p2), .val (.int p3), .val (.int p4), .val (.int p5), .val (.int (0 : Int32)), .val (.int c0), .val (.int c1), .val (.int c2), .val (.int c3), .val (.int c4), .val (.ref a6), .val (.int (0 : Int32)), .val (.int (-1 : Int32)), .unset] [(.int (rF (rn [] 0 0)))])
    refine W9.istore me at_216 (l' := #[.val (.int p0), .val (.int p1), .val (.int p2), .val (.int p3), .val (.int p4), .val (.int p5), .val (.int (0 : Int32)), .val (.int c0), .val (.int c1), .val (.int c2), .val (.int c3), .val (.int c4), .val (.ref a6), .val (.int (0 : Int32)), .val (.int (-1 : Int32)), .val (.int (rF (rn [] 0 0)))]) rfl ?_
    refine W9.iload me at_218 rfl ?_
    refine W9.iload me at_220 rfl ?_
    show Fi p e below s Z _ _ _ _ T9 (mkF m 222 #[.val (.int p0), .val (.int p1), .val (.int p2), .val (.int p3), .val (.int p4), .val (.int p5), .val (.int (0 : Int32)), .val (.int c0), .val (.int c1), .val (.int c2), .val (.int c3), .val (.int c4), .val (.ref a6), .val (.int (0 : Int32)), .val (.int (-1 : Int32)), .val (.int (rF (rn [] 0 0)))] [(.int (-1 : Int32)), (.int (rF (rn [] 0 0)))])
    refine W9.icN_ne me at_222 rfl ?_
    refine W9.iconst me at_225 (v := 1) rfl ?_
    refine W9.goto me at_226 (pc' := 230) (by decide) (by decide) ?_
    show Fi p e below s Z _ _ _ _ T9 (mkF m 230 #[.val (.int p0), .val (.int p1), .val (.int p2), .val (.int p3), .val (.int p4), .val (.int p5), .val (.int (0 : Int32)), .val (.int c0), .val (.int c1), .val (.int c2), .val (.int c3), .val (.int c4), .val (.ref a6), .val (.int (0 : Int32)), .val (.int (-1 : Int32)), .val (.int (rF (rn [] 0 0)))] [(.int (1 : Int32))])
    exact W9.retN hEL me (Or.inl rfl) at_230 rfl (by decide) (by decide)
  ·
    show Fi p e below s Z _ _ _ _ T5 (mkF m 41 #[.val (.int p0), .val (.int p1), .val (.int p2), .val (.int p3), .val (.int p4), .val (.int p5), .val (.int (1 : Int32)), .val (.int c0), .val (.int c1), .val (.int c2), .val (.int c3), .val (.int c4), .unset, .unset, .unset, .unset] [])
    refine W5.iload me at_41 rfl ?_
    show Fi p e below s Z _ _ _ _ T5 (mkF m 43 #[.val (.int p0), .val (.int p1), .val (.int p2), .val (.int p3), .val (.int p4), .val (.int p5), .val (.int (1 : Int32)), .val (.int c0), .val (.int c1), .val (.int c2), .val (.int c3), .val (.int c4), .unset, .unset, .unset, .unset] [(.int (1 : Int32))])
    refine W5.newA me (hw _ (List.mem_of_getElem? (i := 4) rfl)) at_43 (by decide) (cap := 5) (by decide) (own_le rfl) (own_le rfl) (own_le rfl) ?_
    intro T10 h10 a10 k10 g10 W10 E10 A10
    show Fi p e below s Z _ _ _ _ T10 (mkF m 45 #[.val (.int p0), .val (.int p1), .val (.int p2), .val (.int p3), .val (.int p4), .val (.int p5), .val (.int (1 : Int32)), .val (.int c0), .val (.int c1), .val (.int c2), .val (.int c3), .val (.int c4), .unset, .unset, .unset, .unset] [(.ref a10)])
    have hz10 : Z.heap.size ≤ a10 := by have := hO.2.1; omega
    refine W10.astore me at_45 (l' := #[.val (.int p0), .val (.int p1), .val (.int p2), .val (.int p3), .val (.int p4), .val (.int p5), .val (.int (1 : Int32)), .val (.int c0), .val (.int c1), .val (.int c2), .val (.int c3), .val (.int c4), .val (.ref a10), .unset, .unset, .unset]) rfl rfl ?_
    refine W10.iload me at_47 rfl ?_
    show Fi p e below s Z _ _ _ _ T10 (mkF m 49 #[.val (.int p0), .val (.int p1), .val (.int p2), .val (.int p3), .val (.int p4), .val (.int p5), .val (.int (1 : Int32)), .val (.int c0), .val (.int c1), .val (.int c2), .val (.int c3), .val (.int c4), .val (.ref a10), .unset, .unset, .unset] [(.int (1 : Int32))])
    refine W10.ifN_le me at_49 (by decide) ?_
    show Fi p e below s Z _ _ _ _ T10 (mkF m 52 #[.val (.int p0), .val (.int p1), .val (.int p2), .val (.int p3), .val (.int p4), .val (.int p5), .val (.int (1 : Int32)), .val (.int c0), .val (.int c1), .val (.int c2), .val (.int c3), .val (.int c4), .val (.ref a10), .unset, .unset, .unset] [])
    refine W10.aload me at_52 rfl rfl ?_
    refine W10.iconst me at_54 (v := 0) rfl ?_
    refine W10.iload me at_55 rfl ?_
    show Fi p e below s Z _ _ _ _ T10 (mkF m 57 #[.val (.int p0), .val (.int p1), .val (.int p2), .val (.int p3), .val (.int p4), .val (.int p5), .val (.int (1 : Int32)), .val (.int c0), .val (.int c1), .val (.int c2), .val (.int c3), .val (.int c4), .val (.ref a10), .unset, .unset, .unset] [(.int c0), (.int (0 : Int32)), (.ref a10)])
    refine W10.castoreP me A10 (up16 q0) at_57 (i := 0) rfl (by decide) (by decide) hz10 ?_
    intro T11 h11 W11 R11 A11
    show Fi p e below s Z _ _ _ _ T11 (mkF m 58 #[.val (.int p0), .val (.int p1), .val (.int p2), .val (.int p3), .val (.int p4), .val (.int p5), .val (.int (1 : Int32)), .val (.int c0), .val (.int c1), .val (.int c2), .val (.int c3), .val (.int c4), .val (.ref a10), .unset, .unset, .unset] [])
    have E11 := own_xw E10 (by omega) R11
    refine W11.iload me at_58 rfl ?_
    refine W11.iconst me at_60 (v := 1) rfl ?_
    show Fi p e below s Z _ _ _ _ T11 (mkF m 61 #[.val (.int p0), .val (.int p1), .val (.int p2), .val (.int p3), .val (.int p4), .val (.int p5), .val (.int (1 : Int32)), .val (.int c0), .val (.int c1), .val (.int c2), .val (.int c3), .val (.int c4), .val (.ref a10), .unset, .unset, .unset] [(.int (1 : Int32)), (.int (1 : Int32))])
    refine W11.icY_le me at_61 (by decide) (pc' := 70) (by decide) (by decide) ?_
    show Fi p e below s Z _ _ _ _ T11 (mkF m 70 #[.val (.int p0), .val (.int p1), .val (.int p2), .val (.int p3), .val (.int p4), .val (.int p5), .val (.int (1 : Int32)), .val (.int c0), .val (.int c1), .val (.int c2), .val (.int c3), .val (.int c4), .val (.ref a10), .unset, .unset, .unset] [])
    refine W11.iload me at_70 rfl ?_
    refine W11.iconst me at_72 (v := 2) rfl ?_
    show Fi p e below s Z _ _ _ _ T11 (mkF m 73 #[.val (.int p0), .val (.int p1), .val (.int p2), .val (.int p3), .val (.int p4), .val (.int p5), .val (.int (1 : Int32)), .val (.int c0), .val (.int c1), .val (.int c2), .val (.int c3), .val (.int c4), .val (.ref a10), .unset, .unset, .unset] [(.int (2 : Int32)), (.int (1 : Int32))])
    refine W11.icY_le me at_73 (by decide) (pc' := 82) (by decide) (by decide) ?_
    show Fi p e below s Z _ _ _ _ T11 (mkF m 82 #[.val (.int p0), .val (.int p1), .val (.int p2), .val (.int p3), .val (.int p4), .val (.int p5), .val (.int (1 : Int32)), .val (.int c0), .val (.int c1), .val (.int c2), .val (.int c3), .val (.int c4), .val (.ref a10), .unset, .unset, .unset] [])
    refine W11.iload me at_82 rfl ?_
    refine W11.iconst me at_84 (v := 3) rfl ?_
    show Fi p e below s Z _ _ _ _ T11 (mkF m 85 #[.val (.int p0), .val (.int p1), .val (.int p2), .val (.int p3), .val (.int p4), .val (.int p5), .val (.int (1 : Int32)), .val (.int c0), .val (.int c1), .val (.int c2), .val (.int c3), .val (.int c4), .val (.ref a10), .unset, .unset, .unset] [(.int (3 : Int32)), (.int (1 : Int32))])
    refine W11.icY_le me at_85 (by decide) (pc' := 94) (by decide) (by decide) ?_
    show Fi p e below s Z _ _ _ _ T11 (mkF m 94 #[.val (.int p0), .val (.int p1), .val (.int p2), .val (.int p3), .val (.int p4), .val (.int p5), .val (.int (1 : Int32)), .val (.int c0), .val (.int c1), .val (.int c2), .val (.int c3), .val (.int c4), .val (.ref a10), .unset, .unset, .unset] [])
    refine W11.iload me at_94 rfl ?_
    refine W11.iconst me at_96 (v := 4) rfl ?_
    show Fi p e below s Z _ _ _ _ T11 (mkF m 97 #[.val (.int p0), .val (.int p1), .val (.int p2), .val (.int p3), .val (.int p4), .val (.int p5), .val (.int (1 : Int32)), .val (.int c0), .val (.int c1), .val (.int c2), .val (.int c3), .val (.int c4), .val (.ref a10), .unset, .unset, .unset] [(.int (4 : Int32)), (.int (1 : Int32))])
    refine W11.icY_le me at_97 (by decide) (pc' := 106) (by decide) (by decide) ?_
    show Fi p e below s Z _ _ _ _ T11 (mkF m 106 #[.val (.int p0), .val (.int p1), .val (.int p2), .val (.int p3), .val (.int p4), .val (.int p5), .val (.int (1 : Int32)), .val (.int c0), .val (.int c1), .val (.int c2), .val (.int c3), .val (.int c4), .val (.ref a10), .unset, .unset, .unset] [])
    refine W11.iconst me at_106 (v := 0) rfl ?_
    refine W11.istore me at_107 (l' := #[.val (.int p0), .val (.int p1), .val (.int p2), .val (.int p3), .val (.int p4), .val (.int p5), .val (.int (1 : Int32)), .val (.int c0), .val (.int c1), .val (.int c2), .val (.int c3), .val (.int c4), .val (.ref a10), .val (.int (0 : Int32)), .unset, .unset]) rfl ?_
    refine W11.iload me at_109 rfl ?_
    show Fi p e below s Z _ _ _ _ T11 (mkF m 111 #[.val (.int p0), .val (.int p1), .val (.int p2), .val (.int p3), .val (.int p4), .val (.int p5), .val (.int (1 : Int32)), .val (.int c0), .val (.int c1), .val (.int c2), .val (.int c3), .val (.int c4), .val (.ref a10), .val (.int (0 : Int32)), .unset, .unset] [(.int (1 : Int32))])
    refine W11.ifN_le me at_111 (by decide) ?_
    show Fi p e below s Z _ _ _ _ T11 (mkF m 114 #[.val (.int p0), .val (.int p1), .val (.int p2), .val (.int p3), .val (.int p4), .val (.int p5), .val (.int (1 : Int32)), .val (.int c0), .val (.int c1), .val (.int c2), .val (.int c3), .val (.int c4), .val (.ref a10), .val (.int (0 : Int32)), .unset, .unset] [])
    refine W11.iload me at_114 rfl ?_
    refine W11.iload me at_116 rfl ?_
    refine W11.iconst me at_118 (v := 0) rfl ?_
    show Fi p e below s Z _ _ _ _ T11 (mkF m 119 #[.val (.int p0), .val (.int p1), .val (.int p2), .val (.int p3), .val (.int p4), .val (.int p5), .val (.int (1 : Int32)), .val (.int c0), .val (.int c1), .val (.int c2), .val (.int c3), .val (.int c4), .val (.ref a10), .val (.int (0 : Int32)), .unset, .unset] [(.int (0 : Int32)), (.int c0), (.int (0 : Int32))])
    refine W11.callS me hEL (hw _ (List.mem_of_getElem? (i := 5) rfl)) (hw _ (List.mem_of_getElem? (i := 6) rfl)) (hw _ (List.mem_of_getElem? (i := 2) rfl)) (hw _ (List.mem_of_getElem? (i := 7) rfl)) (argsL := [(.int (0 : Int32)), (.int c0), (.int (0 : Int32))]) (rest := []) (c_step (ss := []) g W11.old) at_119 (by decide) (fun _ q => nomatch q) rfl (lenOf pd_13 rfl) (own_le rfl) (own_le rfl) (own_le rfl) (own_le rfl) rfl ?_
    intro T12 h12 v12 W12 z12 q12
    obtain ⟨_, rfl, rfl, rfl⟩ := q12
    show Fi p e below s Z _ _ _ _ T12 (mkF m 122 #[.val (.int p0), .val (.int p1), .val (.int p2), .val (.int p3), .val (.int p4), .val (.int p5), .val (.int (1 : Int32)), .val (.int c0), .val (.int c1), .val (.int c2), .val (.int c3), .val (.int c4), .val (.ref a10), .val (.int (0 : Int32)), .unset, .unset] [(.int (stF (0 : Int32) c0 (0 : Int32)))])
    refine W12.istore me at_122 (l' := #[.val (.int p0), .val (.int p1), .val (.int p2), .val (.int p3), .val (.int p4), .val (.int p5), .val (.int (1 : Int32)), .val (.int c0), .val (.int c1), .val (.int c2), .val (.int c3), .val (.int c4), .val (.ref a10), .val (.int (stF (0 : Int32) c0 (0 : Int32))), .unset, .unset]) rfl ?_
    refine W12.iload me at_124 rfl ?_
    refine W12.iconst me at_126 (v := 1) rfl ?_
    show Fi p e below s Z _ _ _ _ T12 (mkF m 127 #[.val (.int p0), .val (.int p1), .val (.int p2), .val (.int p3), .val (.int p4), .val (.int p5), .val (.int (1 : Int32)), .val (.int c0), .val (.int c1), .val (.int c2), .val (.int c3), .val (.int c4), .val (.ref a10), .val (.int (stF (0 : Int32) c0 (0 : Int32))), .unset, .unset] [(.int (1 : Int32)), (.int (1 : Int32))])
    refine W12.icY_le me at_127 (by decide) (pc' := 140) (by decide) (by decide) ?_
    show Fi p e below s Z _ _ _ _ T12 (mkF m 140 #[.val (.int p0), .val (.int p1), .val (.int p2), .val (.int p3), .val (.int p4), .val (.int p5), .val (.int (1 : Int32)), .val (.int c0), .val (.int c1), .val (.int c2), .val (.int c3), .val (.int c4), .val (.ref a10), .val (.int (stF (0 : Int32) c0 (0 : Int32))), .unset, .unset] [])
    refine W12.iload me at_140 rfl ?_
    refine W12.iconst me at_142 (v := 2) rfl ?_
    show Fi p e below s Z _ _ _ _ T12 (mkF m 143 #[.val (.int p0), .val (.int p1), .val (.int p2), .val (.int p3), .val (.int p4), .val (.int p5), .val (.int (1 : Int32)), .val (.int c0), .val (.int c1), .val (.int c2), .val (.int c3), .val (.int c4), .val (.ref a10), .val (.int (stF (0 : Int32) c0 (0 : Int32))), .unset, .unset] [(.int (2 : Int32)), (.int (1 : Int32))])
    refine W12.icY_le me at_143 (by decide) (pc' := 156) (by decide) (by decide) ?_
    show Fi p e below s Z _ _ _ _ T12 (mkF m 156 #[.val (.int p0), .val (.int p1), .val (.int p2), .val (.int p3), .val (.int p4), .val (.int p5), .val (.int (1 : Int32)), .val (.int c0), .val (.int c1), .val (.int c2), .val (.int c3), .val (.int c4), .val (.ref a10), .val (.int (stF (0 : Int32) c0 (0 : Int32))), .unset, .unset] [])
    refine W12.iload me at_156 rfl ?_
    refine W12.iconst me at_158 (v := 3) rfl ?_
    show Fi p e below s Z _ _ _ _ T12 (mkF m 159 #[.val (.int p0), .val (.int p1), .val (.int p2), .val (.int p3), .val (.int p4), .val (.int p5), .val (.int (1 : Int32)), .val (.int c0), .val (.int c1), .val (.int c2), .val (.int c3), .val (.int c4), .val (.ref a10), .val (.int (stF (0 : Int32) c0 (0 : Int32))), .unset, .unset] [(.int (3 : Int32)), (.int (1 : Int32))])
    refine W12.icY_le me at_159 (by decide) (pc' := 172) (by decide) (by decide) ?_
    show Fi p e below s Z _ _ _ _ T12 (mkF m 172 #[.val (.int p0), .val (.int p1), .val (.int p2), .val (.int p3), .val (.int p4), .val (.int p5), .val (.int (1 : Int32)), .val (.int c0), .val (.int c1), .val (.int c2), .val (.int c3), .val (.int c4), .val (.ref a10), .val (.int (stF (0 : Int32) c0 (0 : Int32))), .unset, .unset] [])
    refine W12.iload me at_172 rfl ?_
    refine W12.iconst me at_174 (v := 4) rfl ?_
    show Fi p e below s Z _ _ _ _ T12 (mkF m 175 #[.val (.int p0), .val (.int p1), .val (.int p2), .val (.int p3), .val (.int p4), .val (.int p5), .val (.int (1 : Int32)), .val (.int c0), .val (.int c1), .val (.int c2), .val (.int c3), .val (.int c4), .val (.ref a10), .val (.int (stF (0 : Int32) c0 (0 : Int32))), .unset, .unset] [(.int (4 : Int32)), (.int (1 : Int32))])
    refine W12.icY_le me at_175 (by decide) (pc' := 188) (by decide) (by decide) ?_
    show Fi p e below s Z _ _ _ _ T12 (mkF m 188 #[.val (.int p0), .val (.int p1), .val (.int p2), .val (.int p3), .val (.int p4), .val (.int p5), .val (.int (1 : Int32)), .val (.int c0), .val (.int c1), .val (.int c2), .val (.int c3), .val (.int c4), .val (.ref a10), .val (.int (stF (0 : Int32) c0 (0 : Int32))), .unset, .unset] [])
    show Fi p e below s Z _ _ _ _ T12 (mkF m 188 #[.val (.int p0), .val (.int p1), .val (.int p2), .val (.int p3), .val (.int p4), .val (.int p5), .val (.int (1 : Int32)), .val (.int c0), .val (.int c1), .val (.int c2), .val (.int c3), .val (.int c4), .val (.ref a10), .val (.int (stF (0 : Int32) c0 (0 : Int32))), .unset, .unset] [])
    obtain ⟨st, hst⟩ : ∃ z, z = (stF (0 : Int32) c0 (0 : Int32)) := ⟨_, rfl⟩
    have hrn : rn [c0] 0 0 = st := hst ▸ rfl
    rw [← hst]
    show Fi p e below s Z _ _ _ _ T12 (mkF m 188 #[.val (.int p0), .val (.int p1), .val (.int p2), .val (.int p3), .val (.int p4), .val (.int p5), .val (.int (1 : Int32)), .val (.int c0), .val (.int c1), .val (.int c2), .val (.int c3), .val (.int c4), .val (.ref a10), .val (.int st), .unset, .unset] [])
    refine W12.iload me at_188 rfl ?_
    refine W12.iconst me at_190 (v := 4) rfl ?_
    show Fi p e below s Z _ _ _ _ T12 (mkF m 191 #[.val (.int p0), .val (.int p1), .val (.int p2), .val (.int p3), .val (.int p4), .val (.int p5), .val (.int (1 : Int32)), .val (.int c0), .val (.int c1), .val (.int c2), .val (.int c3), .val (.int c4), .val (.ref a10), .val (.int st), .unset, .unset] [(.int (4 : Int32)), (.int st)])
    refine W12.ic_lt me at_191 (pc' := 201) (by decide) (by decide) (fun hs => ?_) (fun hs => ?_)
    ·
      show Fi p e below s Z _ _ _ _ T12 (mkF m 201 #[.val (.int p0), .val (.int p1), .val (.int p2), .val (.int p3), .val (.int p4), .val (.int p5), .val (.int (1 : Int32)), .val (.int c0), .val (.int c1), .val (.int c2), .val (.int c3), .val (.int c4), .val (.ref a10), .val (.int st), .unset, .unset] [])
      refine W12.iconst me at_201 (v := -1) rfl ?_
      refine W12.istore me at_202 (l' := #[.val (.int p0), .val (.int p1), .val (.int p2), .val (.int p3), .val (.int p4), .val (.int p5), .val (.int (1 : Int32)), .val (.int c0), .val (.int c1), .val (.int c2), .val (.int c3), .val (.int c4), .val (.ref a10), .val (.int st), .val (.int (-1 : Int32)), .unset]) rfl ?_
      show Fi p e below s Z _ _ _ _ T12 (mkF m 204 #[.val (.int p0), .val (.int p1), .val (.int p2), .val (.int p3), .val (.int p4), .val (.int p5), .val (.int (1 : Int32)), .val (.int c0), .val (.int c1), .val (.int c2), .val (.int c3), .val (.int c4), .val (.ref a10), .val (.int st), .val (.int (-1 : Int32)), .unset] [])
      refine W12.newO me (hw _ (List.mem_of_getElem? (i := 8) rfl)) (hw _ (List.mem_of_getElem? (i := 9) rfl)) (hw _ (List.mem_of_getElem? (i := 10) rfl)) at_204 (own_le rfl) (own_le rfl) ?_
      intro T13 h13 a13 g13 W13 E13 A13 D13 U13
      show Fi p e below s Z _ _ _ _ T13 (mkF m 207 #[.val (.int p0), .val (.int p1), .val (.int p2), .val (.int p3), .val (.int p4), .val (.int p5), .val (.int (1 : Int32)), .val (.int c0), .val (.int c1), .val (.int c2), .val (.int c3), .val (.int c4), .val (.ref a10), .val (.int st), .val (.int (-1 : Int32)), .unset] [(.ref a13)])
      refine W13.dup me at_207 rfl ?_
      refine W13.aload me at_208 rfl rfl ?_
      show Fi p e below s Z _ _ _ _ T13 (mkF m 210 #[.val (.int p0), .val (.int p1), .val (.int p2), .val (.int p3), .val (.int p4), .val (.int p5), .val (.int (1 : Int32)), .val (.int c0), .val (.int c1), .val (.int c2), .val (.int c3), .val (.int c4), .val (.ref a10), .val (.int st), .val (.int (-1 : Int32)), .unset] [(.ref a10), (.ref a13), (.ref a13)])
      refine W13.callI me hEL (hw _ (List.mem_of_getElem? (i := 11) rfl)) (hw _ (List.mem_of_getElem? (i := 12) rfl)) (hw _ (List.mem_of_getElem? (i := 10) rfl)) (hw _ (List.mem_of_getElem? (i := 13) rfl)) rfl (a := a13) (argsL := [(.ref a10)]) (rest := [(.ref a13)]) (c_init3 g W13.old (cs := [c0]) A13 (D13 (Or.inr (hw _ (List.mem_of_getElem? (i := 36) rfl))) (ty := .array .byte) (by decide)) (D13 (Or.inr (hw _ (List.mem_of_getElem? (i := 34) rfl))) (ty := .byte) (by decide)) (A11.ext E13) (List.mem_cons_self ..) (by have := W12.old.2.1; omega) (C8.cons q0 C8.nil) (own_le rfl)) at_210 (by decide) (fun _ q => q) rfl (lenOf pd_11 rfl) (own_le rfl) (own_le rfl) (own_le rfl) (own_le rfl) rfl ?_
      intro T14 h14 v14 W14 z14 q14
      obtain ⟨rfl, K14, L14⟩ := q14
      show Fi p e below s Z _ _ _ _ T14 (mkF m 213 #[.val (.int p0), .val (.int p1), .val (.int p2), .val (.int p3), .val (.int p4), .val (.int p5), .val (.int (1 : Int32)), .val (.int c0), .val (.int c1), .val (.int c2), .val (.int c3), .val (.int c4), .val (.ref a10), .val (.int st), .val (.int (-1 : Int32)), .unset] [(.ref a13)])
      refine W14.callS me hEL (hw _ (List.mem_of_getElem? (i := 37) rfl)) (hw _ (List.mem_of_getElem? (i := 38) rfl)) (hw _ (List.mem_of_getElem? (i := 39) rfl)) (hw _ (List.mem_of_getElem? (i := 40) rfl)) (argsL := [(.ref a13)]) (rest := []) (c_cstart (ss := []) g W14.old L14) at_213 (by decide) (fun _ q => nomatch q) rfl (lenOf pd_12 rfl) (own_le rfl) (own_le rfl) (own_le rfl) (own_le rfl) rfl ?_
      intro T15 h15 v15 W15 z15 q15
      obtain ⟨_, rfl, rfl, rfl⟩ := q15
      show Fi p e below s Z _ _ _ _ T15 (mkF m 216 #[.val (.int p0), .val (.int p1), .val (.int p2), .val (.int p3), .val (.int p4), .val (.int p5), .val (.int (1 : Int32)), .val (.int c0), .val (.int c1), .val (.int c2), .val (.int c3), .val (.int c4), .val (.ref a10), .val (.int st), .val (.int (-1 : Int32)), .unset] [(.int (rF (rn [c0] 0 0)))])
      refine W15.istore me at_216 (l' := #[.val (.int p0), .val (.int p1), .val (.int p2), .val (.int p3), .val (.int p4), .val (.int p5), .val (.int (1 : Int32)), .val (.int c0), .val (.int c1), .val (.int c2), .val (.int c3), .val (.int c4), .val (.ref a10), .val (.int st), .val (.int (-1 : Int32)), .val (.int (rF (rn [c0] 0 0)))]) rfl ?_
      refine W15.iload me at_218 rfl ?_
      refine W15.iload me at_220 rfl ?_
      show Fi p e below s Z _ _ _ _ T15 (mkF m 222 #[.val (.int p0), .val (.int p1), .val (.int p2), .val (.int p3), .val (.int p4), .val (.int p5), .val (.int (1 : Int32)), .val (.int c0), .val (.int c1), .val (.int c2), .val (.int c3), .val (.int c4), .val (.ref a10), .val (.int st), .val (.int (-1 : Int32)), .val (.int (rF (rn [c0] 0 0)))] [(.int (-1 : Int32)), (.int (rF (rn [c0] 0 0)))])
      refine W15.icN_ne me at_222 (by rw [hrn, rF, if_pos hs]) ?_
      refine W15.iconst me at_225 (v := 1) rfl ?_
      refine W15.goto me at_226 (pc' := 230) (by decide) (by decide) ?_
      show Fi p e below s Z _ _ _ _ T15 (mkF m 230 #[.val (.int p0), .val (.int p1), .val (.int p2), .val (.int p3), .val (.int p4), .val (.int p5), .val (.int (1 : Int32)), .val (.int c0), .val (.int c1), .val (.int c2), .val (.int c3), .val (.int c4), .val (.ref a10), .val (.int st), .val (.int (-1 : Int32)), .val (.int (rF (rn [c0] 0 0)))] [(.int (1 : Int32))])
      exact W15.retN hEL me (Or.inl rfl) at_230 rfl (by decide) (by decide)
    ·
      show Fi p e below s Z _ _ _ _ T12 (mkF m 194 #[.val (.int p0), .val (.int p1), .val (.int p2), .val (.int p3), .val (.int p4), .val (.int p5), .val (.int (1 : Int32)), .val (.int c0), .val (.int c1), .val (.int c2), .val (.int c3), .val (.int c4), .val (.ref a10), .val (.int st), .unset, .unset] [])
      refine W12.iload me at_194 rfl ?_
      refine W12.iconst me at_196 (v := 4) rfl ?_
      refine W12.isub me at_197 ?_
      refine W12.goto me at_198 (pc' := 202) (by decide) (by decide) ?_
      refine W12.istore me at_202 (l' := #[.val (.int p0), .val (.int p1), .val (.int p2), .val (.int p3), .val (.int p4), .val (.int p5), .val (.int (1 : Int32)), .val (.int c0), .val (.int c1), .val (.int c2), .val (.int c3), .val (.int c4), .val (.ref a10), .val (.int st), .val (.int (st - (4 : Int32))), .unset]) rfl ?_
      show Fi p e below s Z _ _ _ _ T12 (mkF m 204 #[.val (.int p0), .val (.int p1), .val (.int p2), .val (.int p3), .val (.int p4), .val (.int p5), .val (.int (1 : Int32)), .val (.int c0), .val (.int c1), .val (.int c2), .val (.int c3), .val (.int c4), .val (.ref a10), .val (.int st), .val (.int (st - (4 : Int32))), .unset] [])
      refine W12.newO me (hw _ (List.mem_of_getElem? (i := 8) rfl)) (hw _ (List.mem_of_getElem? (i := 9) rfl)) (hw _ (List.mem_of_getElem? (i := 10) rfl)) at_204 (own_le rfl) (own_le rfl) ?_
      intro T16 h16 a16 g16 W16 E16 A16 D16 U16
      show Fi p e below s Z _ _ _ _ T16 (mkF m 207 #[.val (.int p0), .val (.int p1), .val (.int p2), .val (.int p3), .val (.int p4), .val (.int p5), .val (.int (1 : Int32)), .val (.int c0), .val (.int c1), .val (.int c2), .val (.int c3), .val (.int c4), .val (.ref a10), .val (.int st), .val (.int (st - (4 : Int32))), .unset] [(.ref a16)])
      refine W16.dup me at_207 rfl ?_
      refine W16.aload me at_208 rfl rfl ?_
      show Fi p e below s Z _ _ _ _ T16 (mkF m 210 #[.val (.int p0), .val (.int p1), .val (.int p2), .val (.int p3), .val (.int p4), .val (.int p5), .val (.int (1 : Int32)), .val (.int c0), .val (.int c1), .val (.int c2), .val (.int c3), .val (.int c4), .val (.ref a10), .val (.int st), .val (.int (st - (4 : Int32))), .unset] [(.ref a10), (.ref a16), (.ref a16)])
      refine W16.callI me hEL (hw _ (List.mem_of_getElem? (i := 11) rfl)) (hw _ (List.mem_of_getElem? (i := 12) rfl)) (hw _ (List.mem_of_getElem? (i := 10) rfl)) (hw _ (List.mem_of_getElem? (i := 13) rfl)) rfl (a := a16) (argsL := [(.ref a10)]) (rest := [(.ref a16)]) (c_init3 g W16.old (cs := [c0]) A16 (D16 (Or.inr (hw _ (List.mem_of_getElem? (i := 36) rfl))) (ty := .array .byte) (by decide)) (D16 (Or.inr (hw _ (List.mem_of_getElem? (i := 34) rfl))) (ty := .byte) (by decide)) (A11.ext E16) (List.mem_cons_self ..) (by have := W12.old.2.1; omega) (C8.cons q0 C8.nil) (own_le rfl)) at_210 (by decide) (fun _ q => q) rfl (lenOf pd_11 rfl) (own_le rfl) (own_le rfl) (own_le rfl) (own_le rfl) rfl ?_
      intro T17 h17 v17 W17 z17 q17
      obtain ⟨rfl, K17, L17⟩ := q17
      show Fi p e below s Z _ _ _ _ T17 (mkF m 213 #[.val (.int p0), .val (.int p1), .val (.int p2), .val (.int p3), .val (.int p4), .val (.int p5), .val (.int (1 : Int32)), .val (.int c0), .val (.int c1), .val (.int c2), .val (.int c3), .val (.int c4), .val (.ref a10), .val (.int st), .val (.int (st - (4 : Int32))), .unset] [(.ref a16)])
      refine W17.callS me hEL (hw _ (List.mem_of_getElem? (i := 37) rfl)) (hw _ (List.mem_of_getElem? (i := 38) rfl)) (hw _ (List.mem_of_getElem? (i := 39) rfl)) (hw _ (List.mem_of_getElem? (i := 40) rfl)) (argsL := [(.ref a16)]) (rest := []) (c_cstart (ss := []) g W17.old L17) at_213 (by decide) (fun _ q => nomatch q) rfl (lenOf pd_12 rfl) (own_le rfl) (own_le rfl) (own_le rfl) (own_le rfl) rfl ?_
      intro T18 h18 v18 W18 z18 q18
      obtain ⟨_, rfl, rfl, rfl⟩ := q18
      show Fi p e below s Z _ _ _ _ T18 (mkF m 216 #[.val (.int p0), .val (.int p1), .val (.int p2), .val (.int p3), .val (.int p4), .val (.int p5), .val (.int (1 : Int32)), .val (.int c0), .val (.int c1), .val (.int c2), .val (.int c3), .val (.int c4), .val (.ref a10), .val (.int st), .val (.int (st - (4 : Int32))), .unset] [(.int (rF (rn [c0] 0 0)))])
      refine W18.istore me at_216 (l' := #[.val (.int p0), .val (.int p1), .val (.int p2), .val (.int p3), .val (.int p4), .val (.int p5), .val (.int (1 : Int32)), .val (.int c0), .val (.int c1), .val (.int c2), .val (.int c3), .val (.int c4), .val (.ref a10), .val (.int st), .val (.int (st - (4 : Int32))), .val (.int (rF (rn [c0] 0 0)))]) rfl ?_
      refine W18.iload me at_218 rfl ?_
      refine W18.iload me at_220 rfl ?_
      show Fi p e below s Z _ _ _ _ T18 (mkF m 222 #[.val (.int p0), .val (.int p1), .val (.int p2), .val (.int p3), .val (.int p4), .val (.int p5), .val (.int (1 : Int32)), .val (.int c0), .val (.int c1), .val (.int c2), .val (.int c3), .val (.int c4), .val (.ref a10), .val (.int st), .val (.int (st - (4 : Int32))), .val (.int (rF (rn [c0] 0 0)))] [(.int (st - (4 : Int32))), (.int (rF (rn [c0] 0 0)))])
      refine W18.icN_ne me at_222 (by rw [hrn, rF, if_neg hs]) ?_
      refine W18.iconst me at_225 (v := 1) rfl ?_
      refine W18.goto me at_226 (pc' := 230) (by decide) (by decide) ?_
      show Fi p e below s Z _ _ _ _ T18 (mkF m 230 #[.val (.int p0), .val (.int p1), .val (.int p2), .val (.int p3), .val (.int p4), .val (.int p5), .val (.int (1 : Int32)), .val (.int c0), .val (.int c1), .val (.int c2), .val (.int c3), .val (.int c4), .val (.ref a10), .val (.int st), .val (.int (st - (4 : Int32))), .val (.int (rF (rn [c0] 0 0)))] [(.int (1 : Int32))])
      exact W18.retN hEL me (Or.inl rfl) at_230 rfl (by decide) (by decide)
  ·
    show Fi p e below s Z _ _ _ _ T5 (mkF m 41 #[.val (.int p0), .val (.int p1), .val (.int p2), .val (.int p3), .val (.int p4), .val (.int p5), .val (.int (2 : Int32)), .val (.int c0), .val (.int c1), .val (.int c2), .val (.int c3), .val (.int c4), .unset, .unset, .unset, .unset] [])
    refine W5.iload me at_41 rfl ?_
    show Fi p e below s Z _ _ _ _ T5 (mkF m 43 #[.val (.int p0), .val (.int p1), .val (.int p2), .val (.int p3), .val (.int p4), .val (.int p5), .val (.int (2 : Int32)), .val (.int c0), .val (.int c1), .val (.int c2), .val (.int c3), .val (.int c4), .unset, .unset, .unset, .unset] [(.int (2 : Int32))])
    refine W5.newA me (hw _ (List.mem_of_getElem? (i := 4) rfl)) at_43 (by decide) (cap := 5) (by decide) (own_le rfl) (own_le rfl) (own_le rfl) ?_
    intro T19 h19 a19 k19 g19 W19 E19 A19
    show Fi p e below s Z _ _ _ _ T19 (mkF m 45 #[.val (.int p0), .val (.int p1), .val (.int p2), .val (.int p3), .val (.int p4), .val (.int p5), .val (.int (2 : Int32)), .val (.int c0), .val (.int c1), .val (.int c2), .val (.int c3), .val (.int c4), .unset, .unset, .unset, .unset] [(.ref a19)])
    have hz19 : Z.heap.size ≤ a19 := by have := hO.2.1; omega
    refine W19.astore me at_45 (l' := #[.val (.int p0), .val (.int p1), .val (.int p2), .val (.int p3), .val (.int p4), .val (.int p5), .val (.int (2 : Int32)), .val (.int c0), .val (.int c1), .val (.int c2), .val (.int c3), .val (.int c4), .val (.ref a19), .unset, .unset, .unset]) rfl rfl ?_
    refine W19.iload me at_47 rfl ?_
    show Fi p e below s Z _ _ _ _ T19 (mkF m 49 #[.val (.int p0), .val (.int p1), .val (.int p2), .val (.int p3), .val (.int p4), .val (.int p5), .val (.int (2 : Int32)), .val (.int c0), .val (.int c1), .val (.int c2), .val (.int c3), .val (.int c4), .val (.ref a19), .unset, .unset, .unset] [(.int (2 : Int32))])
    refine W19.ifN_le me at_49 (by decide) ?_
    show Fi p e below s Z _ _ _ _ T19 (mkF m 52 #[.val (.int p0), .val (.int p1), .val (.int p2), .val (.int p3), .val (.int p4), .val (.int p5), .val (.int (2 : Int32)), .val (.int c0), .val (.int c1), .val (.int c2), .val (.int c3), .val (.int c4), .val (.ref a19), .unset, .unset, .unset] [])
    refine W19.aload me at_52 rfl rfl ?_
    refine W19.iconst me at_54 (v := 0) rfl ?_
    refine W19.iload me at_55 rfl ?_
    show Fi p e below s Z _ _ _ _ T19 (mkF m 57 #[.val (.int p0), .val (.int p1), .val (.int p2), .val (.int p3), .val (.int p4), .val (.int p5), .val (.int (2 : Int32)), .val (.int c0), .val (.int c1), .val (.int c2), .val (.int c3), .val (.int c4), .val (.ref a19), .unset, .unset, .unset] [(.int c0), (.int (0 : Int32)), (.ref a19)])
    refine W19.castoreP me A19 (up16 q0) at_57 (i := 0) rfl (by decide) (by decide) hz19 ?_
    intro T20 h20 W20 R20 A20
    show Fi p e below s Z _ _ _ _ T20 (mkF m 58 #[.val (.int p0), .val (.int p1), .val (.int p2), .val (.int p3), .val (.int p4), .val (.int p5), .val (.int (2 : Int32)), .val (.int c0), .val (.int c1), .val (.int c2), .val (.int c3), .val (.int c4), .val (.ref a19), .unset, .unset, .unset] [])
    have E20 := own_xw E19 (by omega) R20
    refine W20.iload me at_58 rfl ?_
    refine W20.iconst me at_60 (v := 1) rfl ?_
    show Fi p e below s Z _ _ _ _ T20 (mkF m 61 #[.val (.int p0), .val (.int p1), .val (.int p2), .val (.int p3), .val (.int p4), .val (.int p5), .val (.int (2 : Int32)), .val (.int c0), .val (.int c1), .val (.int c2), .val (.int c3), .val (.int c4), .val (.ref a19), .unset, .unset, .unset] [(.int (1 : Int32)), (.int (2 : Int32))])
    refine W20.icN_le me at_61 (by decide) ?_
    show Fi p e below s Z _ _ _ _ T20 (mkF m 64 #[.val (.int p0), .val (.int p1), .val (.int p2), .val (.int p3), .val (.int p4), .val (.int p5), .val (.int (2 : Int32)), .val (.int c0), .val (.int c1), .val (.int c2), .val (.int c3), .val (.int c4), .val (.ref a19), .unset, .unset, .unset] [])
    refine W20.aload me at_64 rfl rfl ?_
    refine W20.iconst me at_66 (v := 1) rfl ?_
    refine W20.iload me at_67 rfl ?_
    show Fi p e below s Z _ _ _ _ T20 (mkF m 69 #[.val (.int p0), .val (.int p1), .val (.int p2), .val (.int p3), .val (.int p4), .val (.int p5), .val (.int (2 : Int32)), .val (.int c0), .val (.int c1), .val (.int c2), .val (.int c3), .val (.int c4), .val (.ref a19), .unset, .unset, .unset] [(.int c1), (.int (1 : Int32)), (.ref a19)])
    refine W20.castoreP me A20 (up16 q1) at_69 (i := 1) rfl (by decide) (by decide) hz19 ?_
    intro T21 h21 W21 R21 A21
    show Fi p e below s Z _ _ _ _ T21 (mkF m 70 #[.val (.int p0), .val (.int p1), .val (.int p2), .val (.int p3), .val (.int p4), .val (.int p5), .val (.int (2 : Int32)), .val (.int c0), .val (.int c1), .val (.int c2), .val (.int c3), .val (.int c4), .val (.ref a19), .unset, .unset, .unset] [])
    have E21 := own_xw E20 (by omega) R21
    refine W21.iload me at_70 rfl ?_
    refine W21.iconst me at_72 (v := 2) rfl ?_
    show Fi p e below s Z _ _ _ _ T21 (mkF m 73 #[.val (.int p0), .val (.int p1), .val (.int p2), .val (.int p3), .val (.int p4), .val (.int p5), .val (.int (2 : Int32)), .val (.int c0), .val (.int c1), .val (.int c2), .val (.int c3), .val (.int c4), .val (.ref a19), .unset, .unset, .unset] [(.int (2 : Int32)), (.int (2 : Int32))])
    refine W21.icY_le me at_73 (by decide) (pc' := 82) (by decide) (by decide) ?_
    show Fi p e below s Z _ _ _ _ T21 (mkF m 82 #[.val (.int p0), .val (.int p1), .val (.int p2), .val (.int p3), .val (.int p4), .val (.int p5), .val (.int (2 : Int32)), .val (.int c0), .val (.int c1), .val (.int c2), .val (.int c3), .val (.int c4), .val (.ref a19), .unset, .unset, .unset] [])
    refine W21.iload me at_82 rfl ?_
    refine W21.iconst me at_84 (v := 3) rfl ?_
    show Fi p e below s Z _ _ _ _ T21 (mkF m 85 #[.val (.int p0), .val (.int p1), .val (.int p2), .val (.int p3), .val (.int p4), .val (.int p5), .val (.int (2 : Int32)), .val (.int c0), .val (.int c1), .val (.int c2), .val (.int c3), .val (.int c4), .val (.ref a19), .unset, .unset, .unset] [(.int (3 : Int32)), (.int (2 : Int32))])
    refine W21.icY_le me at_85 (by decide) (pc' := 94) (by decide) (by decide) ?_
    show Fi p e below s Z _ _ _ _ T21 (mkF m 94 #[.val (.int p0), .val (.int p1), .val (.int p2), .val (.int p3), .val (.int p4), .val (.int p5), .val (.int (2 : Int32)), .val (.int c0), .val (.int c1), .val (.int c2), .val (.int c3), .val (.int c4), .val (.ref a19), .unset, .unset, .unset] [])
    refine W21.iload me at_94 rfl ?_
    refine W21.iconst me at_96 (v := 4) rfl ?_
    show Fi p e below s Z _ _ _ _ T21 (mkF m 97 #[.val (.int p0), .val (.int p1), .val (.int p2), .val (.int p3), .val (.int p4), .val (.int p5), .val (.int (2 : Int32)), .val (.int c0), .val (.int c1), .val (.int c2), .val (.int c3), .val (.int c4), .val (.ref a19), .unset, .unset, .unset] [(.int (4 : Int32)), (.int (2 : Int32))])
    refine W21.icY_le me at_97 (by decide) (pc' := 106) (by decide) (by decide) ?_
    show Fi p e below s Z _ _ _ _ T21 (mkF m 106 #[.val (.int p0), .val (.int p1), .val (.int p2), .val (.int p3), .val (.int p4), .val (.int p5), .val (.int (2 : Int32)), .val (.int c0), .val (.int c1), .val (.int c2), .val (.int c3), .val (.int c4), .val (.ref a19), .unset, .unset, .unset] [])
    refine W21.iconst me at_106 (v := 0) rfl ?_
    refine W21.istore me at_107 (l' := #[.val (.int p0), .val (.int p1), .val (.int p2), .val (.int p3), .val (.int p4), .val (.int p5), .val (.int (2 : Int32)), .val (.int c0), .val (.int c1), .val (.int c2), .val (.int c3), .val (.int c4), .val (.ref a19), .val (.int (0 : Int32)), .unset, .unset]) rfl ?_
    refine W21.iload me at_109 rfl ?_
    show Fi p e below s Z _ _ _ _ T21 (mkF m 111 #[.val (.int p0), .val (.int p1), .val (.int p2), .val (.int p3), .val (.int p4), .val (.int p5), .val (.int (2 : Int32)), .val (.int c0), .val (.int c1), .val (.int c2), .val (.int c3), .val (.int c4), .val (.ref a19), .val (.int (0 : Int32)), .unset, .unset] [(.int (2 : Int32))])
    refine W21.ifN_le me at_111 (by decide) ?_
    show Fi p e below s Z _ _ _ _ T21 (mkF m 114 #[.val (.int p0), .val (.int p1), .val (.int p2), .val (.int p3), .val (.int p4), .val (.int p5), .val (.int (2 : Int32)), .val (.int c0), .val (.int c1), .val (.int c2), .val (.int c3), .val (.int c4), .val (.ref a19), .val (.int (0 : Int32)), .unset, .unset] [])
    refine W21.iload me at_114 rfl ?_
    refine W21.iload me at_116 rfl ?_
    refine W21.iconst me at_118 (v := 0) rfl ?_
    show Fi p e below s Z _ _ _ _ T21 (mkF m 119 #[.val (.int p0), .val (.int p1), .val (.int p2), .val (.int p3), .val (.int p4), .val (.int p5), .val (.int (2 : Int32)), .val (.int c0), .val (.int c1), .val (.int c2), .val (.int c3), .val (.int c4), .val (.ref a19), .val (.int (0 : Int32)), .unset, .unset] [(.int (0 : Int32)), (.int c0), (.int (0 : Int32))])
    refine W21.callS me hEL (hw _ (List.mem_of_getElem? (i := 5) rfl)) (hw _ (List.mem_of_getElem? (i := 6) rfl)) (hw _ (List.mem_of_getElem? (i := 2) rfl)) (hw _ (List.mem_of_getElem? (i := 7) rfl)) (argsL := [(.int (0 : Int32)), (.int c0), (.int (0 : Int32))]) (rest := []) (c_step (ss := []) g W21.old) at_119 (by decide) (fun _ q => nomatch q) rfl (lenOf pd_13 rfl) (own_le rfl) (own_le rfl) (own_le rfl) (own_le rfl) rfl ?_
    intro T22 h22 v22 W22 z22 q22
    obtain ⟨_, rfl, rfl, rfl⟩ := q22
    show Fi p e below s Z _ _ _ _ T22 (mkF m 122 #[.val (.int p0), .val (.int p1), .val (.int p2), .val (.int p3), .val (.int p4), .val (.int p5), .val (.int (2 : Int32)), .val (.int c0), .val (.int c1), .val (.int c2), .val (.int c3), .val (.int c4), .val (.ref a19), .val (.int (0 : Int32)), .unset, .unset] [(.int (stF (0 : Int32) c0 (0 : Int32)))])
    refine W22.istore me at_122 (l' := #[.val (.int p0), .val (.int p1), .val (.int p2), .val (.int p3), .val (.int p4), .val (.int p5), .val (.int (2 : Int32)), .val (.int c0), .val (.int c1), .val (.int c2), .val (.int c3), .val (.int c4), .val (.ref a19), .val (.int (stF (0 : Int32) c0 (0 : Int32))), .unset, .unset]) rfl ?_
    refine W22.iload me at_124 rfl ?_
    refine W22.iconst me at_126 (v := 1) rfl ?_
    show Fi p e below s Z _ _ _ _ T22 (mkF m 127 #[.val (.int p0), .val (.int p1), .val (.int p2), .val (.int p3), .val (.int p4), .val (.int p5), .val (.int (2 : Int32)), .val (.int c0), .val (.int c1), .val (.int c2), .val (.int c3), .val (.int c4), .val (.ref a19), .val (.int (stF (0 : Int32) c0 (0 : Int32))), .unset, .unset] [(.int (1 : Int32)), (.int (2 : Int32))])
    refine W22.icN_le me at_127 (by decide) ?_
    show Fi p e below s Z _ _ _ _ T22 (mkF m 130 #[.val (.int p0), .val (.int p1), .val (.int p2), .val (.int p3), .val (.int p4), .val (.int p5), .val (.int (2 : Int32)), .val (.int c0), .val (.int c1), .val (.int c2), .val (.int c3), .val (.int c4), .val (.ref a19), .val (.int (stF (0 : Int32) c0 (0 : Int32))), .unset, .unset] [])
    refine W22.iload me at_130 rfl ?_
    refine W22.iload me at_132 rfl ?_
    refine W22.iconst me at_134 (v := 1) rfl ?_
    show Fi p e below s Z _ _ _ _ T22 (mkF m 135 #[.val (.int p0), .val (.int p1), .val (.int p2), .val (.int p3), .val (.int p4), .val (.int p5), .val (.int (2 : Int32)), .val (.int c0), .val (.int c1), .val (.int c2), .val (.int c3), .val (.int c4), .val (.ref a19), .val (.int (stF (0 : Int32) c0 (0 : Int32))), .unset, .unset] [(.int (1 : Int32)), (.int c1), (.int (stF (0 : Int32) c0 (0 : Int32)))])
    refine W22.callS me hEL (hw _ (List.mem_of_getElem? (i := 5) rfl)) (hw _ (List.mem_of_getElem? (i := 6) rfl)) (hw _ (List.mem_of_getElem? (i := 2) rfl)) (hw _ (List.mem_of_getElem? (i := 7) rfl)) (argsL := [(.int (stF (0 : Int32) c0 (0 : Int32))), (.int c1), (.int (1 : Int32))]) (rest := []) (c_step (ss := []) g W22.old) at_135 (by decide) (fun _ q => nomatch q) rfl (lenOf pd_13 rfl) (own_le rfl) (own_le rfl) (own_le rfl) (own_le rfl) rfl ?_
    intro T23 h23 v23 W23 z23 q23
    obtain ⟨_, rfl, rfl, rfl⟩ := q23
    show Fi p e below s Z _ _ _ _ T23 (mkF m 138 #[.val (.int p0), .val (.int p1), .val (.int p2), .val (.int p3), .val (.int p4), .val (.int p5), .val (.int (2 : Int32)), .val (.int c0), .val (.int c1), .val (.int c2), .val (.int c3), .val (.int c4), .val (.ref a19), .val (.int (stF (0 : Int32) c0 (0 : Int32))), .unset, .unset] [(.int (stF (stF (0 : Int32) c0 (0 : Int32)) c1 (1 : Int32)))])
    refine W23.istore me at_138 (l' := #[.val (.int p0), .val (.int p1), .val (.int p2), .val (.int p3), .val (.int p4), .val (.int p5), .val (.int (2 : Int32)), .val (.int c0), .val (.int c1), .val (.int c2), .val (.int c3), .val (.int c4), .val (.ref a19), .val (.int (stF (stF (0 : Int32) c0 (0 : Int32)) c1 (1 : Int32))), .unset, .unset]) rfl ?_
    refine W23.iload me at_140 rfl ?_
    refine W23.iconst me at_142 (v := 2) rfl ?_
    show Fi p e below s Z _ _ _ _ T23 (mkF m 143 #[.val (.int p0), .val (.int p1), .val (.int p2), .val (.int p3), .val (.int p4), .val (.int p5), .val (.int (2 : Int32)), .val (.int c0), .val (.int c1), .val (.int c2), .val (.int c3), .val (.int c4), .val (.ref a19), .val (.int (stF (stF (0 : Int32) c0 (0 : Int32)) c1 (1 : Int32))), .unset, .unset] [(.int (2 : Int32)), (.int (2 : Int32))])
    refine W23.icY_le me at_143 (by decide) (pc' := 156) (by decide) (by decide) ?_
    show Fi p e below s Z _ _ _ _ T23 (mkF m 156 #[.val (.int p0), .val (.int p1), .val (.int p2), .val (.int p3), .val (.int p4), .val (.int p5), .val (.int (2 : Int32)), .val (.int c0), .val (.int c1), .val (.int c2), .val (.int c3), .val (.int c4), .val (.ref a19), .val (.int (stF (stF (0 : Int32) c0 (0 : Int32)) c1 (1 : Int32))), .unset, .unset] [])
    refine W23.iload me at_156 rfl ?_
    refine W23.iconst me at_158 (v := 3) rfl ?_
    show Fi p e below s Z _ _ _ _ T23 (mkF m 159 #[.val (.int p0), .val (.int p1), .val (.int p2), .val (.int p3), .val (.int p4), .val (.int p5), .val (.int (2 : Int32)), .val (.int c0), .val (.int c1), .val (.int c2), .val (.int c3), .val (.int c4), .val (.ref a19), .val (.int (stF (stF (0 : Int32) c0 (0 : Int32)) c1 (1 : Int32))), .unset, .unset] [(.int (3 : Int32)), (.int (2 : Int32))])
    refine W23.icY_le me at_159 (by decide) (pc' := 172) (by decide) (by decide) ?_
    show Fi p e below s Z _ _ _ _ T23 (mkF m 172 #[.val (.int p0), .val (.int p1), .val (.int p2), .val (.int p3), .val (.int p4), .val (.int p5), .val (.int (2 : Int32)), .val (.int c0), .val (.int c1), .val (.int c2), .val (.int c3), .val (.int c4), .val (.ref a19), .val (.int (stF (stF (0 : Int32) c0 (0 : Int32)) c1 (1 : Int32))), .unset, .unset] [])
    refine W23.iload me at_172 rfl ?_
    refine W23.iconst me at_174 (v := 4) rfl ?_
    show Fi p e below s Z _ _ _ _ T23 (mkF m 175 #[.val (.int p0), .val (.int p1), .val (.int p2), .val (.int p3), .val (.int p4), .val (.int p5), .val (.int (2 : Int32)), .val (.int c0), .val (.int c1), .val (.int c2), .val (.int c3), .val (.int c4), .val (.ref a19), .val (.int (stF (stF (0 : Int32) c0 (0 : Int32)) c1 (1 : Int32))), .unset, .unset] [(.int (4 : Int32)), (.int (2 : Int32))])
    refine W23.icY_le me at_175 (by decide) (pc' := 188) (by decide) (by decide) ?_
    show Fi p e below s Z _ _ _ _ T23 (mkF m 188 #[.val (.int p0), .val (.int p1), .val (.int p2), .val (.int p3), .val (.int p4), .val (.int p5), .val (.int (2 : Int32)), .val (.int c0), .val (.int c1), .val (.int c2), .val (.int c3), .val (.int c4), .val (.ref a19), .val (.int (stF (stF (0 : Int32) c0 (0 : Int32)) c1 (1 : Int32))), .unset, .unset] [])
    show Fi p e below s Z _ _ _ _ T23 (mkF m 188 #[.val (.int p0), .val (.int p1), .val (.int p2), .val (.int p3), .val (.int p4), .val (.int p5), .val (.int (2 : Int32)), .val (.int c0), .val (.int c1), .val (.int c2), .val (.int c3), .val (.int c4), .val (.ref a19), .val (.int (stF (stF (0 : Int32) c0 (0 : Int32)) c1 (1 : Int32))), .unset, .unset] [])
    obtain ⟨st, hst⟩ : ∃ z, z = (stF (stF (0 : Int32) c0 (0 : Int32)) c1 (1 : Int32)) := ⟨_, rfl⟩
    have hrn : rn [c0, c1] 0 0 = st := hst ▸ rfl
    rw [← hst]
    show Fi p e below s Z _ _ _ _ T23 (mkF m 188 #[.val (.int p0), .val (.int p1), .val (.int p2), .val (.int p3), .val (.int p4), .val (.int p5), .val (.int (2 : Int32)), .val (.int c0), .val (.int c1), .val (.int c2), .val (.int c3), .val (.int c4), .val (.ref a19), .val (.int st), .unset, .unset] [])
    refine W23.iload me at_188 rfl ?_
    refine W23.iconst me at_190 (v := 4) rfl ?_
    show Fi p e below s Z _ _ _ _ T23 (mkF m 191 #[.val (.int p0), .val (.int p1), .val (.int p2), .val (.int p3), .val (.int p4), .val (.int p5), .val (.int (2 : Int32)), .val (.int c0), .val (.int c1), .val (.int c2), .val (.int c3), .val (.int c4), .val (.ref a19), .val (.int st), .unset, .unset] [(.int (4 : Int32)), (.int st)])
    refine W23.ic_lt me at_191 (pc' := 201) (by decide) (by decide) (fun hs => ?_) (fun hs => ?_)
    ·
      show Fi p e below s Z _ _ _ _ T23 (mkF m 201 #[.val (.int p0), .val (.int p1), .val (.int p2), .val (.int p3), .val (.int p4), .val (.int p5), .val (.int (2 : Int32)), .val (.int c0), .val (.int c1), .val (.int c2), .val (.int c3), .val (.int c4), .val (.ref a19), .val (.int st), .unset, .unset] [])
      refine W23.iconst me at_201 (v := -1) rfl ?_
      refine W23.istore me at_202 (l' := #[.val (.int p0), .val (.int p1), .val (.int p2), .val (.int p3), .val (.int p4), .val (.int p5), .val (.int (2 : Int32)), .val (.int c0), .val (.int c1), .val (.int c2), .val (.int c3), .val (.int c4), .val (.ref a19), .val (.int st), .val (.int (-1 : Int32)), .unset]) rfl ?_
      show Fi p e below s Z _ _ _ _ T23 (mkF m 204 #[.val (.int p0), .val (.int p1), .val (.int p2), .val (.int p3), .val (.int p4), .val (.int p5), .val (.int (2 : Int32)), .val (.int c0), .val (.int c1), .val (.int c2), .val (.int c3), .val (.int c4), .val (.ref a19), .val (.int st), .val (.int (-1 : Int32)), .unset] [])
      refine W23.newO me (hw _ (List.mem_of_getElem? (i := 8) rfl)) (hw _ (List.mem_of_getElem? (i := 9) rfl)) (hw _ (List.mem_of_getElem? (i := 10) rfl)) at_204 (own_le rfl) (own_le rfl) ?_
      intro T24 h24 a24 g24 W24 E24 A24 D24 U24
      show Fi p e below s Z _ _ _ _ T24 (mkF m 207 #[.val (.int p0), .val (.int p1), .val (.int p2), .val (.int p3), .val (.int p4), .val (.int p5), .val (.int (2 : Int32)), .val (.int c0), .val (.int c1), .val (.int c2), .val (.int c3), .val (.int c4), .val (.ref a19), .val (.int st), .val (.int (-1 : Int32)), .unset] [(.ref a24)])
      refine W24.dup me at_207 rfl ?_
      refine W24.aload me at_208 rfl rfl ?_
      show Fi p e below s Z _ _ _ _ T24 (mkF m 210 #[.val (.int p0), .val (.int p1), .val (.int p2), .val (.int p3), .val (.int p4), .val (.int p5), .val (.int (2 : Int32)), .val (.int c0), .val (.int c1), .val (.int c2), .val (.int c3), .val (.int c4), .val (.ref a19), .val (.int st), .val (.int (-1 : Int32)), .unset] [(.ref a19), (.ref a24), (.ref a24)])
      refine W24.callI me hEL (hw _ (List.mem_of_getElem? (i := 11) rfl)) (hw _ (List.mem_of_getElem? (i := 12) rfl)) (hw _ (List.mem_of_getElem? (i := 10) rfl)) (hw _ (List.mem_of_getElem? (i := 13) rfl)) rfl (a := a24) (argsL := [(.ref a19)]) (rest := [(.ref a24)]) (c_init3 g W24.old (cs := [c0, c1]) A24 (D24 (Or.inr (hw _ (List.mem_of_getElem? (i := 36) rfl))) (ty := .array .byte) (by decide)) (D24 (Or.inr (hw _ (List.mem_of_getElem? (i := 34) rfl))) (ty := .byte) (by decide)) (A21.ext E24) (List.mem_cons_self ..) (by have := W23.old.2.1; omega) (C8.cons q0 (C8.cons q1 C8.nil)) (own_le rfl)) at_210 (by decide) (fun _ q => q) rfl (lenOf pd_11 rfl) (own_le rfl) (own_le rfl) (own_le rfl) (own_le rfl) rfl ?_
      intro T25 h25 v25 W25 z25 q25
      obtain ⟨rfl, K25, L25⟩ := q25
      show Fi p e below s Z _ _ _ _ T25 (mkF m 213 #[.val (.int p0), .val (.int p1), .val (.int p2), .val (.int p3), .val (.int p4), .val (.int p5), .val (.int (2 : Int32)), .val (.int c0), .val (.int c1), .val (.int c2), .val (.int c3), .val (.int c4), .val (.ref a19), .val (.int st), .val (.int (-1 : Int32)), .unset] [(.ref a24)])
      refine W25.callS me hEL (hw _ (List.mem_of_getElem? (i := 37) rfl)) (hw _ (List.mem_of_getElem? (i := 38) rfl)) (hw _ (List.mem_of_getElem? (i := 39) rfl)) (hw _ (List.mem_of_getElem? (i := 40) rfl)) (argsL := [(.ref a24)]) (rest := []) (c_cstart (ss := []) g W25.old L25) at_213 (by decide) (fun _ q => nomatch q) rfl (lenOf pd_12 rfl) (own_le rfl) (own_le rfl) (own_le rfl) (own_le rfl) rfl ?_
      intro T26 h26 v26 W26 z26 q26
      obtain ⟨_, rfl, rfl, rfl⟩ := q26
      show Fi p e below s Z _ _ _ _ T26 (mkF m 216 #[.val (.int p0), .val (.int p1), .val (.int p2), .val (.int p3), .val (.int p4), .val (.int p5), .val (.int (2 : Int32)), .val (.int c0), .val (.int c1), .val (.int c2), .val (.int c3), .val (.int c4), .val (.ref a19), .val (.int st), .val (.int (-1 : Int32)), .unset] [(.int (rF (rn [c0, c1] 0 0)))])
      refine W26.istore me at_216 (l' := #[.val (.int p0), .val (.int p1), .val (.int p2), .val (.int p3), .val (.int p4), .val (.int p5), .val (.int (2 : Int32)), .val (.int c0), .val (.int c1), .val (.int c2), .val (.int c3), .val (.int c4), .val (.ref a19), .val (.int st), .val (.int (-1 : Int32)), .val (.int (rF (rn [c0, c1] 0 0)))]) rfl ?_
      refine W26.iload me at_218 rfl ?_
      refine W26.iload me at_220 rfl ?_
      show Fi p e below s Z _ _ _ _ T26 (mkF m 222 #[.val (.int p0), .val (.int p1), .val (.int p2), .val (.int p3), .val (.int p4), .val (.int p5), .val (.int (2 : Int32)), .val (.int c0), .val (.int c1), .val (.int c2), .val (.int c3), .val (.int c4), .val (.ref a19), .val (.int st), .val (.int (-1 : Int32)), .val (.int (rF (rn [c0, c1] 0 0)))] [(.int (-1 : Int32)), (.int (rF (rn [c0, c1] 0 0)))])
      refine W26.icN_ne me at_222 (by rw [hrn, rF, if_pos hs]) ?_
      refine W26.iconst me at_225 (v := 1) rfl ?_
      refine W26.goto me at_226 (pc' := 230) (by decide) (by decide) ?_
      show Fi p e below s Z _ _ _ _ T26 (mkF m 230 #[.val (.int p0), .val (.int p1), .val (.int p2), .val (.int p3), .val (.int p4), .val (.int p5), .val (.int (2 : Int32)), .val (.int c0), .val (.int c1), .val (.int c2), .val (.int c3), .val (.int c4), .val (.ref a19), .val (.int st), .val (.int (-1 : Int32)), .val (.int (rF (rn [c0, c1] 0 0)))] [(.int (1 : Int32))])
      exact W26.retN hEL me (Or.inl rfl) at_230 rfl (by decide) (by decide)
    ·
      show Fi p e below s Z _ _ _ _ T23 (mkF m 194 #[.val (.int p0), .val (.int p1), .val (.int p2), .val (.int p3), .val (.int p4), .val (.int p5), .val (.int (2 : Int32)), .val (.int c0), .val (.int c1), .val (.int c2), .val (.int c3), .val (.int c4), .val (.ref a19), .val (.int st), .unset, .unset] [])
      refine W23.iload me at_194 rfl ?_
      refine W23.iconst me at_196 (v := 4) rfl ?_
      refine W23.isub me at_197 ?_
      refine W23.goto me at_198 (pc' := 202) (by decide) (by decide) ?_
      refine W23.istore me at_202 (l' := #[.val (.int p0), .val (.int p1), .val (.int p2), .val (.int p3), .val (.int p4), .val (.int p5), .val (.int (2 : Int32)), .val (.int c0), .val (.int c1), .val (.int c2), .val (.int c3), .val (.int c4), .val (.ref a19), .val (.int st), .val (.int (st - (4 : Int32))), .unset]) rfl ?_
      show Fi p e below s Z _ _ _ _ T23 (mkF m 204 #[.val (.int p0), .val (.int p1), .val (.int p2), .val (.int p3), .val (.int p4), .val (.int p5), .val (.int (2 : Int32)), .val (.int c0), .val (.int c1), .val (.int c2), .val (.int c3), .val (.int c4), .val (.ref a19), .val (.int st), .val (.int (st - (4 : Int32))), .unset] [])
      refine W23.newO me (hw _ (List.mem_of_getElem? (i := 8) rfl)) (hw _ (List.mem_of_getElem? (i := 9) rfl)) (hw _ (List.mem_of_getElem? (i := 10) rfl)) at_204 (own_le rfl) (own_le rfl) ?_
      intro T27 h27 a27 g27 W27 E27 A27 D27 U27
      show Fi p e below s Z _ _ _ _ T27 (mkF m 207 #[.val (.int p0), .val (.int p1), .val (.int p2), .val (.int p3), .val (.int p4), .val (.int p5), .val (.int (2 : Int32)), .val (.int c0), .val (.int c1), .val (.int c2), .val (.int c3), .val (.int c4), .val (.ref a19), .val (.int st), .val (.int (st - (4 : Int32))), .unset] [(.ref a27)])
      refine W27.dup me at_207 rfl ?_
      refine W27.aload me at_208 rfl rfl ?_
      show Fi p e below s Z _ _ _ _ T27 (mkF m 210 #[.val (.int p0), .val (.int p1), .val (.int p2), .val (.int p3), .val (.int p4), .val (.int p5), .val (.int (2 : Int32)), .val (.int c0), .val (.int c1), .val (.int c2), .val (.int c3), .val (.int c4), .val (.ref a19), .val (.int st), .val (.int (st - (4 : Int32))), .unset] [(.ref a19), (.ref a27), (.ref a27)])
      refine W27.callI me hEL (hw _ (List.mem_of_getElem? (i := 11) rfl)) (hw _ (List.mem_of_getElem? (i := 12) rfl)) (hw _ (List.mem_of_getElem? (i := 10) rfl)) (hw _ (List.mem_of_getElem? (i := 13) rfl)) rfl (a := a27) (argsL := [(.ref a19)]) (rest := [(.ref a27)]) (c_init3 g W27.old (cs := [c0, c1]) A27 (D27 (Or.inr (hw _ (List.mem_of_getElem? (i := 36) rfl))) (ty := .array .byte) (by decide)) (D27 (Or.inr (hw _ (List.mem_of_getElem? (i := 34) rfl))) (ty := .byte) (by decide)) (A21.ext E27) (List.mem_cons_self ..) (by have := W23.old.2.1; omega) (C8.cons q0 (C8.cons q1 C8.nil)) (own_le rfl)) at_210 (by decide) (fun _ q => q) rfl (lenOf pd_11 rfl) (own_le rfl) (own_le rfl) (own_le rfl) (own_le rfl) rfl ?_
      intro T28 h28 v28 W28 z28 q28
      obtain ⟨rfl, K28, L28⟩ := q28
      show Fi p e below s Z _ _ _ _ T28 (mkF m 213 #[.val (.int p0), .val (.int p1), .val (.int p2), .val (.int p3), .val (.int p4), .val (.int p5), .val (.int (2 : Int32)), .val (.int c0), .val (.int c1), .val (.int c2), .val (.int c3), .val (.int c4), .val (.ref a19), .val (.int st), .val (.int (st - (4 : Int32))), .unset] [(.ref a27)])
      refine W28.callS me hEL (hw _ (List.mem_of_getElem? (i := 37) rfl)) (hw _ (List.mem_of_getElem? (i := 38) rfl)) (hw _ (List.mem_of_getElem? (i := 39) rfl)) (hw _ (List.mem_of_getElem? (i := 40) rfl)) (argsL := [(.ref a27)]) (rest := []) (c_cstart (ss := []) g W28.old L28) at_213 (by decide) (fun _ q => nomatch q) rfl (lenOf pd_12 rfl) (own_le rfl) (own_le rfl) (own_le rfl) (own_le rfl) rfl ?_
      intro T29 h29 v29 W29 z29 q29
      obtain ⟨_, rfl, rfl, rfl⟩ := q29
      show Fi p e below s Z _ _ _ _ T29 (mkF m 216 #[.val (.int p0), .val (.int p1), .val (.int p2), .val (.int p3), .val (.int p4), .val (.int p5), .val (.int (2 : Int32)), .val (.int c0), .val (.int c1), .val (.int c2), .val (.int c3), .val (.int c4), .val (.ref a19), .val (.int st), .val (.int (st - (4 : Int32))), .unset] [(.int (rF (rn [c0, c1] 0 0)))])
      refine W29.istore me at_216 (l' := #[.val (.int p0), .val (.int p1), .val (.int p2), .val (.int p3), .val (.int p4), .val (.int p5), .val (.int (2 : Int32)), .val (.int c0), .val (.int c1), .val (.int c2), .val (.int c3), .val (.int c4), .val (.ref a19), .val (.int st), .val (.int (st - (4 : Int32))), .val (.int (rF (rn [c0, c1] 0 0)))]) rfl ?_
      refine W29.iload me at_218 rfl ?_
      refine W29.iload me at_220 rfl ?_
      show Fi p e below s Z _ _ _ _ T29 (mkF m 222 #[.val (.int p0), .val (.int p1), .val (.int p2), .val (.int p3), .val (.int p4), .val (.int p5), .val (.int (2 : Int32)), .val (.int c0), .val (.int c1), .val (.int c2), .val (.int c3), .val (.int c4), .val (.ref a19), .val (.int st), .val (.int (st - (4 : Int32))), .val (.int (rF (rn [c0, c1] 0 0)))] [(.int (st - (4 : Int32))), (.int (rF (rn [c0, c1] 0 0)))])
      refine W29.icN_ne me at_222 (by rw [hrn, rF, if_neg hs]) ?_
      refine W29.iconst me at_225 (v := 1) rfl ?_
      refine W29.goto me at_226 (pc' := 230) (by decide) (by decide) ?_
      show Fi p e below s Z _ _ _ _ T29 (mkF m 230 #[.val (.int p0), .val (.int p1), .val (.int p2), .val (.int p3), .val (.int p4), .val (.int p5), .val (.int (2 : Int32)), .val (.int c0), .val (.int c1), .val (.int c2), .val (.int c3), .val (.int c4), .val (.ref a19), .val (.int st), .val (.int (st - (4 : Int32))), .val (.int (rF (rn [c0, c1] 0 0)))] [(.int (1 : Int32))])
      exact W29.retN hEL me (Or.inl rfl) at_230 rfl (by decide) (by decide)
  ·
    show Fi p e below s Z _ _ _ _ T5 (mkF m 41 #[.val (.int p0), .val (.int p1), .val (.int p2), .val (.int p3), .val (.int p4), .val (.int p5), .val (.int (3 : Int32)), .val (.int c0), .val (.int c1), .val (.int c2), .val (.int c3), .val (.int c4), .unset, .unset, .unset, .unset] [])
    refine W5.iload me at_41 rfl ?_
    show Fi p e below s Z _ _ _ _ T5 (mkF m 43 #[.val (.int p0), .val (.int p1), .val (.int p2), .val (.int p3), .val (.int p4), .val (.int p5), .val (.int (3 : Int32)), .val (.int c0), .val (.int c1), .val (.int c2), .val (.int c3), .val (.int c4), .unset, .unset, .unset, .unset] [(.int (3 : Int32))])
    refine W5.newA me (hw _ (List.mem_of_getElem? (i := 4) rfl)) at_43 (by decide) (cap := 5) (by decide) (own_le rfl) (own_le rfl) (own_le rfl) ?_
    intro T30 h30 a30 k30 g30 W30 E30 A30
    show Fi p e below s Z _ _ _ _ T30 (mkF m 45 #[.val (.int p0), .val (.int p1), .val (.int p2), .val (.int p3), .val (.int p4), .val (.int p5), .val (.int (3 : Int32)), .val (.int c0), .val (.int c1), .val (.int c2), .val (.int c3), .val (.int c4), .unset, .unset, .unset, .unset] [(.ref a30)])
    have hz30 : Z.heap.size ≤ a30 := by have := hO.2.1; omega
    refine W30.astore me at_45 (l' := #[.val (.int p0), .val (.int p1), .val (.int p2), .val (.int p3), .val (.int p4), .val (.int p5), .val (.int (3 : Int32)), .val (.int c0), .val (.int c1), .val (.int c2), .val (.int c3), .val (.int c4), .val (.ref a30), .unset, .unset, .unset]) rfl rfl ?_
    refine W30.iload me at_47 rfl ?_
    show Fi p e below s Z _ _ _ _ T30 (mkF m 49 #[.val (.int p0), .val (.int p1), .val (.int p2), .val (.int p3), .val (.int p4), .val (.int p5), .val (.int (3 : Int32)), .val (.int c0), .val (.int c1), .val (.int c2), .val (.int c3), .val (.int c4), .val (.ref a30), .unset, .unset, .unset] [(.int (3 : Int32))])
    refine W30.ifN_le me at_49 (by decide) ?_
    show Fi p e below s Z _ _ _ _ T30 (mkF m 52 #[.val (.int p0), .val (.int p1), .val (.int p2), .val (.int p3), .val (.int p4), .val (.int p5), .val (.int (3 : Int32)), .val (.int c0), .val (.int c1), .val (.int c2), .val (.int c3), .val (.int c4), .val (.ref a30), .unset, .unset, .unset] [])
    refine W30.aload me at_52 rfl rfl ?_
    refine W30.iconst me at_54 (v := 0) rfl ?_
    refine W30.iload me at_55 rfl ?_
    show Fi p e below s Z _ _ _ _ T30 (mkF m 57 #[.val (.int p0), .val (.int p1), .val (.int p2), .val (.int p3), .val (.int p4), .val (.int p5), .val (.int (3 : Int32)), .val (.int c0), .val (.int c1), .val (.int c2), .val (.int c3), .val (.int c4), .val (.ref a30), .unset, .unset, .unset] [(.int c0), (.int (0 : Int32)), (.ref a30)])
    refine W30.castoreP me A30 (up16 q0) at_57 (i := 0) rfl (by decide) (by decide) hz30 ?_
    intro T31 h31 W31 R31 A31
    show Fi p e below s Z _ _ _ _ T31 (mkF m 58 #[.val (.int p0), .val (.int p1), .val (.int p2), .val (.int p3), .val (.int p4), .val (.int p5), .val (.int (3 : Int32)), .val (.int c0), .val (.int c1), .val (.int c2), .val (.int c3), .val (.int c4), .val (.ref a30), .unset, .unset, .unset] [])
    have E31 := own_xw E30 (by omega) R31
    refine W31.iload me at_58 rfl ?_
    refine W31.iconst me at_60 (v := 1) rfl ?_
    show Fi p e below s Z _ _ _ _ T31 (mkF m 61 #[.val (.int p0), .val (.int p1), .val (.int p2), .val (.int p3), .val (.int p4), .val (.int p5), .val (.int (3 : Int32)), .val (.int c0), .val (.int c1), .val (.int c2), .val (.int c3), .val (.int c4), .val (.ref a30), .unset, .unset, .unset] [(.int (1 : Int32)), (.int (3 : Int32))])
    refine W31.icN_le me at_61 (by decide) ?_
    show Fi p e below s Z _ _ _ _ T31 (mkF m 64 #[.val (.int p0), .val (.int p1), .val (.int p2), .val (.int p3), .val (.int p4), .val (.int p5), .val (.int (3 : Int32)), .val (.int c0), .val (.int c1), .val (.int c2), .val (.int c3), .val (.int c4), .val (.ref a30), .unset, .unset, .unset] [])
    refine W31.aload me at_64 rfl rfl ?_
    refine W31.iconst me at_66 (v := 1) rfl ?_
    refine W31.iload me at_67 rfl ?_
    show Fi p e below s Z _ _ _ _ T31 (mkF m 69 #[.val (.int p0), .val (.int p1), .val (.int p2), .val (.int p3), .val (.int p4), .val (.int p5), .val (.int (3 : Int32)), .val (.int c0), .val (.int c1), .val (.int c2), .val (.int c3), .val (.int c4), .val (.ref a30), .unset, .unset, .unset] [(.int c1), (.int (1 : Int32)), (.ref a30)])
    refine W31.castoreP me A31 (up16 q1) at_69 (i := 1) rfl (by decide) (by decide) hz30 ?_
    intro T32 h32 W32 R32 A32
    show Fi p e below s Z _ _ _ _ T32 (mkF m 70 #[.val (.int p0), .val (.int p1), .val (.int p2), .val (.int p3), .val (.int p4), .val (.int p5), .val (.int (3 : Int32)), .val (.int c0), .val (.int c1), .val (.int c2), .val (.int c3), .val (.int c4), .val (.ref a30), .unset, .unset, .unset] [])
    have E32 := own_xw E31 (by omega) R32
    refine W32.iload me at_70 rfl ?_
    refine W32.iconst me at_72 (v := 2) rfl ?_
    show Fi p e below s Z _ _ _ _ T32 (mkF m 73 #[.val (.int p0), .val (.int p1), .val (.int p2), .val (.int p3), .val (.int p4), .val (.int p5), .val (.int (3 : Int32)), .val (.int c0), .val (.int c1), .val (.int c2), .val (.int c3), .val (.int c4), .val (.ref a30), .unset, .unset, .unset] [(.int (2 : Int32)), (.int (3 : Int32))])
    refine W32.icN_le me at_73 (by decide) ?_
    show Fi p e below s Z _ _ _ _ T32 (mkF m 76 #[.val (.int p0), .val (.int p1), .val (.int p2), .val (.int p3), .val (.int p4), .val (.int p5), .val (.int (3 : Int32)), .val (.int c0), .val (.int c1), .val (.int c2), .val (.int c3), .val (.int c4), .val (.ref a30), .unset, .unset, .unset] [])
    refine W32.aload me at_76 rfl rfl ?_
    refine W32.iconst me at_78 (v := 2) rfl ?_
    refine W32.iload me at_79 rfl ?_
    show Fi p e below s Z _ _ _ _ T32 (mkF m 81 #[.val (.int p0), .val (.int p1), .val (.int p2), .val (.int p3), .val (.int p4), .val (.int p5), .val (.int (3 : Int32)), .val (.int c0), .val (.int c1), .val (.int c2), .val (.int c3), .val (.int c4), .val (.ref a30), .unset, .unset, .unset] [(.int c2), (.int (2 : Int32)), (.ref a30)])
    refine W32.castoreP me A32 (up16 q2) at_81 (i := 2) rfl (by decide) (by decide) hz30 ?_
    intro T33 h33 W33 R33 A33
    show Fi p e below s Z _ _ _ _ T33 (mkF m 82 #[.val (.int p0), .val (.int p1), .val (.int p2), .val (.int p3), .val (.int p4), .val (.int p5), .val (.int (3 : Int32)), .val (.int c0), .val (.int c1), .val (.int c2), .val (.int c3), .val (.int c4), .val (.ref a30), .unset, .unset, .unset] [])
    have E33 := own_xw E32 (by omega) R33
    refine W33.iload me at_82 rfl ?_
    refine W33.iconst me at_84 (v := 3) rfl ?_
    show Fi p e below s Z _ _ _ _ T33 (mkF m 85 #[.val (.int p0), .val (.int p1), .val (.int p2), .val (.int p3), .val (.int p4), .val (.int p5), .val (.int (3 : Int32)), .val (.int c0), .val (.int c1), .val (.int c2), .val (.int c3), .val (.int c4), .val (.ref a30), .unset, .unset, .unset] [(.int (3 : Int32)), (.int (3 : Int32))])
    refine W33.icY_le me at_85 (by decide) (pc' := 94) (by decide) (by decide) ?_
    show Fi p e below s Z _ _ _ _ T33 (mkF m 94 #[.val (.int p0), .val (.int p1), .val (.int p2), .val (.int p3), .val (.int p4), .val (.int p5), .val (.int (3 : Int32)), .val (.int c0), .val (.int c1), .val (.int c2), .val (.int c3), .val (.int c4), .val (.ref a30), .unset, .unset, .unset] [])
    refine W33.iload me at_94 rfl ?_
    refine W33.iconst me at_96 (v := 4) rfl ?_
    show Fi p e below s Z _ _ _ _ T33 (mkF m 97 #[.val (.int p0), .val (.int p1), .val (.int p2), .val (.int p3), .val (.int p4), .val (.int p5), .val (.int (3 : Int32)), .val (.int c0), .val (.int c1), .val (.int c2), .val (.int c3), .val (.int c4), .val (.ref a30), .unset, .unset, .unset] [(.int (4 : Int32)), (.int (3 : Int32))])
    refine W33.icY_le me at_97 (by decide) (pc' := 106) (by decide) (by decide) ?_
    show Fi p e below s Z _ _ _ _ T33 (mkF m 106 #[.val (.int p0), .val (.int p1), .val (.int p2), .val (.int p3), .val (.int p4), .val (.int p5), .val (.int (3 : Int32)), .val (.int c0), .val (.int c1), .val (.int c2), .val (.int c3), .val (.int c4), .val (.ref a30), .unset, .unset, .unset] [])
    refine W33.iconst me at_106 (v := 0) rfl ?_
    refine W33.istore me at_107 (l' := #[.val (.int p0), .val (.int p1), .val (.int p2), .val (.int p3), .val (.int p4), .val (.int p5), .val (.int (3 : Int32)), .val (.int c0), .val (.int c1), .val (.int c2), .val (.int c3), .val (.int c4), .val (.ref a30), .val (.int (0 : Int32)), .unset, .unset]) rfl ?_
    refine W33.iload me at_109 rfl ?_
    show Fi p e below s Z _ _ _ _ T33 (mkF m 111 #[.val (.int p0), .val (.int p1), .val (.int p2), .val (.int p3), .val (.int p4), .val (.int p5), .val (.int (3 : Int32)), .val (.int c0), .val (.int c1), .val (.int c2), .val (.int c3), .val (.int c4), .val (.ref a30), .val (.int (0 : Int32)), .unset, .unset] [(.int (3 : Int32))])
    refine W33.ifN_le me at_111 (by decide) ?_
    show Fi p e below s Z _ _ _ _ T33 (mkF m 114 #[.val (.int p0), .val (.int p1), .val (.int p2), .val (.int p3), .val (.int p4), .val (.int p5), .val (.int (3 : Int32)), .val (.int c0), .val (.int c1), .val (.int c2), .val (.int c3), .val (.int c4), .val (.ref a30), .val (.int (0 : Int32)), .unset, .unset] [])
    refine W33.iload me at_114 rfl ?_
    refine W33.iload me at_116 rfl ?_
    refine W33.iconst me at_118 (v := 0) rfl ?_
    show Fi p e below s Z _ _ _ _ T33 (mkF m 119 #[.val (.int p0), .val (.int p1), .val (.int p2), .val (.int p3), .val (.int p4), .val (.int p5), .val (.int (3 : Int32)), .val (.int c0), .val (.int c1), .val (.int c2), .val (.int c3), .val (.int c4), .val (.ref a30), .val (.int (0 : Int32)), .unset, .unset] [(.int (0 : Int32)), (.int c0), (.int (0 : Int32))])
    refine W33.callS me hEL (hw _ (List.mem_of_getElem? (i := 5) rfl)) (hw _ (List.mem_of_getElem? (i := 6) rfl)) (hw _ (List.mem_of_getElem? (i := 2) rfl)) (hw _ (List.mem_of_getElem? (i := 7) rfl)) (argsL := [(.int (0 : Int32)), (.int c0), (.int (0 : Int32))]) (rest := []) (c_step (ss := []) g W33.old) at_119 (by decide) (fun _ q => nomatch q) rfl (lenOf pd_13 rfl) (own_le rfl) (own_le rfl) (own_le rfl) (own_le rfl) rfl ?_
    intro T34 h34 v34 W34 z34 q34
    obtain ⟨_, rfl, rfl, rfl⟩ := q34
    show Fi p e below s Z _ _ _ _ T34 (mkF m 122 #[.val (.int p0), .val (.int p1), .val (.int p2), .val (.int p3), .val (.int p4), .val (.int p5), .val (.int (3 : Int32)), .val (.int c0), .val (.int c1), .val (.int c2), .val (.int c3), .val (.int c4), .val (.ref a30), .val (.int (0 : Int32)), .unset, .unset] [(.int (stF (0 : Int32) c0 (0 : Int32)))])
    refine W34.istore me at_122 (l' := #[.val (.int p0), .val (.int p1), .val (.int p2), .val (.int p3), .val (.int p4), .val (.int p5), .val (.int (3 : Int32)), .val (.int c0), .val (.int c1), .val (.int c2), .val (.int c3), .val (.int c4), .val (.ref a30), .val (.int (stF (0 : Int32) c0 (0 : Int32))), .unset, .unset]) rfl ?_
    refine W34.iload me at_124 rfl ?_
    refine W34.iconst me at_126 (v := 1) rfl ?_
    show Fi p e below s Z _ _ _ _ T34 (mkF m 127 #[.val (.int p0), .val (.int p1), .val (.int p2), .val (.int p3), .val (.int p4), .val (.int p5), .val (.int (3 : Int32)), .val (.int c0), .val (.int c1), .val (.int c2), .val (.int c3), .val (.int c4), .val (.ref a30), .val (.int (stF (0 : Int32) c0 (0 : Int32))), .unset, .unset] [(.int (1 : Int32)), (.int (3 : Int32))])
    refine W34.icN_le me at_127 (by decide) ?_
    show Fi p e below s Z _ _ _ _ T34 (mkF m 130 #[.val (.int p0), .val (.int p1), .val (.int p2), .val (.int p3), .val (.int p4), .val (.int p5), .val (.int (3 : Int32)), .val (.int c0), .val (.int c1), .val (.int c2), .val (.int c3), .val (.int c4), .val (.ref a30), .val (.int (stF (0 : Int32) c0 (0 : Int32))), .unset, .unset] [])
    refine W34.iload me at_130 rfl ?_
    refine W34.iload me at_132 rfl ?_
    refine W34.iconst me at_134 (v := 1) rfl ?_
    show Fi p e below s Z _ _ _ _ T34 (mkF m 135 #[.val (.int p0), .val (.int p1), .val (.int p2), .val (.int p3), .val (.int p4), .val (.int p5), .val (.int (3 : Int32)), .val (.int c0), .val (.int c1), .val (.int c2), .val (.int c3), .val (.int c4), .val (.ref a30), .val (.int (stF (0 : Int32) c0 (0 : Int32))), .unset, .unset] [(.int (1 : Int32)), (.int c1), (.int (stF (0 : Int32) c0 (0 : Int32)))])
    refine W34.callS me hEL (hw _ (List.mem_of_getElem? (i := 5) rfl)) (hw _ (List.mem_of_getElem? (i := 6) rfl)) (hw _ (List.mem_of_getElem? (i := 2) rfl)) (hw _ (List.mem_of_getElem? (i := 7) rfl)) (argsL := [(.int (stF (0 : Int32) c0 (0 : Int32))), (.int c1), (.int (1 : Int32))]) (rest := []) (c_step (ss := []) g W34.old) at_135 (by decide) (fun _ q => nomatch q) rfl (lenOf pd_13 rfl) (own_le rfl) (own_le rfl) (own_le rfl) (own_le rfl) rfl ?_
    intro T35 h35 v35 W35 z35 q35
    obtain ⟨_, rfl, rfl, rfl⟩ := q35
    show Fi p e below s Z _ _ _ _ T35 (mkF m 138 #[.val (.int p0), .val (.int p1), .val (.int p2), .val (.int p3), .val (.int p4), .val (.int p5), .val (.int (3 : Int32)), .val (.int c0), .val (.int c1), .val (.int c2), .val (.int c3), .val (.int c4), .val (.ref a30), .val (.int (stF (0 : Int32) c0 (0 : Int32))), .unset, .unset] [(.int (stF (stF (0 : Int32) c0 (0 : Int32)) c1 (1 : Int32)))])
    refine W35.istore me at_138 (l' := #[.val (.int p0), .val (.int p1), .val (.int p2), .val (.int p3), .val (.int p4), .val (.int p5), .val (.int (3 : Int32)), .val (.int c0), .val (.int c1), .val (.int c2), .val (.int c3), .val (.int c4), .val (.ref a30), .val (.int (stF (stF (0 : Int32) c0 (0 : Int32)) c1 (1 : Int32))), .unset, .unset]) rfl ?_
    refine W35.iload me at_140 rfl ?_
    refine W35.iconst me at_142 (v := 2) rfl ?_
    show Fi p e below s Z _ _ _ _ T35 (mkF m 143 #[.val (.int p0), .val (.int p1), .val (.int p2), .val (.int p3), .val (.int p4), .val (.int p5), .val (.int (3 : Int32)), .val (.int c0), .val (.int c1), .val (.int c2), .val (.int c3), .val (.int c4), .val (.ref a30), .val (.int (stF (stF (0 : Int32) c0 (0 : Int32)) c1 (1 : Int32))), .unset, .unset] [(.int (2 : Int32)), (.int (3 : Int32))])
    refine W35.icN_le me at_143 (by decide) ?_
    show Fi p e below s Z _ _ _ _ T35 (mkF m 146 #[.val (.int p0), .val (.int p1), .val (.int p2), .val (.int p3), .val (.int p4), .val (.int p5), .val (.int (3 : Int32)), .val (.int c0), .val (.int c1), .val (.int c2), .val (.int c3), .val (.int c4), .val (.ref a30), .val (.int (stF (stF (0 : Int32) c0 (0 : Int32)) c1 (1 : Int32))), .unset, .unset] [])
    refine W35.iload me at_146 rfl ?_
    refine W35.iload me at_148 rfl ?_
    refine W35.iconst me at_150 (v := 2) rfl ?_
    show Fi p e below s Z _ _ _ _ T35 (mkF m 151 #[.val (.int p0), .val (.int p1), .val (.int p2), .val (.int p3), .val (.int p4), .val (.int p5), .val (.int (3 : Int32)), .val (.int c0), .val (.int c1), .val (.int c2), .val (.int c3), .val (.int c4), .val (.ref a30), .val (.int (stF (stF (0 : Int32) c0 (0 : Int32)) c1 (1 : Int32))), .unset, .unset] [(.int (2 : Int32)), (.int c2), (.int (stF (stF (0 : Int32) c0 (0 : Int32)) c1 (1 : Int32)))])
    refine W35.callS me hEL (hw _ (List.mem_of_getElem? (i := 5) rfl)) (hw _ (List.mem_of_getElem? (i := 6) rfl)) (hw _ (List.mem_of_getElem? (i := 2) rfl)) (hw _ (List.mem_of_getElem? (i := 7) rfl)) (argsL := [(.int (stF (stF (0 : Int32) c0 (0 : Int32)) c1 (1 : Int32))), (.int c2), (.int (2 : Int32))]) (rest := []) (c_step (ss := []) g W35.old) at_151 (by decide) (fun _ q => nomatch q) rfl (lenOf pd_13 rfl) (own_le rfl) (own_le rfl) (own_le rfl) (own_le rfl) rfl ?_
    intro T36 h36 v36 W36 z36 q36
    obtain ⟨_, rfl, rfl, rfl⟩ := q36
    show Fi p e below s Z _ _ _ _ T36 (mkF m 154 #[.val (.int p0), .val (.int p1), .val (.int p2), .val (.int p3), .val (.int p4), .val (.int p5), .val (.int (3 : Int32)), .val (.int c0), .val (.int c1), .val (.int c2), .val (.int c3), .val (.int c4), .val (.ref a30), .val (.int (stF (stF (0 : Int32) c0 (0 : Int32)) c1 (1 : Int32))), .unset, .unset] [(.int (stF (stF (stF (0 : Int32) c0 (0 : Int32)) c1 (1 : Int32)) c2 (2 : Int32)))])
    refine W36.istore me at_154 (l' := #[.val (.int p0), .val (.int p1), .val (.int p2), .val (.int p3), .val (.int p4), .val (.int p5), .val (.int (3 : Int32)), .val (.int c0), .val (.int c1), .val (.int c2), .val (.int c3), .val (.int c4), .val (.ref a30), .val (.int (stF (stF (stF (0 : Int32) c0 (0 : Int32)) c1 (1 : Int32)) c2 (2 : Int32))), .unset, .unset]) rfl ?_
    refine W36.iload me at_156 rfl ?_
    refine W36.iconst me at_158 (v := 3) rfl ?_
    show Fi p e below s Z _ _ _ _ T36 (mkF m 159 #[.val (.int p0), .val (.int p1), .val (.int p2), .val (.int p3), .val (.int p4), .val (.int p5), .val (.int (3 : Int32)), .val (.int c0), .val (.int c1), .val (.int c2), .val (.int c3), .val (.int c4), .val (.ref a30), .val (.int (stF (stF (stF (0 : Int32) c0 (0 : Int32)) c1 (1 : Int32)) c2 (2 : Int32))), .unset, .unset] [(.int (3 : Int32)), (.int (3 : Int32))])
    refine W36.icY_le me at_159 (by decide) (pc' := 172) (by decide) (by decide) ?_
    show Fi p e below s Z _ _ _ _ T36 (mkF m 172 #[.val (.int p0), .val (.int p1), .val (.int p2), .val (.int p3), .val (.int p4), .val (.int p5), .val (.int (3 : Int32)), .val (.int c0), .val (.int c1), .val (.int c2), .val (.int c3), .val (.int c4), .val (.ref a30), .val (.int (stF (stF (stF (0 : Int32) c0 (0 : Int32)) c1 (1 : Int32)) c2 (2 : Int32))), .unset, .unset] [])
    refine W36.iload me at_172 rfl ?_
    refine W36.iconst me at_174 (v := 4) rfl ?_
    show Fi p e below s Z _ _ _ _ T36 (mkF m 175 #[.val (.int p0), .val (.int p1), .val (.int p2), .val (.int p3), .val (.int p4), .val (.int p5), .val (.int (3 : Int32)), .val (.int c0), .val (.int c1), .val (.int c2), .val (.int c3), .val (.int c4), .val (.ref a30), .val (.int (stF (stF (stF (0 : Int32) c0 (0 : Int32)) c1 (1 : Int32)) c2 (2 : Int32))), .unset, .unset] [(.int (4 : Int32)), (.int (3 : Int32))])
    refine W36.icY_le me at_175 (by decide) (pc' := 188) (by decide) (by decide) ?_
    show Fi p e below s Z _ _ _ _ T36 (mkF m 188 #[.val (.int p0), .val (.int p1), .val (.int p2), .val (.int p3), .val (.int p4), .val (.int p5), .val (.int (3 : Int32)), .val (.int c0), .val (.int c1), .val (.int c2), .val (.int c3), .val (.int c4), .val (.ref a30), .val (.int (stF (stF (stF (0 : Int32) c0 (0 : Int32)) c1 (1 : Int32)) c2 (2 : Int32))), .unset, .unset] [])
    show Fi p e below s Z _ _ _ _ T36 (mkF m 188 #[.val (.int p0), .val (.int p1), .val (.int p2), .val (.int p3), .val (.int p4), .val (.int p5), .val (.int (3 : Int32)), .val (.int c0), .val (.int c1), .val (.int c2), .val (.int c3), .val (.int c4), .val (.ref a30), .val (.int (stF (stF (stF (0 : Int32) c0 (0 : Int32)) c1 (1 : Int32)) c2 (2 : Int32))), .unset, .unset] [])
    obtain ⟨st, hst⟩ : ∃ z, z = (stF (stF (stF (0 : Int32) c0 (0 : Int32)) c1 (1 : Int32)) c2 (2 : Int32)) := ⟨_, rfl⟩
    have hrn : rn [c0, c1, c2] 0 0 = st := hst ▸ rfl
    rw [← hst]
    show Fi p e below s Z _ _ _ _ T36 (mkF m 188 #[.val (.int p0), .val (.int p1), .val (.int p2), .val (.int p3), .val (.int p4), .val (.int p5), .val (.int (3 : Int32)), .val (.int c0), .val (.int c1), .val (.int c2), .val (.int c3), .val (.int c4), .val (.ref a30), .val (.int st), .unset, .unset] [])
    refine W36.iload me at_188 rfl ?_
    refine W36.iconst me at_190 (v := 4) rfl ?_
    show Fi p e below s Z _ _ _ _ T36 (mkF m 191 #[.val (.int p0), .val (.int p1), .val (.int p2), .val (.int p3), .val (.int p4), .val (.int p5), .val (.int (3 : Int32)), .val (.int c0), .val (.int c1), .val (.int c2), .val (.int c3), .val (.int c4), .val (.ref a30), .val (.int st), .unset, .unset] [(.int (4 : Int32)), (.int st)])
    refine W36.ic_lt me at_191 (pc' := 201) (by decide) (by decide) (fun hs => ?_) (fun hs => ?_)
    ·
      show Fi p e below s Z _ _ _ _ T36 (mkF m 201 #[.val (.int p0), .val (.int p1), .val (.int p2), .val (.int p3), .val (.int p4), .val (.int p5), .val (.int (3 : Int32)), .val (.int c0), .val (.int c1), .val (.int c2), .val (.int c3), .val (.int c4), .val (.ref a30), .val (.int st), .unset, .unset] [])
      refine W36.iconst me at_201 (v := -1) rfl ?_
      refine W36.istore me at_202 (l' := #[.val (.int p0), .val (.int p1), .val (.int p2), .val (.int p3), .val (.int p4), .val (.int p5), .val (.int (3 : Int32)), .val (.int c0), .val (.int c1), .val (.int c2), .val (.int c3), .val (.int c4), .val (.ref a30), .val (.int st), .val (.int (-1 : Int32)), .unset]) rfl ?_
      show Fi p e below s Z _ _ _ _ T36 (mkF m 204 #[.val (.int p0), .val (.int p1), .val (.int p2), .val (.int p3), .val (.int p4), .val (.int p5), .val (.int (3 : Int32)), .val (.int c0), .val (.int c1), .val (.int c2), .val (.int c3), .val (.int c4), .val (.ref a30), .val (.int st), .val (.int (-1 : Int32)), .unset] [])
      refine W36.newO me (hw _ (List.mem_of_getElem? (i := 8) rfl)) (hw _ (List.mem_of_getElem? (i := 9) rfl)) (hw _ (List.mem_of_getElem? (i := 10) rfl)) at_204 (own_le rfl) (own_le rfl) ?_
      intro T37 h37 a37 g37 W37 E37 A37 D37 U37
      show Fi p e below s Z _ _ _ _ T37 (mkF m 207 #[.val (.int p0), .val (.int p1), .val (.int p2), .val (.int p3), .val (.int p4), .val (.int p5), .val (.int (3 : Int32)), .val (.int c0), .val (.int c1), .val (.int c2), .val (.int c3), .val (.int c4), .val (.ref a30), .val (.int st), .val (.int (-1 : Int32)), .unset] [(.ref a37)])
      refine W37.dup me at_207 rfl ?_
      refine W37.aload me at_208 rfl rfl ?_
      show Fi p e below s Z _ _ _ _ T37 (mkF m 210 #[.val (.int p0), .val (.int p1), .val (.int p2), .val (.int p3), .val (.int p4), .val (.int p5), .val (.int (3 : Int32)), .val (.int c0), .val (.int c1), .val (.int c2), .val (.int c3), .val (.int c4), .val (.ref a30), .val (.int st), .val (.int (-1 : Int32)), .unset] [(.ref a30), (.ref a37), (.ref a37)])
      refine W37.callI me hEL (hw _ (List.mem_of_getElem? (i := 11) rfl)) (hw _ (List.mem_of_getElem? (i := 12) rfl)) (hw _ (List.mem_of_getElem? (i := 10) rfl)) (hw _ (List.mem_of_getElem? (i := 13) rfl)) rfl (a := a37) (argsL := [(.ref a30)]) (rest := [(.ref a37)]) (c_init3 g W37.old (cs := [c0, c1, c2]) A37 (D37 (Or.inr (hw _ (List.mem_of_getElem? (i := 36) rfl))) (ty := .array .byte) (by decide)) (D37 (Or.inr (hw _ (List.mem_of_getElem? (i := 34) rfl))) (ty := .byte) (by decide)) (A33.ext E37) (List.mem_cons_self ..) (by have := W36.old.2.1; omega) (C8.cons q0 (C8.cons q1 (C8.cons q2 C8.nil))) (own_le rfl)) at_210 (by decide) (fun _ q => q) rfl (lenOf pd_11 rfl) (own_le rfl) (own_le rfl) (own_le rfl) (own_le rfl) rfl ?_
      intro T38 h38 v38 W38 z38 q38
      obtain ⟨rfl, K38, L38⟩ := q38
      show Fi p e below s Z _ _ _ _ T38 (mkF m 213 #[.val (.int p0), .val (.int p1), .val (.int p2), .val (.int p3), .val (.int p4), .val (.int p5), .val (.int (3 : Int32)), .val (.int c0), .val (.int c1), .val (.int c2), .val (.int c3), .val (.int c4), .val (.ref a30), .val (.int st), .val (.int (-1 : Int32)), .unset] [(.ref a37)])
      refine W38.callS me hEL (hw _ (List.mem_of_getElem? (i := 37) rfl)) (hw _ (List.mem_of_getElem? (i := 38) rfl)) (hw _ (List.mem_of_getElem? (i := 39) rfl)) (hw _ (List.mem_of_getElem? (i := 40) rfl)) (argsL := [(.ref a37)]) (rest := []) (c_cstart (ss := []) g W38.old L38) at_213 (by decide) (fun _ q => nomatch q) rfl (lenOf pd_12 rfl) (own_le rfl) (own_le rfl) (own_le rfl) (own_le rfl) rfl ?_
      intro T39 h39 v39 W39 z39 q39
      obtain ⟨_, rfl, rfl, rfl⟩ := q39
      show Fi p e below s Z _ _ _ _ T39 (mkF m 216 #[.val (.int p0), .val (.int p1), .val (.int p2), .val (.int p3), .val (.int p4), .val (.int p5), .val (.int (3 : Int32)), .val (.int c0), .val (.int c1), .val (.int c2), .val (.int c3), .val (.int c4), .val (.ref a30), .val (.int st), .val (.int (-1 : Int32)), .unset] [(.int (rF (rn [c0, c1, c2] 0 0)))])
      refine W39.istore me at_216 (l' := #[.val (.int p0), .val (.int p1), .val (.int p2), .val (.int p3), .val (.int p4), .val (.int p5), .val (.int (3 : Int32)), .val (.int c0), .val (.int c1), .val (.int c2), .val (.int c3), .val (.int c4), .val (.ref a30), .val (.int st), .val (.int (-1 : Int32)), .val (.int (rF (rn [c0, c1, c2] 0 0)))]) rfl ?_
      refine W39.iload me at_218 rfl ?_
      refine W39.iload me at_220 rfl ?_
      show Fi p e below s Z _ _ _ _ T39 (mkF m 222 #[.val (.int p0), .val (.int p1), .val (.int p2), .val (.int p3), .val (.int p4), .val (.int p5), .val (.int (3 : Int32)), .val (.int c0), .val (.int c1), .val (.int c2), .val (.int c3), .val (.int c4), .val (.ref a30), .val (.int st), .val (.int (-1 : Int32)), .val (.int (rF (rn [c0, c1, c2] 0 0)))] [(.int (-1 : Int32)), (.int (rF (rn [c0, c1, c2] 0 0)))])
      refine W39.icN_ne me at_222 (by rw [hrn, rF, if_pos hs]) ?_
      refine W39.iconst me at_225 (v := 1) rfl ?_
      refine W39.goto me at_226 (pc' := 230) (by decide) (by decide) ?_
      show Fi p e below s Z _ _ _ _ T39 (mkF m 230 #[.val (.int p0), .val (.int p1), .val (.int p2), .val (.int p3), .val (.int p4), .val (.int p5), .val (.int (3 : Int32)), .val (.int c0), .val (.int c1), .val (.int c2), .val (.int c3), .val (.int c4), .val (.ref a30), .val (.int st), .val (.int (-1 : Int32)), .val (.int (rF (rn [c0, c1, c2] 0 0)))] [(.int (1 : Int32))])
      exact W39.retN hEL me (Or.inl rfl) at_230 rfl (by decide) (by decide)
    ·
      show Fi p e below s Z _ _ _ _ T36 (mkF m 194 #[.val (.int p0), .val (.int p1), .val (.int p2), .val (.int p3), .val (.int p4), .val (.int p5), .val (.int (3 : Int32)), .val (.int c0), .val (.int c1), .val (.int c2), .val (.int c3), .val (.int c4), .val (.ref a30), .val (.int st), .unset, .unset] [])
      refine W36.iload me at_194 rfl ?_
      refine W36.iconst me at_196 (v := 4) rfl ?_
      refine W36.isub me at_197 ?_
      refine W36.goto me at_198 (pc' := 202) (by decide) (by decide) ?_
      refine W36.istore me at_202 (l' := #[.val (.int p0), .val (.int p1), .val (.int p2), .val (.int p3), .val (.int p4), .val (.int p5), .val (.int (3 : Int32)), .val (.int c0), .val (.int c1), .val (.int c2), .val (.int c3), .val (.int c4), .val (.ref a30), .val (.int st), .val (.int (st - (4 : Int32))), .unset]) rfl ?_
      show Fi p e below s Z _ _ _ _ T36 (mkF m 204 #[.val (.int p0), .val (.int p1), .val (.int p2), .val (.int p3), .val (.int p4), .val (.int p5), .val (.int (3 : Int32)), .val (.int c0), .val (.int c1), .val (.int c2), .val (.int c3), .val (.int c4), .val (.ref a30), .val (.int st), .val (.int (st - (4 : Int32))), .unset] [])
      refine W36.newO me (hw _ (List.mem_of_getElem? (i := 8) rfl)) (hw _ (List.mem_of_getElem? (i := 9) rfl)) (hw _ (List.mem_of_getElem? (i := 10) rfl)) at_204 (own_le rfl) (own_le rfl) ?_
      intro T40 h40 a40 g40 W40 E40 A40 D40 U40
      show Fi p e below s Z _ _ _ _ T40 (mkF m 207 #[.val (.int p0), .val (.int p1), .val (.int p2), .val (.int p3), .val (.int p4), .val (.int p5), .val (.int (3 : Int32)), .val (.int c0), .val (.int c1), .val (.int c2), .val (.int c3), .val (.int c4), .val (.ref a30), .val (.int st), .val (.int (st - (4 : Int32))), .unset] [(.ref a40)])
      refine W40.dup me at_207 rfl ?_
      refine W40.aload me at_208 rfl rfl ?_
      show Fi p e below s Z _ _ _ _ T40 (mkF m 210 #[.val (.int p0), .val (.int p1), .val (.int p2), .val (.int p3), .val (.int p4), .val (.int p5), .val (.int (3 : Int32)), .val (.int c0), .val (.int c1), .val (.int c2), .val (.int c3), .val (.int c4), .val (.ref a30), .val (.int st), .val (.int (st - (4 : Int32))), .unset] [(.ref a30), (.ref a40), (.ref a40)])
      refine W40.callI me hEL (hw _ (List.mem_of_getElem? (i := 11) rfl)) (hw _ (List.mem_of_getElem? (i := 12) rfl)) (hw _ (List.mem_of_getElem? (i := 10) rfl)) (hw _ (List.mem_of_getElem? (i := 13) rfl)) rfl (a := a40) (argsL := [(.ref a30)]) (rest := [(.ref a40)]) (c_init3 g W40.old (cs := [c0, c1, c2]) A40 (D40 (Or.inr (hw _ (List.mem_of_getElem? (i := 36) rfl))) (ty := .array .byte) (by decide)) (D40 (Or.inr (hw _ (List.mem_of_getElem? (i := 34) rfl))) (ty := .byte) (by decide)) (A33.ext E40) (List.mem_cons_self ..) (by have := W36.old.2.1; omega) (C8.cons q0 (C8.cons q1 (C8.cons q2 C8.nil))) (own_le rfl)) at_210 (by decide) (fun _ q => q) rfl (lenOf pd_11 rfl) (own_le rfl) (own_le rfl) (own_le rfl) (own_le rfl) rfl ?_
      intro T41 h41 v41 W41 z41 q41
      obtain ⟨rfl, K41, L41⟩ := q41
      show Fi p e below s Z _ _ _ _ T41 (mkF m 213 #[.val (.int p0), .val (.int p1), .val (.int p2), .val (.int p3), .val (.int p4), .val (.int p5), .val (.int (3 : Int32)), .val (.int c0), .val (.int c1), .val (.int c2), .val (.int c3), .val (.int c4), .val (.ref a30), .val (.int st), .val (.int (st - (4 : Int32))), .unset] [(.ref a40)])
      refine W41.callS me hEL (hw _ (List.mem_of_getElem? (i := 37) rfl)) (hw _ (List.mem_of_getElem? (i := 38) rfl)) (hw _ (List.mem_of_getElem? (i := 39) rfl)) (hw _ (List.mem_of_getElem? (i := 40) rfl)) (argsL := [(.ref a40)]) (rest := []) (c_cstart (ss := []) g W41.old L41) at_213 (by decide) (fun _ q => nomatch q) rfl (lenOf pd_12 rfl) (own_le rfl) (own_le rfl) (own_le rfl) (own_le rfl) rfl ?_
      intro T42 h42 v42 W42 z42 q42
      obtain ⟨_, rfl, rfl, rfl⟩ := q42
      show Fi p e below s Z _ _ _ _ T42 (mkF m 216 #[.val (.int p0), .val (.int p1), .val (.int p2), .val (.int p3), .val (.int p4), .val (.int p5), .val (.int (3 : Int32)), .val (.int c0), .val (.int c1), .val (.int c2), .val (.int c3), .val (.int c4), .val (.ref a30), .val (.int st), .val (.int (st - (4 : Int32))), .unset] [(.int (rF (rn [c0, c1, c2] 0 0)))])
      refine W42.istore me at_216 (l' := #[.val (.int p0), .val (.int p1), .val (.int p2), .val (.int p3), .val (.int p4), .val (.int p5), .val (.int (3 : Int32)), .val (.int c0), .val (.int c1), .val (.int c2), .val (.int c3), .val (.int c4), .val (.ref a30), .val (.int st), .val (.int (st - (4 : Int32))), .val (.int (rF (rn [c0, c1, c2] 0 0)))]) rfl ?_
      refine W42.iload me at_218 rfl ?_
      refine W42.iload me at_220 rfl ?_
      show Fi p e below s Z _ _ _ _ T42 (mkF m 222 #[.val (.int p0), .val (.int p1), .val (.int p2), .val (.int p3), .val (.int p4), .val (.int p5), .val (.int (3 : Int32)), .val (.int c0), .val (.int c1), .val (.int c2), .val (.int c3), .val (.int c4), .val (.ref a30), .val (.int st), .val (.int (st - (4 : Int32))), .val (.int (rF (rn [c0, c1, c2] 0 0)))] [(.int (st - (4 : Int32))), (.int (rF (rn [c0, c1, c2] 0 0)))])
      refine W42.icN_ne me at_222 (by rw [hrn, rF, if_neg hs]) ?_
      refine W42.iconst me at_225 (v := 1) rfl ?_
      refine W42.goto me at_226 (pc' := 230) (by decide) (by decide) ?_
      show Fi p e below s Z _ _ _ _ T42 (mkF m 230 #[.val (.int p0), .val (.int p1), .val (.int p2), .val (.int p3), .val (.int p4), .val (.int p5), .val (.int (3 : Int32)), .val (.int c0), .val (.int c1), .val (.int c2), .val (.int c3), .val (.int c4), .val (.ref a30), .val (.int st), .val (.int (st - (4 : Int32))), .val (.int (rF (rn [c0, c1, c2] 0 0)))] [(.int (1 : Int32))])
      exact W42.retN hEL me (Or.inl rfl) at_230 rfl (by decide) (by decide)
  ·
    show Fi p e below s Z _ _ _ _ T5 (mkF m 41 #[.val (.int p0), .val (.int p1), .val (.int p2), .val (.int p3), .val (.int p4), .val (.int p5), .val (.int (4 : Int32)), .val (.int c0), .val (.int c1), .val (.int c2), .val (.int c3), .val (.int c4), .unset, .unset, .unset, .unset] [])
    refine W5.iload me at_41 rfl ?_
    show Fi p e below s Z _ _ _ _ T5 (mkF m 43 #[.val (.int p0), .val (.int p1), .val (.int p2), .val (.int p3), .val (.int p4), .val (.int p5), .val (.int (4 : Int32)), .val (.int c0), .val (.int c1), .val (.int c2), .val (.int c3), .val (.int c4), .unset, .unset, .unset, .unset] [(.int (4 : Int32))])
    refine W5.newA me (hw _ (List.mem_of_getElem? (i := 4) rfl)) at_43 (by decide) (cap := 5) (by decide) (own_le rfl) (own_le rfl) (own_le rfl) ?_
    intro T43 h43 a43 k43 g43 W43 E43 A43
    show Fi p e below s Z _ _ _ _ T43 (mkF m 45 #[.val (.int p0), .val (.int p1), .val (.int p2), .val (.int p3), .val (.int p4), .val (.int p5), .val (.int (4 : Int32)), .val (.int c0), .val (.int c1), .val (.int c2), .val (.int c3), .val (.int c4), .unset, .unset, .unset, .unset] [(.ref a43)])
    have hz43 : Z.heap.size ≤ a43 := by have := hO.2.1; omega
    refine W43.astore me at_45 (l' := #[.val (.int p0), .val (.int p1), .val (.int p2), .val (.int p3), .val (.int p4), .val (.int p5), .val (.int (4 : Int32)), .val (.int c0), .val (.int c1), .val (.int c2), .val (.int c3), .val (.int c4), .val (.ref a43), .unset, .unset, .unset]) rfl rfl ?_
    refine W43.iload me at_47 rfl ?_
    show Fi p e below s Z _ _ _ _ T43 (mkF m 49 #[.val (.int p0), .val (.int p1), .val (.int p2), .val (.int p3), .val (.int p4), .val (.int p5), .val (.int (4 : Int32)), .val (.int c0), .val (.int c1), .val (.int c2), .val (.int c3), .val (.int c4), .val (.ref a43), .unset, .unset, .unset] [(.int (4 : Int32))])
    refine W43.ifN_le me at_49 (by decide) ?_
    show Fi p e below s Z _ _ _ _ T43 (mkF m 52 #[.val (.int p0), .val (.int p1), .val (.int p2), .val (.int p3), .val (.int p4), .val (.int p5), .val (.int (4 : Int32)), .val (.int c0), .val (.int c1), .val (.int c2), .val (.int c3), .val (.int c4), .val (.ref a43), .unset, .unset, .unset] [])
    refine W43.aload me at_52 rfl rfl ?_
    refine W43.iconst me at_54 (v := 0) rfl ?_
    refine W43.iload me at_55 rfl ?_
    show Fi p e below s Z _ _ _ _ T43 (mkF m 57 #[.val (.int p0), .val (.int p1), .val (.int p2), .val (.int p3), .val (.int p4), .val (.int p5), .val (.int (4 : Int32)), .val (.int c0), .val (.int c1), .val (.int c2), .val (.int c3), .val (.int c4), .val (.ref a43), .unset, .unset, .unset] [(.int c0), (.int (0 : Int32)), (.ref a43)])
    refine W43.castoreP me A43 (up16 q0) at_57 (i := 0) rfl (by decide) (by decide) hz43 ?_
    intro T44 h44 W44 R44 A44
    show Fi p e below s Z _ _ _ _ T44 (mkF m 58 #[.val (.int p0), .val (.int p1), .val (.int p2), .val (.int p3), .val (.int p4), .val (.int p5), .val (.int (4 : Int32)), .val (.int c0), .val (.int c1), .val (.int c2), .val (.int c3), .val (.int c4), .val (.ref a43), .unset, .unset, .unset] [])
    have E44 := own_xw E43 (by omega) R44
    refine W44.iload me at_58 rfl ?_
    refine W44.iconst me at_60 (v := 1) rfl ?_
    show Fi p e below s Z _ _ _ _ T44 (mkF m 61 #[.val (.int p0), .val (.int p1), .val (.int p2), .val (.int p3), .val (.int p4), .val (.int p5), .val (.int (4 : Int32)), .val (.int c0), .val (.int c1), .val (.int c2), .val (.int c3), .val (.int c4), .val (.ref a43), .unset, .unset, .unset] [(.int (1 : Int32)), (.int (4 : Int32))])
    refine W44.icN_le me at_61 (by decide) ?_
    show Fi p e below s Z _ _ _ _ T44 (mkF m 64 #[.val (.int p0), .val (.int p1), .val (.int p2), .val (.int p3), .val (.int p4), .val (.int p5), .val (.int (4 : Int32)), .val (.int c0), .val (.int c1), .val (.int c2), .val (.int c3), .val (.int c4), .val (.ref a43), .unset, .unset, .unset] [])
    refine W44.aload me at_64 rfl rfl ?_
    refine W44.iconst me at_66 (v := 1) rfl ?_
    refine W44.iload me at_67 rfl ?_
    show Fi p e below s Z _ _ _ _ T44 (mkF m 69 #[.val (.int p0), .val (.int p1), .val (.int p2), .val (.int p3), .val (.int p4), .val (.int p5), .val (.int (4 : Int32)), .val (.int c0), .val (.int c1), .val (.int c2), .val (.int c3), .val (.int c4), .val (.ref a43), .unset, .unset, .unset] [(.int c1), (.int (1 : Int32)), (.ref a43)])
    refine W44.castoreP me A44 (up16 q1) at_69 (i := 1) rfl (by decide) (by decide) hz43 ?_
    intro T45 h45 W45 R45 A45
    show Fi p e below s Z _ _ _ _ T45 (mkF m 70 #[.val (.int p0), .val (.int p1), .val (.int p2), .val (.int p3), .val (.int p4), .val (.int p5), .val (.int (4 : Int32)), .val (.int c0), .val (.int c1), .val (.int c2), .val (.int c3), .val (.int c4), .val (.ref a43), .unset, .unset, .unset] [])
    have E45 := own_xw E44 (by omega) R45
    refine W45.iload me at_70 rfl ?_
    refine W45.iconst me at_72 (v := 2) rfl ?_
    show Fi p e below s Z _ _ _ _ T45 (mkF m 73 #[.val (.int p0), .val (.int p1), .val (.int p2), .val (.int p3), .val (.int p4), .val (.int p5), .val (.int (4 : Int32)), .val (.int c0), .val (.int c1), .val (.int c2), .val (.int c3), .val (.int c4), .val (.ref a43), .unset, .unset, .unset] [(.int (2 : Int32)), (.int (4 : Int32))])
    refine W45.icN_le me at_73 (by decide) ?_
    show Fi p e below s Z _ _ _ _ T45 (mkF m 76 #[.val (.int p0), .val (.int p1), .val (.int p2), .val (.int p3), .val (.int p4), .val (.int p5), .val (.int (4 : Int32)), .val (.int c0), .val (.int c1), .val (.int c2), .val (.int c3), .val (.int c4), .val (.ref a43), .unset, .unset, .unset] [])
    refine W45.aload me at_76 rfl rfl ?_
    refine W45.iconst me at_78 (v := 2) rfl ?_
    refine W45.iload me at_79 rfl ?_
    show Fi p e below s Z _ _ _ _ T45 (mkF m 81 #[.val (.int p0), .val (.int p1), .val (.int p2), .val (.int p3), .val (.int p4), .val (.int p5), .val (.int (4 : Int32)), .val (.int c0), .val (.int c1), .val (.int c2), .val (.int c3), .val (.int c4), .val (.ref a43), .unset, .unset, .unset] [(.int c2), (.int (2 : Int32)), (.ref a43)])
    refine W45.castoreP me A45 (up16 q2) at_81 (i := 2) rfl (by decide) (by decide) hz43 ?_
    intro T46 h46 W46 R46 A46
    show Fi p e below s Z _ _ _ _ T46 (mkF m 82 #[.val (.int p0), .val (.int p1), .val (.int p2), .val (.int p3), .val (.int p4), .val (.int p5), .val (.int (4 : Int32)), .val (.int c0), .val (.int c1), .val (.int c2), .val (.int c3), .val (.int c4), .val (.ref a43), .unset, .unset, .unset] [])
    have E46 := own_xw E45 (by omega) R46
    refine W46.iload me at_82 rfl ?_
    refine W46.iconst me at_84 (v := 3) rfl ?_
    show Fi p e below s Z _ _ _ _ T46 (mkF m 85 #[.val (.int p0), .val (.int p1), .val (.int p2), .val (.int p3), .val (.int p4), .val (.int p5), .val (.int (4 : Int32)), .val (.int c0), .val (.int c1), .val (.int c2), .val (.int c3), .val (.int c4), .val (.ref a43), .unset, .unset, .unset] [(.int (3 : Int32)), (.int (4 : Int32))])
    refine W46.icN_le me at_85 (by decide) ?_
    show Fi p e below s Z _ _ _ _ T46 (mkF m 88 #[.val (.int p0), .val (.int p1), .val (.int p2), .val (.int p3), .val (.int p4), .val (.int p5), .val (.int (4 : Int32)), .val (.int c0), .val (.int c1), .val (.int c2), .val (.int c3), .val (.int c4), .val (.ref a43), .unset, .unset, .unset] [])
    refine W46.aload me at_88 rfl rfl ?_
    refine W46.iconst me at_90 (v := 3) rfl ?_
    refine W46.iload me at_91 rfl ?_
    show Fi p e below s Z _ _ _ _ T46 (mkF m 93 #[.val (.int p0), .val (.int p1), .val (.int p2), .val (.int p3), .val (.int p4), .val (.int p5), .val (.int (4 : Int32)), .val (.int c0), .val (.int c1), .val (.int c2), .val (.int c3), .val (.int c4), .val (.ref a43), .unset, .unset, .unset] [(.int c3), (.int (3 : Int32)), (.ref a43)])
    refine W46.castoreP me A46 (up16 q3) at_93 (i := 3) rfl (by decide) (by decide) hz43 ?_
    intro T47 h47 W47 R47 A47
    show Fi p e below s Z _ _ _ _ T47 (mkF m 94 #[.val (.int p0), .val (.int p1), .val (.int p2), .val (.int p3), .val (.int p4), .val (.int p5), .val (.int (4 : Int32)), .val (.int c0), .val (.int c1), .val (.int c2), .val (.int c3), .val (.int c4), .val (.ref a43), .unset, .unset, .unset] [])
    have E47 := own_xw E46 (by omega) R47
    refine W47.iload me at_94 rfl ?_
    refine W47.iconst me at_96 (v := 4) rfl ?_
    show Fi p e below s Z _ _ _ _ T47 (mkF m 97 #[.val (.int p0), .val (.int p1), .val (.int p2), .val (.int p3), .val (.int p4), .val (.int p5), .val (.int (4 : Int32)), .val (.int c0), .val (.int c1), .val (.int c2), .val (.int c3), .val (.int c4), .val (.ref a43), .unset, .unset, .unset] [(.int (4 : Int32)), (.int (4 : Int32))])
    refine W47.icY_le me at_97 (by decide) (pc' := 106) (by decide) (by decide) ?_
    show Fi p e below s Z _ _ _ _ T47 (mkF m 106 #[.val (.int p0), .val (.int p1), .val (.int p2), .val (.int p3), .val (.int p4), .val (.int p5), .val (.int (4 : Int32)), .val (.int c0), .val (.int c1), .val (.int c2), .val (.int c3), .val (.int c4), .val (.ref a43), .unset, .unset, .unset] [])
    refine W47.iconst me at_106 (v := 0) rfl ?_
    refine W47.istore me at_107 (l' := #[.val (.int p0), .val (.int p1), .val (.int p2), .val (.int p3), .val (.int p4), .val (.int p5), .val (.int (4 : Int32)), .val (.int c0), .val (.int c1), .val (.int c2), .val (.int c3), .val (.int c4), .val (.ref a43), .val (.int (0 : Int32)), .unset, .unset]) rfl ?_
    refine W47.iload me at_109 rfl ?_
    show Fi p e below s Z _ _ _ _ T47 (mkF m 111 #[.val (.int p0), .val (.int p1), .val (.int p2), .val (.int p3), .val (.int p4), .val (.int p5), .val (.int (4 : Int32)), .val (.int c0), .val (.int c1), .val (.int c2), .val (.int c3), .val (.int c4), .val (.ref a43), .val (.int (0 : Int32)), .unset, .unset] [(.int (4 : Int32))])
    refine W47.ifN_le me at_111 (by decide) ?_
    show Fi p e below s Z _ _ _ _ T47 (mkF m 114 #[.val (.int p0), .val (.int p1), .val (.int p2), .val (.int p3), .val (.int p4), .val (.int p5), .val (.int (4 : Int32)), .val (.int c0), .val (.int c1), .val (.int c2), .val (.int c3), .val (.int c4), .val (.ref a43), .val (.int (0 : Int32)), .unset, .unset] [])
    refine W47.iload me at_114 rfl ?_
    refine W47.iload me at_116 rfl ?_
    refine W47.iconst me at_118 (v := 0) rfl ?_
    show Fi p e below s Z _ _ _ _ T47 (mkF m 119 #[.val (.int p0), .val (.int p1), .val (.int p2), .val (.int p3), .val (.int p4), .val (.int p5), .val (.int (4 : Int32)), .val (.int c0), .val (.int c1), .val (.int c2), .val (.int c3), .val (.int c4), .val (.ref a43), .val (.int (0 : Int32)), .unset, .unset] [(.int (0 : Int32)), (.int c0), (.int (0 : Int32))])
    refine W47.callS me hEL (hw _ (List.mem_of_getElem? (i := 5) rfl)) (hw _ (List.mem_of_getElem? (i := 6) rfl)) (hw _ (List.mem_of_getElem? (i := 2) rfl)) (hw _ (List.mem_of_getElem? (i := 7) rfl)) (argsL := [(.int (0 : Int32)), (.int c0), (.int (0 : Int32))]) (rest := []) (c_step (ss := []) g W47.old) at_119 (by decide) (fun _ q => nomatch q) rfl (lenOf pd_13 rfl) (own_le rfl) (own_le rfl) (own_le rfl) (own_le rfl) rfl ?_
    intro T48 h48 v48 W48 z48 q48
    obtain ⟨_, rfl, rfl, rfl⟩ := q48
    show Fi p e below s Z _ _ _ _ T48 (mkF m 122 #[.val (.int p0), .val (.int p1), .val (.int p2), .val (.int p3), .val (.int p4), .val (.int p5), .val (.int (4 : Int32)), .val (.int c0), .val (.int c1), .val (.int c2), .val (.int c3), .val (.int c4), .val (.ref a43), .val (.int (0 : Int32)), .unset, .unset] [(.int (stF (0 : Int32) c0 (0 : Int32)))])
    refine W48.istore me at_122 (l' := #[.val (.int p0), .val (.int p1), .val (.int p2), .val (.int p3), .val (.int p4), .val (.int p5), .val (.int (4 : Int32)), .val (.int c0), .val (.int c1), .val (.int c2), .val (.int c3), .val (.int c4), .val (.ref a43), .val (.int (stF (0 : Int32) c0 (0 : Int32))), .unset, .unset]) rfl ?_
    refine W48.iload me at_124 rfl ?_
    refine W48.iconst me at_126 (v := 1) rfl ?_
    show Fi p e below s Z _ _ _ _ T48 (mkF m 127 #[.val (.int p0), .val (.int p1), .val (.int p2), .val (.int p3), .val (.int p4), .val (.int p5), .val (.int (4 : Int32)), .val (.int c0), .val (.int c1), .val (.int c2), .val (.int c3), .val (.int c4), .val (.ref a43), .val (.int (stF (0 : Int32) c0 (0 : Int32))), .unset, .unset] [(.int (1 : Int32)), (.int (4 : Int32))])
    refine W48.icN_le me at_127 (by decide) ?_
    show Fi p e below s Z _ _ _ _ T48 (mkF m 130 #[.val (.int p0), .val (.int p1), .val (.int p2), .val (.int p3), .val (.int p4), .val (.int p5), .val (.int (4 : Int32)), .val (.int c0), .val (.int c1), .val (.int c2), .val (.int c3), .val (.int c4), .val (.ref a43), .val (.int (stF (0 : Int32) c0 (0 : Int32))), .unset, .unset] [])
    refine W48.iload me at_130 rfl ?_
    refine W48.iload me at_132 rfl ?_
    refine W48.iconst me at_134 (v := 1) rfl ?_
    show Fi p e below s Z _ _ _ _ T48 (mkF m 135 #[.val (.int p0), .val (.int p1), .val (.int p2), .val (.int p3), .val (.int p4), .val (.int p5), .val (.int (4 : Int32)), .val (.int c0), .val (.int c1), .val (.int c2), .val (.int c3), .val (.int c4), .val (.ref a43), .val (.int (stF (0 : Int32) c0 (0 : Int32))), .unset, .unset] [(.int (1 : Int32)), (.int c1), (.int (stF (0 : Int32) c0 (0 : Int32)))])
    refine W48.callS me hEL (hw _ (List.mem_of_getElem? (i := 5) rfl)) (hw _ (List.mem_of_getElem? (i := 6) rfl)) (hw _ (List.mem_of_getElem? (i := 2) rfl)) (hw _ (List.mem_of_getElem? (i := 7) rfl)) (argsL := [(.int (stF (0 : Int32) c0 (0 : Int32))), (.int c1), (.int (1 : Int32))]) (rest := []) (c_step (ss := []) g W48.old) at_135 (by decide) (fun _ q => nomatch q) rfl (lenOf pd_13 rfl) (own_le rfl) (own_le rfl) (own_le rfl) (own_le rfl) rfl ?_
    intro T49 h49 v49 W49 z49 q49
    obtain ⟨_, rfl, rfl, rfl⟩ := q49
    show Fi p e below s Z _ _ _ _ T49 (mkF m 138 #[.val (.int p0), .val (.int p1), .val (.int p2), .val (.int p3), .val (.int p4), .val (.int p5), .val (.int (4 : Int32)), .val (.int c0), .val (.int c1), .val (.int c2), .val (.int c3), .val (.int c4), .val (.ref a43), .val (.int (stF (0 : Int32) c0 (0 : Int32))), .unset, .unset] [(.int (stF (stF (0 : Int32) c0 (0 : Int32)) c1 (1 : Int32)))])
    refine W49.istore me at_138 (l' := #[.val (.int p0), .val (.int p1), .val (.int p2), .val (.int p3), .val (.int p4), .val (.int p5), .val (.int (4 : Int32)), .val (.int c0), .val (.int c1), .val (.int c2), .val (.int c3), .val (.int c4), .val (.ref a43), .val (.int (stF (stF (0 : Int32) c0 (0 : Int32)) c1 (1 : Int32))), .unset, .unset]) rfl ?_
    refine W49.iload me at_140 rfl ?_
    refine W49.iconst me at_142 (v := 2) rfl ?_
    show Fi p e below s Z _ _ _ _ T49 (mkF m 143 #[.val (.int p0), .val (.int p1), .val (.int p2), .val (.int p3), .val (.int p4), .val (.int p5), .val (.int (4 : Int32)), .val (.int c0), .val (.int c1), .val (.int c2), .val (.int c3), .val (.int c4), .val (.ref a43), .val (.int (stF (stF (0 : Int32) c0 (0 : Int32)) c1 (1 : Int32))), .unset, .unset] [(.int (2 : Int32)), (.int (4 : Int32))])
    refine W49.icN_le me at_143 (by decide) ?_
    show Fi p e below s Z _ _ _ _ T49 (mkF m 146 #[.val (.int p0), .val (.int p1), .val (.int p2), .val (.int p3), .val (.int p4), .val (.int p5), .val (.int (4 : Int32)), .val (.int c0), .val (.int c1), .val (.int c2), .val (.int c3), .val (.int c4), .val (.ref a43), .val (.int (stF (stF (0 : Int32) c0 (0 : Int32)) c1 (1 : Int32))), .unset, .unset] [])
    refine W49.iload me at_146 rfl ?_
    refine W49.iload me at_148 rfl ?_
    refine W49.iconst me at_150 (v := 2) rfl ?_
    show Fi p e below s Z _ _ _ _ T49 (mkF m 151 #[.val (.int p0), .val (.int p1), .val (.int p2), .val (.int p3), .val (.int p4), .val (.int p5), .val (.int (4 : Int32)), .val (.int c0), .val (.int c1), .val (.int c2), .val (.int c3), .val (.int c4), .val (.ref a43), .val (.int (stF (stF (0 : Int32) c0 (0 : Int32)) c1 (1 : Int32))), .unset, .unset] [(.int (2 : Int32)), (.int c2), (.int (stF (stF (0 : Int32) c0 (0 : Int32)) c1 (1 : Int32)))])
    refine W49.callS me hEL (hw _ (List.mem_of_getElem? (i := 5) rfl)) (hw _ (List.mem_of_getElem? (i := 6) rfl)) (hw _ (List.mem_of_getElem? (i := 2) rfl)) (hw _ (List.mem_of_getElem? (i := 7) rfl)) (argsL := [(.int (stF (stF (0 : Int32) c0 (0 : Int32)) c1 (1 : Int32))), (.int c2), (.int (2 : Int32))]) (rest := []) (c_step (ss := []) g W49.old) at_151 (by decide) (fun _ q => nomatch q) rfl (lenOf pd_13 rfl) (own_le rfl) (own_le rfl) (own_le rfl) (own_le rfl) rfl ?_
    intro T50 h50 v50 W50 z50 q50
    obtain ⟨_, rfl, rfl, rfl⟩ := q50
    show Fi p e below s Z _ _ _ _ T50 (mkF m 154 #[.val (.int p0), .val (.int p1), .val (.int p2), .val (.int p3), .val (.int p4), .val (.int p5), .val (.int (4 : Int32)), .val (.int c0), .val (.int c1), .val (.int c2), .val (.int c3), .val (.int c4), .val (.ref a43), .val (.int (stF (stF (0 : Int32) c0 (0 : Int32)) c1 (1 : Int32))), .unset, .unset] [(.int (stF (stF (stF (0 : Int32) c0 (0 : Int32)) c1 (1 : Int32)) c2 (2 : Int32)))])
    refine W50.istore me at_154 (l' := #[.val (.int p0), .val (.int p1), .val (.int p2), .val (.int p3), .val (.int p4), .val (.int p5), .val (.int (4 : Int32)), .val (.int c0), .val (.int c1), .val (.int c2), .val (.int c3), .val (.int c4), .val (.ref a43), .val (.int (stF (stF (stF (0 : Int32) c0 (0 : Int32)) c1 (1 : Int32)) c2 (2 : Int32))), .unset, .unset]) rfl ?_
    refine W50.iload me at_156 rfl ?_
    refine W50.iconst me at_158 (v := 3) rfl ?_
    show Fi p e below s Z _ _ _ _ T50 (mkF m 159 #[.val (.int p0), .val (.int p1), .val (.int p2), .val (.int p3), .val (.int p4), .val (.int p5), .val (.int (4 : Int32)), .val (.int c0), .val (.int c1), .val (.int c2), .val (.int c3), .val (.int c4), .val (.ref a43), .val (.int (stF (stF (stF (0 : Int32) c0 (0 : Int32)) c1 (1 : Int32)) c2 (2 : Int32))), .unset, .unset] [(.int (3 : Int32)), (.int (4 : Int32))])
    refine W50.icN_le me at_159 (by decide) ?_
    show Fi p e below s Z _ _ _ _ T50 (mkF m 162 #[.val (.int p0), .val (.int p1), .val (.int p2), .val (.int p3), .val (.int p4), .val (.int p5), .val (.int (4 : Int32)), .val (.int c0), .val (.int c1), .val (.int c2), .val (.int c3), .val (.int c4), .val (.ref a43), .val (.int (stF (stF (stF (0 : Int32) c0 (0 : Int32)) c1 (1 : Int32)) c2 (2 : Int32))), .unset, .unset] [])
    refine W50.iload me at_162 rfl ?_
    refine W50.iload me at_164 rfl ?_
    refine W50.iconst me at_166 (v := 3) rfl ?_
    show Fi p e below s Z _ _ _ _ T50 (mkF m 167 #[.val (.int p0), .val (.int p1), .val (.int p2), .val (.int p3), .val (.int p4), .val (.int p5), .val (.int (4 : Int32)), .val (.int c0), .val (.int c1), .val (.int c2), .val (.int c3), .val (.int c4), .val (.ref a43), .val (.int (stF (stF (stF (0 : Int32) c0 (0 : Int32)) c1 (1 : Int32)) c2 (2 : Int32))), .unset, .unset] [(.int (3 : Int32)), (.int c3), (.int (stF (stF (stF (0 : Int32) c0 (0 : Int32)) c1 (1 : Int32)) c2 (2 : Int32)))])
    refine W50.callS me hEL (hw _ (List.mem_of_getElem? (i := 5) rfl)) (hw _ (List.mem_of_getElem? (i := 6) rfl)) (hw _ (List.mem_of_getElem? (i := 2) rfl)) (hw _ (List.mem_of_getElem? (i := 7) rfl)) (argsL := [(.int (stF (stF (stF (0 : Int32) c0 (0 : Int32)) c1 (1 : Int32)) c2 (2 : Int32))), (.int c3), (.int (3 : Int32))]) (rest := []) (c_step (ss := []) g W50.old) at_167 (by decide) (fun _ q => nomatch q) rfl (lenOf pd_13 rfl) (own_le rfl) (own_le rfl) (own_le rfl) (own_le rfl) rfl ?_
    intro T51 h51 v51 W51 z51 q51
    obtain ⟨_, rfl, rfl, rfl⟩ := q51
    show Fi p e below s Z _ _ _ _ T51 (mkF m 170 #[.val (.int p0), .val (.int p1), .val (.int p2), .val (.int p3), .val (.int p4), .val (.int p5), .val (.int (4 : Int32)), .val (.int c0), .val (.int c1), .val (.int c2), .val (.int c3), .val (.int c4), .val (.ref a43), .val (.int (stF (stF (stF (0 : Int32) c0 (0 : Int32)) c1 (1 : Int32)) c2 (2 : Int32))), .unset, .unset] [(.int (stF (stF (stF (stF (0 : Int32) c0 (0 : Int32)) c1 (1 : Int32)) c2 (2 : Int32)) c3 (3 : Int32)))])
    refine W51.istore me at_170 (l' := #[.val (.int p0), .val (.int p1), .val (.int p2), .val (.int p3), .val (.int p4), .val (.int p5), .val (.int (4 : Int32)), .val (.int c0), .val (.int c1), .val (.int c2), .val (.int c3), .val (.int c4), .val (.ref a43), .val (.int (stF (stF (stF (stF (0 : Int32) c0 (0 : Int32)) c1 (1 : Int32)) c2 (2 : Int32)) c3 (3 : Int32))), .unset, .unset]) rfl ?_
    refine W51.iload me at_172 rfl ?_
    refine W51.iconst me at_174 (v := 4) rfl ?_
    show Fi p e below s Z _ _ _ _ T51 (mkF m 175 #[.val (.int p0), .val (.int p1), .val (.int p2), .val (.int p3), .val (.int p4), .val (.int p5), .val (.int (4 : Int32)), .val (.int c0), .val (.int c1), .val (.int c2), .val (.int c3), .val (.int c4), .val (.ref a43), .val (.int (stF (stF (stF (stF (0 : Int32) c0 (0 : Int32)) c1 (1 : Int32)) c2 (2 : Int32)) c3 (3 : Int32))), .unset, .unset] [(.int (4 : Int32)), (.int (4 : Int32))])
    refine W51.icY_le me at_175 (by decide) (pc' := 188) (by decide) (by decide) ?_
    show Fi p e below s Z _ _ _ _ T51 (mkF m 188 #[.val (.int p0), .val (.int p1), .val (.int p2), .val (.int p3), .val (.int p4), .val (.int p5), .val (.int (4 : Int32)), .val (.int c0), .val (.int c1), .val (.int c2), .val (.int c3), .val (.int c4), .val (.ref a43), .val (.int (stF (stF (stF (stF (0 : Int32) c0 (0 : Int32)) c1 (1 : Int32)) c2 (2 : Int32)) c3 (3 : Int32))), .unset, .unset] [])
    show Fi p e below s Z _ _ _ _ T51 (mkF m 188 #[.val (.int p0), .val (.int p1), .val (.int p2), .val (.int p3), .val (.int p4), .val (.int p5), .val (.int (4 : Int32)), .val (.int c0), .val (.int c1), .val (.int c2), .val (.int c3), .val (.int c4), .val (.ref a43), .val (.int (stF (stF (stF (stF (0 : Int32) c0 (0 : Int32)) c1 (1 : Int32)) c2 (2 : Int32)) c3 (3 : Int32))), .unset, .unset] [])
    obtain ⟨st, hst⟩ : ∃ z, z = (stF (stF (stF (stF (0 : Int32) c0 (0 : Int32)) c1 (1 : Int32)) c2 (2 : Int32)) c3 (3 : Int32)) := ⟨_, rfl⟩
    have hrn : rn [c0, c1, c2, c3] 0 0 = st := hst ▸ rfl
    rw [← hst]
    show Fi p e below s Z _ _ _ _ T51 (mkF m 188 #[.val (.int p0), .val (.int p1), .val (.int p2), .val (.int p3), .val (.int p4), .val (.int p5), .val (.int (4 : Int32)), .val (.int c0), .val (.int c1), .val (.int c2), .val (.int c3), .val (.int c4), .val (.ref a43), .val (.int st), .unset, .unset] [])
    refine W51.iload me at_188 rfl ?_
    refine W51.iconst me at_190 (v := 4) rfl ?_
    show Fi p e below s Z _ _ _ _ T51 (mkF m 191 #[.val (.int p0), .val (.int p1), .val (.int p2), .val (.int p3), .val (.int p4), .val (.int p5), .val (.int (4 : Int32)), .val (.int c0), .val (.int c1), .val (.int c2), .val (.int c3), .val (.int c4), .val (.ref a43), .val (.int st), .unset, .unset] [(.int (4 : Int32)), (.int st)])
    refine W51.ic_lt me at_191 (pc' := 201) (by decide) (by decide) (fun hs => ?_) (fun hs => ?_)
    ·
      show Fi p e below s Z _ _ _ _ T51 (mkF m 201 #[.val (.int p0), .val (.int p1), .val (.int p2), .val (.int p3), .val (.int p4), .val (.int p5), .val (.int (4 : Int32)), .val (.int c0), .val (.int c1), .val (.int c2), .val (.int c3), .val (.int c4), .val (.ref a43), .val (.int st), .unset, .unset] [])
      refine W51.iconst me at_201 (v := -1) rfl ?_
      refine W51.istore me at_202 (l' := #[.val (.int p0), .val (.int p1), .val (.int p2), .val (.int p3), .val (.int p4), .val (.int p5), .val (.int (4 : Int32)), .val (.int c0), .val (.int c1), .val (.int c2), .val (.int c3), .val (.int c4), .val (.ref a43), .val (.int st), .val (.int (-1 : Int32)), .unset]) rfl ?_
      show Fi p e below s Z _ _ _ _ T51 (mkF m 204 #[.val (.int p0), .val (.int p1), .val (.int p2), .val (.int p3), .val (.int p4), .val (.int p5), .val (.int (4 : Int32)), .val (.int c0), .val (.int c1), .val (.int c2), .val (.int c3), .val (.int c4), .val (.ref a43), .val (.int st), .val (.int (-1 : Int32)), .unset] [])
      refine W51.newO me (hw _ (List.mem_of_getElem? (i := 8) rfl)) (hw _ (List.mem_of_getElem? (i := 9) rfl)) (hw _ (List.mem_of_getElem? (i := 10) rfl)) at_204 (own_le rfl) (own_le rfl) ?_
      intro T52 h52 a52 g52 W52 E52 A52 D52 U52
      show Fi p e below s Z _ _ _ _ T52 (mkF m 207 #[.val (.int p0), .val (.int p1), .val (.int p2), .val (.int p3), .val (.int p4), .val (.int p5), .val (.int (4 : Int32)), .val (.int c0), .val (.int c1), .val (.int c2), .val (.int c3), .val (.int c4), .val (.ref a43), .val (.int st), .val (.int (-1 : Int32)), .unset] [(.ref a52)])
      refine W52.dup me at_207 rfl ?_
      refine W52.aload me at_208 rfl rfl ?_
      show Fi p e below s Z _ _ _ _ T52 (mkF m 210 #[.val (.int p0), .val (.int p1), .val (.int p2), .val (.int p3), .val (.int p4), .val (.int p5), .val (.int (4 : Int32)), .val (.int c0), .val (.int c1), .val (.int c2), .val (.int c3), .val (.int c4), .val (.ref a43), .val (.int st), .val (.int (-1 : Int32)), .unset] [(.ref a43), (.ref a52), (.ref a52)])
      refine W52.callI me hEL (hw _ (List.mem_of_getElem? (i := 11) rfl)) (hw _ (List.mem_of_getElem? (i := 12) rfl)) (hw _ (List.mem_of_getElem? (i := 10) rfl)) (hw _ (List.mem_of_getElem? (i := 13) rfl)) rfl (a := a52) (argsL := [(.ref a43)]) (rest := [(.ref a52)]) (c_init3 g W52.old (cs := [c0, c1, c2, c3]) A52 (D52 (Or.inr (hw _ (List.mem_of_getElem? (i := 36) rfl))) (ty := .array .byte) (by decide)) (D52 (Or.inr (hw _ (List.mem_of_getElem? (i := 34) rfl))) (ty := .byte) (by decide)) (A47.ext E52) (List.mem_cons_self ..) (by have := W51.old.2.1; omega) (C8.cons q0 (C8.cons q1 (C8.cons q2 (C8.cons q3 C8.nil)))) (own_le rfl)) at_210 (by decide) (fun _ q => q) rfl (lenOf pd_11 rfl) (own_le rfl) (own_le rfl) (own_le rfl) (own_le rfl) rfl ?_
      intro T53 h53 v53 W53 z53 q53
      obtain ⟨rfl, K53, L53⟩ := q53
      show Fi p e below s Z _ _ _ _ T53 (mkF m 213 #[.val (.int p0), .val (.int p1), .val (.int p2), .val (.int p3), .val (.int p4), .val (.int p5), .val (.int (4 : Int32)), .val (.int c0), .val (.int c1), .val (.int c2), .val (.int c3), .val (.int c4), .val (.ref a43), .val (.int st), .val (.int (-1 : Int32)), .unset] [(.ref a52)])
      refine W53.callS me hEL (hw _ (List.mem_of_getElem? (i := 37) rfl)) (hw _ (List.mem_of_getElem? (i := 38) rfl)) (hw _ (List.mem_of_getElem? (i := 39) rfl)) (hw _ (List.mem_of_getElem? (i := 40) rfl)) (argsL := [(.ref a52)]) (rest := []) (c_cstart (ss := []) g W53.old L53) at_213 (by decide) (fun _ q => nomatch q) rfl (lenOf pd_12 rfl) (own_le rfl) (own_le rfl) (own_le rfl) (own_le rfl) rfl ?_
      intro T54 h54 v54 W54 z54 q54
      obtain ⟨_, rfl, rfl, rfl⟩ := q54
      show Fi p e below s Z _ _ _ _ T54 (mkF m 216 #[.val (.int p0), .val (.int p1), .val (.int p2), .val (.int p3), .val (.int p4), .val (.int p5), .val (.int (4 : Int32)), .val (.int c0), .val (.int c1), .val (.int c2), .val (.int c3), .val (.int c4), .val (.ref a43), .val (.int st), .val (.int (-1 : Int32)), .unset] [(.int (rF (rn [c0, c1, c2, c3] 0 0)))])
      refine W54.istore me at_216 (l' := #[.val (.int p0), .val (.int p1), .val (.int p2), .val (.int p3), .val (.int p4), .val (.int p5), .val (.int (4 : Int32)), .val (.int c0), .val (.int c1), .val (.int c2), .val (.int c3), .val (.int c4), .val (.ref a43), .val (.int st), .val (.int (-1 : Int32)), .val (.int (rF (rn [c0, c1, c2, c3] 0 0)))]) rfl ?_
      refine W54.iload me at_218 rfl ?_
      refine W54.iload me at_220 rfl ?_
      show Fi p e below s Z _ _ _ _ T54 (mkF m 222 #[.val (.int p0), .val (.int p1), .val (.int p2), .val (.int p3), .val (.int p4), .val (.int p5), .val (.int (4 : Int32)), .val (.int c0), .val (.int c1), .val (.int c2), .val (.int c3), .val (.int c4), .val (.ref a43), .val (.int st), .val (.int (-1 : Int32)), .val (.int (rF (rn [c0, c1, c2, c3] 0 0)))] [(.int (-1 : Int32)), (.int (rF (rn [c0, c1, c2, c3] 0 0)))])
      refine W54.icN_ne me at_222 (by rw [hrn, rF, if_pos hs]) ?_
      refine W54.iconst me at_225 (v := 1) rfl ?_
      refine W54.goto me at_226 (pc' := 230) (by decide) (by decide) ?_
      show Fi p e below s Z _ _ _ _ T54 (mkF m 230 #[.val (.int p0), .val (.int p1), .val (.int p2), .val (.int p3), .val (.int p4), .val (.int p5), .val (.int (4 : Int32)), .val (.int c0), .val (.int c1), .val (.int c2), .val (.int c3), .val (.int c4), .val (.ref a43), .val (.int st), .val (.int (-1 : Int32)), .val (.int (rF (rn [c0, c1, c2, c3] 0 0)))] [(.int (1 : Int32))])
      exact W54.retN hEL me (Or.inl rfl) at_230 rfl (by decide) (by decide)
    ·
      show Fi p e below s Z _ _ _ _ T51 (mkF m 194 #[.val (.int p0), .val (.int p1), .val (.int p2), .val (.int p3), .val (.int p4), .val (.int p5), .val (.int (4 : Int32)), .val (.int c0), .val (.int c1), .val (.int c2), .val (.int c3), .val (.int c4), .val (.ref a43), .val (.int st), .unset, .unset] [])
      refine W51.iload me at_194 rfl ?_
      refine W51.iconst me at_196 (v := 4) rfl ?_
      refine W51.isub me at_197 ?_
      refine W51.goto me at_198 (pc' := 202) (by decide) (by decide) ?_
      refine W51.istore me at_202 (l' := #[.val (.int p0), .val (.int p1), .val (.int p2), .val (.int p3), .val (.int p4), .val (.int p5), .val (.int (4 : Int32)), .val (.int c0), .val (.int c1), .val (.int c2), .val (.int c3), .val (.int c4), .val (.ref a43), .val (.int st), .val (.int (st - (4 : Int32))), .unset]) rfl ?_
      show Fi p e below s Z _ _ _ _ T51 (mkF m 204 #[.val (.int p0), .val (.int p1), .val (.int p2), .val (.int p3), .val (.int p4), .val (.int p5), .val (.int (4 : Int32)), .val (.int c0), .val (.int c1), .val (.int c2), .val (.int c3), .val (.int c4), .val (.ref a43), .val (.int st), .val (.int (st - (4 : Int32))), .unset] [])
      refine W51.newO me (hw _ (List.mem_of_getElem? (i := 8) rfl)) (hw _ (List.mem_of_getElem? (i := 9) rfl)) (hw _ (List.mem_of_getElem? (i := 10) rfl)) at_204 (own_le rfl) (own_le rfl) ?_
      intro T55 h55 a55 g55 W55 E55 A55 D55 U55
      show Fi p e below s Z _ _ _ _ T55 (mkF m 207 #[.val (.int p0), .val (.int p1), .val (.int p2), .val (.int p3), .val (.int p4), .val (.int p5), .val (.int (4 : Int32)), .val (.int c0), .val (.int c1), .val (.int c2), .val (.int c3), .val (.int c4), .val (.ref a43), .val (.int st), .val (.int (st - (4 : Int32))), .unset] [(.ref a55)])
      refine W55.dup me at_207 rfl ?_
      refine W55.aload me at_208 rfl rfl ?_
      show Fi p e below s Z _ _ _ _ T55 (mkF m 210 #[.val (.int p0), .val (.int p1), .val (.int p2), .val (.int p3), .val (.int p4), .val (.int p5), .val (.int (4 : Int32)), .val (.int c0), .val (.int c1), .val (.int c2), .val (.int c3), .val (.int c4), .val (.ref a43), .val (.int st), .val (.int (st - (4 : Int32))), .unset] [(.ref a43), (.ref a55), (.ref a55)])
      refine W55.callI me hEL (hw _ (List.mem_of_getElem? (i := 11) rfl)) (hw _ (List.mem_of_getElem? (i := 12) rfl)) (hw _ (List.mem_of_getElem? (i := 10) rfl)) (hw _ (List.mem_of_getElem? (i := 13) rfl)) rfl (a := a55) (argsL := [(.ref a43)]) (rest := [(.ref a55)]) (c_init3 g W55.old (cs := [c0, c1, c2, c3]) A55 (D55 (Or.inr (hw _ (List.mem_of_getElem? (i := 36) rfl))) (ty := .array .byte) (by decide)) (D55 (Or.inr (hw _ (List.mem_of_getElem? (i := 34) rfl))) (ty := .byte) (by decide)) (A47.ext E55) (List.mem_cons_self ..) (by have := W51.old.2.1; omega) (C8.cons q0 (C8.cons q1 (C8.cons q2 (C8.cons q3 C8.nil)))) (own_le rfl)) at_210 (by decide) (fun _ q => q) rfl (lenOf pd_11 rfl) (own_le rfl) (own_le rfl) (own_le rfl) (own_le rfl) rfl ?_
      intro T56 h56 v56 W56 z56 q56
      obtain ⟨rfl, K56, L56⟩ := q56
      show Fi p e below s Z _ _ _ _ T56 (mkF m 213 #[.val (.int p0), .val (.int p1), .val (.int p2), .val (.int p3), .val (.int p4), .val (.int p5), .val (.int (4 : Int32)), .val (.int c0), .val (.int c1), .val (.int c2), .val (.int c3), .val (.int c4), .val (.ref a43), .val (.int st), .val (.int (st - (4 : Int32))), .unset] [(.ref a55)])
      refine W56.callS me hEL (hw _ (List.mem_of_getElem? (i := 37) rfl)) (hw _ (List.mem_of_getElem? (i := 38) rfl)) (hw _ (List.mem_of_getElem? (i := 39) rfl)) (hw _ (List.mem_of_getElem? (i := 40) rfl)) (argsL := [(.ref a55)]) (rest := []) (c_cstart (ss := []) g W56.old L56) at_213 (by decide) (fun _ q => nomatch q) rfl (lenOf pd_12 rfl) (own_le rfl) (own_le rfl) (own_le rfl) (own_le rfl) rfl ?_
      intro T57 h57 v57 W57 z57 q57
      obtain ⟨_, rfl, rfl, rfl⟩ := q57
      show Fi p e below s Z _ _ _ _ T57 (mkF m 216 #[.val (.int p0), .val (.int p1), .val (.int p2), .val (.int p3), .val (.int p4), .val (.int p5), .val (.int (4 : Int32)), .val (.int c0), .val (.int c1), .val (.int c2), .val (.int c3), .val (.int c4), .val (.ref a43), .val (.int st), .val (.int (st - (4 : Int32))), .unset] [(.int (rF (rn [c0, c1, c2, c3] 0 0)))])
      refine W57.istore me at_216 (l' := #[.val (.int p0), .val (.int p1), .val (.int p2), .val (.int p3), .val (.int p4), .val (.int p5), .val (.int (4 : Int32)), .val (.int c0), .val (.int c1), .val (.int c2), .val (.int c3), .val (.int c4), .val (.ref a43), .val (.int st), .val (.int (st - (4 : Int32))), .val (.int (rF (rn [c0, c1, c2, c3] 0 0)))]) rfl ?_
      refine W57.iload me at_218 rfl ?_
      refine W57.iload me at_220 rfl ?_
      show Fi p e below s Z _ _ _ _ T57 (mkF m 222 #[.val (.int p0), .val (.int p1), .val (.int p2), .val (.int p3), .val (.int p4), .val (.int p5), .val (.int (4 : Int32)), .val (.int c0), .val (.int c1), .val (.int c2), .val (.int c3), .val (.int c4), .val (.ref a43), .val (.int st), .val (.int (st - (4 : Int32))), .val (.int (rF (rn [c0, c1, c2, c3] 0 0)))] [(.int (st - (4 : Int32))), (.int (rF (rn [c0, c1, c2, c3] 0 0)))])
      refine W57.icN_ne me at_222 (by rw [hrn, rF, if_neg hs]) ?_
      refine W57.iconst me at_225 (v := 1) rfl ?_
      refine W57.goto me at_226 (pc' := 230) (by decide) (by decide) ?_
      show Fi p e below s Z _ _ _ _ T57 (mkF m 230 #[.val (.int p0), .val (.int p1), .val (.int p2), .val (.int p3), .val (.int p4), .val (.int p5), .val (.int (4 : Int32)), .val (.int c0), .val (.int c1), .val (.int c2), .val (.int c3), .val (.int c4), .val (.ref a43), .val (.int st), .val (.int (st - (4 : Int32))), .val (.int (rF (rn [c0, c1, c2, c3] 0 0)))] [(.int (1 : Int32))])
      exact W57.retN hEL me (Or.inl rfl) at_230 rfl (by decide) (by decide)
  ·
    show Fi p e below s Z _ _ _ _ T5 (mkF m 41 #[.val (.int p0), .val (.int p1), .val (.int p2), .val (.int p3), .val (.int p4), .val (.int p5), .val (.int (5 : Int32)), .val (.int c0), .val (.int c1), .val (.int c2), .val (.int c3), .val (.int c4), .unset, .unset, .unset, .unset] [])
    refine W5.iload me at_41 rfl ?_
    show Fi p e below s Z _ _ _ _ T5 (mkF m 43 #[.val (.int p0), .val (.int p1), .val (.int p2), .val (.int p3), .val (.int p4), .val (.int p5), .val (.int (5 : Int32)), .val (.int c0), .val (.int c1), .val (.int c2), .val (.int c3), .val (.int c4), .unset, .unset, .unset, .unset] [(.int (5 : Int32))])
    refine W5.newA me (hw _ (List.mem_of_getElem? (i := 4) rfl)) at_43 (by decide) (cap := 5) (by decide) (own_le rfl) (own_le rfl) (own_le rfl) ?_
    intro T58 h58 a58 k58 g58 W58 E58 A58
    show Fi p e below s Z _ _ _ _ T58 (mkF m 45 #[.val (.int p0), .val (.int p1), .val (.int p2), .val (.int p3), .val (.int p4), .val (.int p5), .val (.int (5 : Int32)), .val (.int c0), .val (.int c1), .val (.int c2), .val (.int c3), .val (.int c4), .unset, .unset, .unset, .unset] [(.ref a58)])
    have hz58 : Z.heap.size ≤ a58 := by have := hO.2.1; omega
    refine W58.astore me at_45 (l' := #[.val (.int p0), .val (.int p1), .val (.int p2), .val (.int p3), .val (.int p4), .val (.int p5), .val (.int (5 : Int32)), .val (.int c0), .val (.int c1), .val (.int c2), .val (.int c3), .val (.int c4), .val (.ref a58), .unset, .unset, .unset]) rfl rfl ?_
    refine W58.iload me at_47 rfl ?_
    show Fi p e below s Z _ _ _ _ T58 (mkF m 49 #[.val (.int p0), .val (.int p1), .val (.int p2), .val (.int p3), .val (.int p4), .val (.int p5), .val (.int (5 : Int32)), .val (.int c0), .val (.int c1), .val (.int c2), .val (.int c3), .val (.int c4), .val (.ref a58), .unset, .unset, .unset] [(.int (5 : Int32))])
    refine W58.ifN_le me at_49 (by decide) ?_
    show Fi p e below s Z _ _ _ _ T58 (mkF m 52 #[.val (.int p0), .val (.int p1), .val (.int p2), .val (.int p3), .val (.int p4), .val (.int p5), .val (.int (5 : Int32)), .val (.int c0), .val (.int c1), .val (.int c2), .val (.int c3), .val (.int c4), .val (.ref a58), .unset, .unset, .unset] [])
    refine W58.aload me at_52 rfl rfl ?_
    refine W58.iconst me at_54 (v := 0) rfl ?_
    refine W58.iload me at_55 rfl ?_
    show Fi p e below s Z _ _ _ _ T58 (mkF m 57 #[.val (.int p0), .val (.int p1), .val (.int p2), .val (.int p3), .val (.int p4), .val (.int p5), .val (.int (5 : Int32)), .val (.int c0), .val (.int c1), .val (.int c2), .val (.int c3), .val (.int c4), .val (.ref a58), .unset, .unset, .unset] [(.int c0), (.int (0 : Int32)), (.ref a58)])
    refine W58.castoreP me A58 (up16 q0) at_57 (i := 0) rfl (by decide) (by decide) hz58 ?_
    intro T59 h59 W59 R59 A59
    show Fi p e below s Z _ _ _ _ T59 (mkF m 58 #[.val (.int p0), .val (.int p1), .val (.int p2), .val (.int p3), .val (.int p4), .val (.int p5), .val (.int (5 : Int32)), .val (.int c0), .val (.int c1), .val (.int c2), .val (.int c3), .val (.int c4), .val (.ref a58), .unset, .unset, .unset] [])
    have E59 := own_xw E58 (by omega) R59
    refine W59.iload me at_58 rfl ?_
    refine W59.iconst me at_60 (v := 1) rfl ?_
    show Fi p e below s Z _ _ _ _ T59 (mkF m 61 #[.val (.int p0), .val (.int p1), .val (.int p2), .val (.int p3), .val (.int p4), .val (.int p5), .val (.int (5 : Int32)), .val (.int c0), .val (.int c1), .val (.int c2), .val (.int c3), .val (.int c4), .val (.ref a58), .unset, .unset, .unset] [(.int (1 : Int32)), (.int (5 : Int32))])
    refine W59.icN_le me at_61 (by decide) ?_
    show Fi p e below s Z _ _ _ _ T59 (mkF m 64 #[.val (.int p0), .val (.int p1), .val (.int p2), .val (.int p3), .val (.int p4), .val (.int p5), .val (.int (5 : Int32)), .val (.int c0), .val (.int c1), .val (.int c2), .val (.int c3), .val (.int c4), .val (.ref a58), .unset, .unset, .unset] [])
    refine W59.aload me at_64 rfl rfl ?_
    refine W59.iconst me at_66 (v := 1) rfl ?_
    refine W59.iload me at_67 rfl ?_
    show Fi p e below s Z _ _ _ _ T59 (mkF m 69 #[.val (.int p0), .val (.int p1), .val (.int p2), .val (.int p3), .val (.int p4), .val (.int p5), .val (.int (5 : Int32)), .val (.int c0), .val (.int c1), .val (.int c2), .val (.int c3), .val (.int c4), .val (.ref a58), .unset, .unset, .unset] [(.int c1), (.int (1 : Int32)), (.ref a58)])
    refine W59.castoreP me A59 (up16 q1) at_69 (i := 1) rfl (by decide) (by decide) hz58 ?_
    intro T60 h60 W60 R60 A60
    show Fi p e below s Z _ _ _ _ T60 (mkF m 70 #[.val (.int p0), .val (.int p1), .val (.int p2), .val (.int p3), .val (.int p4), .val (.int p5), .val (.int (5 : Int32)), .val (.int c0), .val (.int c1), .val (.int c2), .val (.int c3), .val (.int c4), .val (.ref a58), .unset, .unset, .unset] [])
    have E60 := own_xw E59 (by omega) R60
    refine W60.iload me at_70 rfl ?_
    refine W60.iconst me at_72 (v := 2) rfl ?_
    show Fi p e below s Z _ _ _ _ T60 (mkF m 73 #[.val (.int p0), .val (.int p1), .val (.int p2), .val (.int p3), .val (.int p4), .val (.int p5), .val (.int (5 : Int32)), .val (.int c0), .val (.int c1), .val (.int c2), .val (.int c3), .val (.int c4), .val (.ref a58), .unset, .unset, .unset] [(.int (2 : Int32)), (.int (5 : Int32))])
    refine W60.icN_le me at_73 (by decide) ?_
    show Fi p e below s Z _ _ _ _ T60 (mkF m 76 #[.val (.int p0), .val (.int p1), .val (.int p2), .val (.int p3), .val (.int p4), .val (.int p5), .val (.int (5 : Int32)), .val (.int c0), .val (.int c1), .val (.int c2), .val (.int c3), .val (.int c4), .val (.ref a58), .unset, .unset, .unset] [])
    refine W60.aload me at_76 rfl rfl ?_
    refine W60.iconst me at_78 (v := 2) rfl ?_
    refine W60.iload me at_79 rfl ?_
    show Fi p e below s Z _ _ _ _ T60 (mkF m 81 #[.val (.int p0), .val (.int p1), .val (.int p2), .val (.int p3), .val (.int p4), .val (.int p5), .val (.int (5 : Int32)), .val (.int c0), .val (.int c1), .val (.int c2), .val (.int c3), .val (.int c4), .val (.ref a58), .unset, .unset, .unset] [(.int c2), (.int (2 : Int32)), (.ref a58)])
    refine W60.castoreP me A60 (up16 q2) at_81 (i := 2) rfl (by decide) (by decide) hz58 ?_
    intro T61 h61 W61 R61 A61
    show Fi p e below s Z _ _ _ _ T61 (mkF m 82 #[.val (.int p0), .val (.int p1), .val (.int p2), .val (.int p3), .val (.int p4), .val (.int p5), .val (.int (5 : Int32)), .val (.int c0), .val (.int c1), .val (.int c2), .val (.int c3), .val (.int c4), .val (.ref a58), .unset, .unset, .unset] [])
    have E61 := own_xw E60 (by omega) R61
    refine W61.iload me at_82 rfl ?_
    refine W61.iconst me at_84 (v := 3) rfl ?_
    show Fi p e below s Z _ _ _ _ T61 (mkF m 85 #[.val (.int p0), .val (.int p1), .val (.int p2), .val (.int p3), .val (.int p4), .val (.int p5), .val (.int (5 : Int32)), .val (.int c0), .val (.int c1), .val (.int c2), .val (.int c3), .val (.int c4), .val (.ref a58), .unset, .unset, .unset] [(.int (3 : Int32)), (.int (5 : Int32))])
    refine W61.icN_le me at_85 (by decide) ?_
    show Fi p e below s Z _ _ _ _ T61 (mkF m 88 #[.val (.int p0), .val (.int p1), .val (.int p2), .val (.int p3), .val (.int p4), .val (.int p5), .val (.int (5 : Int32)), .val (.int c0), .val (.int c1), .val (.int c2), .val (.int c3), .val (.int c4), .val (.ref a58), .unset, .unset, .unset] [])
    refine W61.aload me at_88 rfl rfl ?_
    refine W61.iconst me at_90 (v := 3) rfl ?_
    refine W61.iload me at_91 rfl ?_
    show Fi p e below s Z _ _ _ _ T61 (mkF m 93 #[.val (.int p0), .val (.int p1), .val (.int p2), .val (.int p3), .val (.int p4), .val (.int p5), .val (.int (5 : Int32)), .val (.int c0), .val (.int c1), .val (.int c2), .val (.int c3), .val (.int c4), .val (.ref a58), .unset, .unset, .unset] [(.int c3), (.int (3 : Int32)), (.ref a58)])
    refine W61.castoreP me A61 (up16 q3) at_93 (i := 3) rfl (by decide) (by decide) hz58 ?_
    intro T62 h62 W62 R62 A62
    show Fi p e below s Z _ _ _ _ T62 (mkF m 94 #[.val (.int p0), .val (.int p1), .val (.int p2), .val (.int p3), .val (.int p4), .val (.int p5), .val (.int (5 : Int32)), .val (.int c0), .val (.int c1), .val (.int c2), .val (.int c3), .val (.int c4), .val (.ref a58), .unset, .unset, .unset] [])
    have E62 := own_xw E61 (by omega) R62
    refine W62.iload me at_94 rfl ?_
    refine W62.iconst me at_96 (v := 4) rfl ?_
    show Fi p e below s Z _ _ _ _ T62 (mkF m 97 #[.val (.int p0), .val (.int p1), .val (.int p2), .val (.int p3), .val (.int p4), .val (.int p5), .val (.int (5 : Int32)), .val (.int c0), .val (.int c1), .val (.int c2), .val (.int c3), .val (.int c4), .val (.ref a58), .unset, .unset, .unset] [(.int (4 : Int32)), (.int (5 : Int32))])
    refine W62.icN_le me at_97 (by decide) ?_
    show Fi p e below s Z _ _ _ _ T62 (mkF m 100 #[.val (.int p0), .val (.int p1), .val (.int p2), .val (.int p3), .val (.int p4), .val (.int p5), .val (.int (5 : Int32)), .val (.int c0), .val (.int c1), .val (.int c2), .val (.int c3), .val (.int c4), .val (.ref a58), .unset, .unset, .unset] [])
    refine W62.aload me at_100 rfl rfl ?_
    refine W62.iconst me at_102 (v := 4) rfl ?_
    refine W62.iload me at_103 rfl ?_
    show Fi p e below s Z _ _ _ _ T62 (mkF m 105 #[.val (.int p0), .val (.int p1), .val (.int p2), .val (.int p3), .val (.int p4), .val (.int p5), .val (.int (5 : Int32)), .val (.int c0), .val (.int c1), .val (.int c2), .val (.int c3), .val (.int c4), .val (.ref a58), .unset, .unset, .unset] [(.int c4), (.int (4 : Int32)), (.ref a58)])
    refine W62.castoreP me A62 (up16 q4) at_105 (i := 4) rfl (by decide) (by decide) hz58 ?_
    intro T63 h63 W63 R63 A63
    show Fi p e below s Z _ _ _ _ T63 (mkF m 106 #[.val (.int p0), .val (.int p1), .val (.int p2), .val (.int p3), .val (.int p4), .val (.int p5), .val (.int (5 : Int32)), .val (.int c0), .val (.int c1), .val (.int c2), .val (.int c3), .val (.int c4), .val (.ref a58), .unset, .unset, .unset] [])
    have E63 := own_xw E62 (by omega) R63
    refine W63.iconst me at_106 (v := 0) rfl ?_
    refine W63.istore me at_107 (l' := #[.val (.int p0), .val (.int p1), .val (.int p2), .val (.int p3), .val (.int p4), .val (.int p5), .val (.int (5 : Int32)), .val (.int c0), .val (.int c1), .val (.int c2), .val (.int c3), .val (.int c4), .val (.ref a58), .val (.int (0 : Int32)), .unset, .unset]) rfl ?_
    refine W63.iload me at_109 rfl ?_
    show Fi p e below s Z _ _ _ _ T63 (mkF m 111 #[.val (.int p0), .val (.int p1), .val (.int p2), .val (.int p3), .val (.int p4), .val (.int p5), .val (.int (5 : Int32)), .val (.int c0), .val (.int c1), .val (.int c2), .val (.int c3), .val (.int c4), .val (.ref a58), .val (.int (0 : Int32)), .unset, .unset] [(.int (5 : Int32))])
    refine W63.ifN_le me at_111 (by decide) ?_
    show Fi p e below s Z _ _ _ _ T63 (mkF m 114 #[.val (.int p0), .val (.int p1), .val (.int p2), .val (.int p3), .val (.int p4), .val (.int p5), .val (.int (5 : Int32)), .val (.int c0), .val (.int c1), .val (.int c2), .val (.int c3), .val (.int c4), .val (.ref a58), .val (.int (0 : Int32)), .unset, .unset] [])
    refine W63.iload me at_114 rfl ?_
    refine W63.iload me at_116 rfl ?_
    refine W63.iconst me at_118 (v := 0) rfl ?_
    show Fi p e below s Z _ _ _ _ T63 (mkF m 119 #[.val (.int p0), .val (.int p1), .val (.int p2), .val (.int p3), .val (.int p4), .val (.int p5), .val (.int (5 : Int32)), .val (.int c0), .val (.int c1), .val (.int c2), .val (.int c3), .val (.int c4), .val (.ref a58), .val (.int (0 : Int32)), .unset, .unset] [(.int (0 : Int32)), (.int c0), (.int (0 : Int32))])
    refine W63.callS me hEL (hw _ (List.mem_of_getElem? (i := 5) rfl)) (hw _ (List.mem_of_getElem? (i := 6) rfl)) (hw _ (List.mem_of_getElem? (i := 2) rfl)) (hw _ (List.mem_of_getElem? (i := 7) rfl)) (argsL := [(.int (0 : Int32)), (.int c0), (.int (0 : Int32))]) (rest := []) (c_step (ss := []) g W63.old) at_119 (by decide) (fun _ q => nomatch q) rfl (lenOf pd_13 rfl) (own_le rfl) (own_le rfl) (own_le rfl) (own_le rfl) rfl ?_
    intro T64 h64 v64 W64 z64 q64
    obtain ⟨_, rfl, rfl, rfl⟩ := q64
    show Fi p e below s Z _ _ _ _ T64 (mkF m 122 #[.val (.int p0), .val (.int p1), .val (.int p2), .val (.int p3), .val (.int p4), .val (.int p5), .val (.int (5 : Int32)), .val (.int c0), .val (.int c1), .val (.int c2), .val (.int c3), .val (.int c4), .val (.ref a58), .val (.int (0 : Int32)), .unset, .unset] [(.int (stF (0 : Int32) c0 (0 : Int32)))])
    refine W64.istore me at_122 (l' := #[.val (.int p0), .val (.int p1), .val (.int p2), .val (.int p3), .val (.int p4), .val (.int p5), .val (.int (5 : Int32)), .val (.int c0), .val (.int c1), .val (.int c2), .val (.int c3), .val (.int c4), .val (.ref a58), .val (.int (stF (0 : Int32) c0 (0 : Int32))), .unset, .unset]) rfl ?_
    refine W64.iload me at_124 rfl ?_
    refine W64.iconst me at_126 (v := 1) rfl ?_
    show Fi p e below s Z _ _ _ _ T64 (mkF m 127 #[.val (.int p0), .val (.int p1), .val (.int p2), .val (.int p3), .val (.int p4), .val (.int p5), .val (.int (5 : Int32)), .val (.int c0), .val (.int c1), .val (.int c2), .val (.int c3), .val (.int c4), .val (.ref a58), .val (.int (stF (0 : Int32) c0 (0 : Int32))), .unset, .unset] [(.int (1 : Int32)), (.int (5 : Int32))])
    refine W64.icN_le me at_127 (by decide) ?_
    show Fi p e below s Z _ _ _ _ T64 (mkF m 130 #[.val (.int p0), .val (.int p1), .val (.int p2), .val (.int p3), .val (.int p4), .val (.int p5), .val (.int (5 : Int32)), .val (.int c0), .val (.int c1), .val (.int c2), .val (.int c3), .val (.int c4), .val (.ref a58), .val (.int (stF (0 : Int32) c0 (0 : Int32))), .unset, .unset] [])
    refine W64.iload me at_130 rfl ?_
    refine W64.iload me at_132 rfl ?_
    refine W64.iconst me at_134 (v := 1) rfl ?_
    show Fi p e below s Z _ _ _ _ T64 (mkF m 135 #[.val (.int p0), .val (.int p1), .val (.int p2), .val (.int p3), .val (.int p4), .val (.int p5), .val (.int (5 : Int32)), .val (.int c0), .val (.int c1), .val (.int c2), .val (.int c3), .val (.int c4), .val (.ref a58), .val (.int (stF (0 : Int32) c0 (0 : Int32))), .unset, .unset] [(.int (1 : Int32)), (.int c1), (.int (stF (0 : Int32) c0 (0 : Int32)))])
    refine W64.callS me hEL (hw _ (List.mem_of_getElem? (i := 5) rfl)) (hw _ (List.mem_of_getElem? (i := 6) rfl)) (hw _ (List.mem_of_getElem? (i := 2) rfl)) (hw _ (List.mem_of_getElem? (i := 7) rfl)) (argsL := [(.int (stF (0 : Int32) c0 (0 : Int32))), (.int c1), (.int (1 : Int32))]) (rest := []) (c_step (ss := []) g W64.old) at_135 (by decide) (fun _ q => nomatch q) rfl (lenOf pd_13 rfl) (own_le rfl) (own_le rfl) (own_le rfl) (own_le rfl) rfl ?_
    intro T65 h65 v65 W65 z65 q65
    obtain ⟨_, rfl, rfl, rfl⟩ := q65
    show Fi p e below s Z _ _ _ _ T65 (mkF m 138 #[.val (.int p0), .val (.int p1), .val (.int p2), .val (.int p3), .val (.int p4), .val (.int p5), .val (.int (5 : Int32)), .val (.int c0), .val (.int c1), .val (.int c2), .val (.int c3), .val (.int c4), .val (.ref a58), .val (.int (stF (0 : Int32) c0 (0 : Int32))), .unset, .unset] [(.int (stF (stF (0 : Int32) c0 (0 : Int32)) c1 (1 : Int32)))])
    refine W65.istore me at_138 (l' := #[.val (.int p0), .val (.int p1), .val (.int p2), .val (.int p3), .val (.int p4), .val (.int p5), .val (.int (5 : Int32)), .val (.int c0), .val (.int c1), .val (.int c2), .val (.int c3), .val (.int c4), .val (.ref a58), .val (.int (stF (stF (0 : Int32) c0 (0 : Int32)) c1 (1 : Int32))), .unset, .unset]) rfl ?_
    refine W65.iload me at_140 rfl ?_
    refine W65.iconst me at_142 (v := 2) rfl ?_
    show Fi p e below s Z _ _ _ _ T65 (mkF m 143 #[.val (.int p0), .val (.int p1), .val (.int p2), .val (.int p3), .val (.int p4), .val (.int p5), .val (.int (5 : Int32)), .val (.int c0), .val (.int c1), .val (.int c2), .val (.int c3), .val (.int c4), .val (.ref a58), .val (.int (stF (stF (0 : Int32) c0 (0 : Int32)) c1 (1 : Int32))), .unset, .unset] [(.int (2 : Int32)), (.int (5 : Int32))])
    refine W65.icN_le me at_143 (by decide) ?_
    show Fi p e below s Z _ _ _ _ T65 (mkF m 146 #[.val (.int p0), .val (.int p1), .val (.int p2), .val (.int p3), .val (.int p4), .val (.int p5), .val (.int (5 : Int32)), .val (.int c0), .val (.int c1), .val (.int c2), .val (.int c3), .val (.int c4), .val (.ref a58), .val (.int (stF (stF (0 : Int32) c0 (0 : Int32)) c1 (1 : Int32))), .unset, .unset] [])
    refine W65.iload me at_146 rfl ?_
    refine W65.iload me at_148 rfl ?_
    refine W65.iconst me at_150 (v := 2) rfl ?_
    show Fi p e below s Z _ _ _ _ T65 (mkF m 151 #[.val (.int p0), .val (.int p1), .val (.int p2), .val (.int p3), .val (.int p4), .val (.int p5), .val (.int (5 : Int32)), .val (.int c0), .val (.int c1), .val (.int c2), .val (.int c3), .val (.int c4), .val (.ref a58), .val (.int (stF (stF (0 : Int32) c0 (0 : Int32)) c1 (1 : Int32))), .unset, .unset] [(.int (2 : Int32)), (.int c2), (.int (stF (stF (0 : Int32) c0 (0 : Int32)) c1 (1 : Int32)))])
    refine W65.callS me hEL (hw _ (List.mem_of_getElem? (i := 5) rfl)) (hw _ (List.mem_of_getElem? (i := 6) rfl)) (hw _ (List.mem_of_getElem? (i := 2) rfl)) (hw _ (List.mem_of_getElem? (i := 7) rfl)) (argsL := [(.int (stF (stF (0 : Int32) c0 (0 : Int32)) c1 (1 : Int32))), (.int c2), (.int (2 : Int32))]) (rest := []) (c_step (ss := []) g W65.old) at_151 (by decide) (fun _ q => nomatch q) rfl (lenOf pd_13 rfl) (own_le rfl) (own_le rfl) (own_le rfl) (own_le rfl) rfl ?_
    intro T66 h66 v66 W66 z66 q66
    obtain ⟨_, rfl, rfl, rfl⟩ := q66
    show Fi p e below s Z _ _ _ _ T66 (mkF m 154 #[.val (.int p0), .val (.int p1), .val (.int p2), .val (.int p3), .val (.int p4), .val (.int p5), .val (.int (5 : Int32)), .val (.int c0), .val (.int c1), .val (.int c2), .val (.int c3), .val (.int c4), .val (.ref a58), .val (.int (stF (stF (0 : Int32) c0 (0 : Int32)) c1 (1 : Int32))), .unset, .unset] [(.int (stF (stF (stF (0 : Int32) c0 (0 : Int32)) c1 (1 : Int32)) c2 (2 : Int32)))])
    refine W66.istore me at_154 (l' := #[.val (.int p0), .val (.int p1), .val (.int p2), .val (.int p3), .val (.int p4), .val (.int p5), .val (.int (5 : Int32)), .val (.int c0), .val (.int c1), .val (.int c2), .val (.int c3), .val (.int c4), .val (.ref a58), .val (.int (stF (stF (stF (0 : Int32) c0 (0 : Int32)) c1 (1 : Int32)) c2 (2 : Int32))), .unset, .unset]) rfl ?_
    refine W66.iload me at_156 rfl ?_
    refine W66.iconst me at_158 (v := 3) rfl ?_
    show Fi p e below s Z _ _ _ _ T66 (mkF m 159 #[.val (.int p0), .val (.int p1), .val (.int p2), .val (.int p3), .val (.int p4), .val (.int p5), .val (.int (5 : Int32)), .val (.int c0), .val (.int c1), .val (.int c2), .val (.int c3), .val (.int c4), .val (.ref a58), .val (.int (stF (stF (stF (0 : Int32) c0 (0 : Int32)) c1 (1 : Int32)) c2 (2 : Int32))), .unset, .unset] [(.int (3 : Int32)), (.int (5 : Int32))])
    refine W66.icN_le me at_159 (by decide) ?_
    show Fi p e below s Z _ _ _ _ T66 (mkF m 162 #[.val (.int p0), .val (.int p1), .val (.int p2), .val (.int p3), .val (.int p4), .val (.int p5), .val (.int (5 : Int32)), .val (.int c0), .val (.int c1), .val (.int c2), .val (.int c3), .val (.int c4), .val (.ref a58), .val (.int (stF (stF (stF (0 : Int32) c0 (0 : Int32)) c1 (1 : Int32)) c2 (2 : Int32))), .unset, .unset] [])
    refine W66.iload me at_162 rfl ?_
    refine W66.iload me at_164 rfl ?_
    refine W66.iconst me at_166 (v := 3) rfl ?_
    show Fi p e below s Z _ _ _ _ T66 (mkF m 167 #[.val (.int p0), .val (.int p1), .val (.int p2), .val (.int p3), .val (.int p4), .val (.int p5), .val (.int (5 : Int32)), .val (.int c0), .val (.int c1), .val (.int c2), .val (.int c3), .val (.int c4), .val (.ref a58), .val (.int (stF (stF (stF (0 : Int32) c0 (0 : Int32)) c1 (1 : Int32)) c2 (2 : Int32))), .unset, .unset] [(.int (3 : Int32)), (.int c3), (.int (stF (stF (stF (0 : Int32) c0 (0 : Int32)) c1 (1 : Int32)) c2 (2 : Int32)))])
    refine W66.callS me hEL (hw _ (List.mem_of_getElem? (i := 5) rfl)) (hw _ (List.mem_of_getElem? (i := 6) rfl)) (hw _ (List.mem_of_getElem? (i := 2) rfl)) (hw _ (List.mem_of_getElem? (i := 7) rfl)) (argsL := [(.int (stF (stF (stF (0 : Int32) c0 (0 : Int32)) c1 (1 : Int32)) c2 (2 : Int32))), (.int c3), (.int (3 : Int32))]) (rest := []) (c_step (ss := []) g W66.old) at_167 (by decide) (fun _ q => nomatch q) rfl (lenOf pd_13 rfl) (own_le rfl) (own_le rfl) (own_le rfl) (own_le rfl) rfl ?_
    intro T67 h67 v67 W67 z67 q67
    obtain ⟨_, rfl, rfl, rfl⟩ := q67
    show Fi p e below s Z _ _ _ _ T67 (mkF m 170 #[.val (.int p0), .val (.int p1), .val (.int p2), .val (.int p3), .val (.int p4), .val (.int p5), .val (.int (5 : Int32)), .val (.int c0), .val (.int c1), .val (.int c2), .val (.int c3), .val (.int c4), .val (.ref a58), .val (.int (stF (stF (stF (0 : Int32) c0 (0 : Int32)) c1 (1 : Int32)) c2 (2 : Int32))), .unset, .unset] [(.int (stF (stF (stF (stF (0 : Int32) c0 (0 : Int32)) c1 (1 : Int32)) c2 (2 : Int32)) c3 (3 : Int32)))])
    refine W67.istore me at_170 (l' := #[.val (.int p0), .val (.int p1), .val (.int p2), .val (.int p3), .val (.int p4), .val (.int p5), .val (.int (5 : Int32)), .val (.int c0), .val (.int c1), .val (.int c2), .val (.int c3), .val (.int c4), .val (.ref a58), .val (.int (stF (stF (stF (stF (0 : Int32) c0 (0 : Int32)) c1 (1 : Int32)) c2 (2 : Int32)) c3 (3 : Int32))), .unset, .unset]) rfl ?_
    refine W67.iload me at_172 rfl ?_
    refine W67.iconst me at_174 (v := 4) rfl ?_
    show Fi p e below s Z _ _ _ _ T67 (mkF m 175 #[.val (.int p0), .val (.int p1), .val (.int p2), .val (.int p3), .val (.int p4), .val (.int p5), .val (.int (5 : Int32)), .val (.int c0), .val (.int c1), .val (.int c2), .val (.int c3), .val (.int c4), .val (.ref a58), .val (.int (stF (stF (stF (stF (0 : Int32) c0 (0 : Int32)) c1 (1 : Int32)) c2 (2 : Int32)) c3 (3 : Int32))), .unset, .unset] [(.int (4 : Int32)), (.int (5 : Int32))])
    refine W67.icN_le me at_175 (by decide) ?_
    show Fi p e below s Z _ _ _ _ T67 (mkF m 178 #[.val (.int p0), .val (.int p1), .val (.int p2), .val (.int p3), .val (.int p4), .val (.int p5), .val (.int (5 : Int32)), .val (.int c0), .val (.int c1), .val (.int c2), .val (.int c3), .val (.int c4), .val (.ref a58), .val (.int (stF (stF (stF (stF (0 : Int32) c0 (0 : Int32)) c1 (1 : Int32)) c2 (2 : Int32)) c3 (3 : Int32))), .unset, .unset] [])
    refine W67.iload me at_178 rfl ?_
    refine W67.iload me at_180 rfl ?_
    refine W67.iconst me at_182 (v := 4) rfl ?_
    show Fi p e below s Z _ _ _ _ T67 (mkF m 183 #[.val (.int p0), .val (.int p1), .val (.int p2), .val (.int p3), .val (.int p4), .val (.int p5), .val (.int (5 : Int32)), .val (.int c0), .val (.int c1), .val (.int c2), .val (.int c3), .val (.int c4), .val (.ref a58), .val (.int (stF (stF (stF (stF (0 : Int32) c0 (0 : Int32)) c1 (1 : Int32)) c2 (2 : Int32)) c3 (3 : Int32))), .unset, .unset] [(.int (4 : Int32)), (.int c4), (.int (stF (stF (stF (stF (0 : Int32) c0 (0 : Int32)) c1 (1 : Int32)) c2 (2 : Int32)) c3 (3 : Int32)))])
    refine W67.callS me hEL (hw _ (List.mem_of_getElem? (i := 5) rfl)) (hw _ (List.mem_of_getElem? (i := 6) rfl)) (hw _ (List.mem_of_getElem? (i := 2) rfl)) (hw _ (List.mem_of_getElem? (i := 7) rfl)) (argsL := [(.int (stF (stF (stF (stF (0 : Int32) c0 (0 : Int32)) c1 (1 : Int32)) c2 (2 : Int32)) c3 (3 : Int32))), (.int c4), (.int (4 : Int32))]) (rest := []) (c_step (ss := []) g W67.old) at_183 (by decide) (fun _ q => nomatch q) rfl (lenOf pd_13 rfl) (own_le rfl) (own_le rfl) (own_le rfl) (own_le rfl) rfl ?_
    intro T68 h68 v68 W68 z68 q68
    obtain ⟨_, rfl, rfl, rfl⟩ := q68
    show Fi p e below s Z _ _ _ _ T68 (mkF m 186 #[.val (.int p0), .val (.int p1), .val (.int p2), .val (.int p3), .val (.int p4), .val (.int p5), .val (.int (5 : Int32)), .val (.int c0), .val (.int c1), .val (.int c2), .val (.int c3), .val (.int c4), .val (.ref a58), .val (.int (stF (stF (stF (stF (0 : Int32) c0 (0 : Int32)) c1 (1 : Int32)) c2 (2 : Int32)) c3 (3 : Int32))), .unset, .unset] [(.int (stF (stF (stF (stF (stF (0 : Int32) c0 (0 : Int32)) c1 (1 : Int32)) c2 (2 : Int32)) c3 (3 : Int32)) c4 (4 : Int32)))])
    refine W68.istore me at_186 (l' := #[.val (.int p0), .val (.int p1), .val (.int p2), .val (.int p3), .val (.int p4), .val (.int p5), .val (.int (5 : Int32)), .val (.int c0), .val (.int c1), .val (.int c2), .val (.int c3), .val (.int c4), .val (.ref a58), .val (.int (stF (stF (stF (stF (stF (0 : Int32) c0 (0 : Int32)) c1 (1 : Int32)) c2 (2 : Int32)) c3 (3 : Int32)) c4 (4 : Int32))), .unset, .unset]) rfl ?_
    show Fi p e below s Z _ _ _ _ T68 (mkF m 188 #[.val (.int p0), .val (.int p1), .val (.int p2), .val (.int p3), .val (.int p4), .val (.int p5), .val (.int (5 : Int32)), .val (.int c0), .val (.int c1), .val (.int c2), .val (.int c3), .val (.int c4), .val (.ref a58), .val (.int (stF (stF (stF (stF (stF (0 : Int32) c0 (0 : Int32)) c1 (1 : Int32)) c2 (2 : Int32)) c3 (3 : Int32)) c4 (4 : Int32))), .unset, .unset] [])
    obtain ⟨st, hst⟩ : ∃ z, z = (stF (stF (stF (stF (stF (0 : Int32) c0 (0 : Int32)) c1 (1 : Int32)) c2 (2 : Int32)) c3 (3 : Int32)) c4 (4 : Int32)) := ⟨_, rfl⟩
    have hrn : rn [c0, c1, c2, c3, c4] 0 0 = st := hst ▸ rfl
    rw [← hst]
    show Fi p e below s Z _ _ _ _ T68 (mkF m 188 #[.val (.int p0), .val (.int p1), .val (.int p2), .val (.int p3), .val (.int p4), .val (.int p5), .val (.int (5 : Int32)), .val (.int c0), .val (.int c1), .val (.int c2), .val (.int c3), .val (.int c4), .val (.ref a58), .val (.int st), .unset, .unset] [])
    refine W68.iload me at_188 rfl ?_
    refine W68.iconst me at_190 (v := 4) rfl ?_
    show Fi p e below s Z _ _ _ _ T68 (mkF m 191 #[.val (.int p0), .val (.int p1), .val (.int p2), .val (.int p3), .val (.int p4), .val (.int p5), .val (.int (5 : Int32)), .val (.int c0), .val (.int c1), .val (.int c2), .val (.int c3), .val (.int c4), .val (.ref a58), .val (.int st), .unset, .unset] [(.int (4 : Int32)), (.int st)])
    refine W68.ic_lt me at_191 (pc' := 201) (by decide) (by decide) (fun hs => ?_) (fun hs => ?_)
    ·
      show Fi p e below s Z _ _ _ _ T68 (mkF m 201 #[.val (.int p0), .val (.int p1), .val (.int p2), .val (.int p3), .val (.int p4), .val (.int p5), .val (.int (5 : Int32)), .val (.int c0), .val (.int c1), .val (.int c2), .val (.int c3), .val (.int c4), .val (.ref a58), .val (.int st), .unset, .unset] [])
      refine W68.iconst me at_201 (v := -1) rfl ?_
      refine W68.istore me at_202 (l' := #[.val (.int p0), .val (.int p1), .val (.int p2), .val (.int p3), .val (.int p4), .val (.int p5), .val (.int (5 : Int32)), .val (.int c0), .val (.int c1), .val (.int c2), .val (.int c3), .val (.int c4), .val (.ref a58), .val (.int st), .val (.int (-1 : Int32)), .unset]) rfl ?_
      show Fi p e below s Z _ _ _ _ T68 (mkF m 204 #[.val (.int p0), .val (.int p1), .val (.int p2), .val (.int p3), .val (.int p4), .val (.int p5), .val (.int (5 : Int32)), .val (.int c0), .val (.int c1), .val (.int c2), .val (.int c3), .val (.int c4), .val (.ref a58), .val (.int st), .val (.int (-1 : Int32)), .unset] [])
      refine W68.newO me (hw _ (List.mem_of_getElem? (i := 8) rfl)) (hw _ (List.mem_of_getElem? (i := 9) rfl)) (hw _ (List.mem_of_getElem? (i := 10) rfl)) at_204 (own_le rfl) (own_le rfl) ?_
      intro T69 h69 a69 g69 W69 E69 A69 D69 U69
      show Fi p e below s Z _ _ _ _ T69 (mkF m 207 #[.val (.int p0), .val (.int p1), .val (.int p2), .val (.int p3), .val (.int p4), .val (.int p5), .val (.int (5 : Int32)), .val (.int c0), .val (.int c1), .val (.int c2), .val (.int c3), .val (.int c4), .val (.ref a58), .val (.int st), .val (.int (-1 : Int32)), .unset] [(.ref a69)])
      refine W69.dup me at_207 rfl ?_
      refine W69.aload me at_208 rfl rfl ?_
      show Fi p e below s Z _ _ _ _ T69 (mkF m 210 #[.val (.int p0), .val (.int p1), .val (.int p2), .val (.int p3), .val (.int p4), .val (.int p5), .val (.int (5 : Int32)), .val (.int c0), .val (.int c1), .val (.int c2), .val (.int c3), .val (.int c4), .val (.ref a58), .val (.int st), .val (.int (-1 : Int32)), .unset] [(.ref a58), (.ref a69), (.ref a69)])
      refine W69.callI me hEL (hw _ (List.mem_of_getElem? (i := 11) rfl)) (hw _ (List.mem_of_getElem? (i := 12) rfl)) (hw _ (List.mem_of_getElem? (i := 10) rfl)) (hw _ (List.mem_of_getElem? (i := 13) rfl)) rfl (a := a69) (argsL := [(.ref a58)]) (rest := [(.ref a69)]) (c_init3 g W69.old (cs := [c0, c1, c2, c3, c4]) A69 (D69 (Or.inr (hw _ (List.mem_of_getElem? (i := 36) rfl))) (ty := .array .byte) (by decide)) (D69 (Or.inr (hw _ (List.mem_of_getElem? (i := 34) rfl))) (ty := .byte) (by decide)) (A63.ext E69) (List.mem_cons_self ..) (by have := W68.old.2.1; omega) (C8.cons q0 (C8.cons q1 (C8.cons q2 (C8.cons q3 (C8.cons q4 C8.nil))))) (own_le rfl)) at_210 (by decide) (fun _ q => q) rfl (lenOf pd_11 rfl) (own_le rfl) (own_le rfl) (own_le rfl) (own_le rfl) rfl ?_
      intro T70 h70 v70 W70 z70 q70
      obtain ⟨rfl, K70, L70⟩ := q70
      show Fi p e below s Z _ _ _ _ T70 (mkF m 213 #[.val (.int p0), .val (.int p1), .val (.int p2), .val (.int p3), .val (.int p4), .val (.int p5), .val (.int (5 : Int32)), .val (.int c0), .val (.int c1), .val (.int c2), .val (.int c3), .val (.int c4), .val (.ref a58), .val (.int st), .val (.int (-1 : Int32)), .unset] [(.ref a69)])
      refine W70.callS me hEL (hw _ (List.mem_of_getElem? (i := 37) rfl)) (hw _ (List.mem_of_getElem? (i := 38) rfl)) (hw _ (List.mem_of_getElem? (i := 39) rfl)) (hw _ (List.mem_of_getElem? (i := 40) rfl)) (argsL := [(.ref a69)]) (rest := []) (c_cstart (ss := []) g W70.old L70) at_213 (by decide) (fun _ q => nomatch q) rfl (lenOf pd_12 rfl) (own_le rfl) (own_le rfl) (own_le rfl) (own_le rfl) rfl ?_
      intro T71 h71 v71 W71 z71 q71
      obtain ⟨_, rfl, rfl, rfl⟩ := q71
      show Fi p e below s Z _ _ _ _ T71 (mkF m 216 #[.val (.int p0), .val (.int p1), .val (.int p2), .val (.int p3), .val (.int p4), .val (.int p5), .val (.int (5 : Int32)), .val (.int c0), .val (.int c1), .val (.int c2), .val (.int c3), .val (.int c4), .val (.ref a58), .val (.int st), .val (.int (-1 : Int32)), .unset] [(.int (rF (rn [c0, c1, c2, c3, c4] 0 0)))])
      refine W71.istore me at_216 (l' := #[.val (.int p0), .val (.int p1), .val (.int p2), .val (.int p3), .val (.int p4), .val (.int p5), .val (.int (5 : Int32)), .val (.int c0), .val (.int c1), .val (.int c2), .val (.int c3), .val (.int c4), .val (.ref a58), .val (.int st), .val (.int (-1 : Int32)), .val (.int (rF (rn [c0, c1, c2, c3, c4] 0 0)))]) rfl ?_
      refine W71.iload me at_218 rfl ?_
      refine W71.iload me at_220 rfl ?_
      show Fi p e below s Z _ _ _ _ T71 (mkF m 222 #[.val (.int p0), .val (.int p1), .val (.int p2), .val (.int p3), .val (.int p4), .val (.int p5), .val (.int (5 : Int32)), .val (.int c0), .val (.int c1), .val (.int c2), .val (.int c3), .val (.int c4), .val (.ref a58), .val (.int st), .val (.int (-1 : Int32)), .val (.int (rF (rn [c0, c1, c2, c3, c4] 0 0)))] [(.int (-1 : Int32)), (.int (rF (rn [c0, c1, c2, c3, c4] 0 0)))])
      refine W71.icN_ne me at_222 (by rw [hrn, rF, if_pos hs]) ?_
      refine W71.iconst me at_225 (v := 1) rfl ?_
      refine W71.goto me at_226 (pc' := 230) (by decide) (by decide) ?_
      show Fi p e below s Z _ _ _ _ T71 (mkF m 230 #[.val (.int p0), .val (.int p1), .val (.int p2), .val (.int p3), .val (.int p4), .val (.int p5), .val (.int (5 : Int32)), .val (.int c0), .val (.int c1), .val (.int c2), .val (.int c3), .val (.int c4), .val (.ref a58), .val (.int st), .val (.int (-1 : Int32)), .val (.int (rF (rn [c0, c1, c2, c3, c4] 0 0)))] [(.int (1 : Int32))])
      exact W71.retN hEL me (Or.inl rfl) at_230 rfl (by decide) (by decide)
    ·
      show Fi p e below s Z _ _ _ _ T68 (mkF m 194 #[.val (.int p0), .val (.int p1), .val (.int p2), .val (.int p3), .val (.int p4), .val (.int p5), .val (.int (5 : Int32)), .val (.int c0), .val (.int c1), .val (.int c2), .val (.int c3), .val (.int c4), .val (.ref a58), .val (.int st), .unset, .unset] [])
      refine W68.iload me at_194 rfl ?_
      refine W68.iconst me at_196 (v := 4) rfl ?_
      refine W68.isub me at_197 ?_
      refine W68.goto me at_198 (pc' := 202) (by decide) (by decide) ?_
      refine W68.istore me at_202 (l' := #[.val (.int p0), .val (.int p1), .val (.int p2), .val (.int p3), .val (.int p4), .val (.int p5), .val (.int (5 : Int32)), .val (.int c0), .val (.int c1), .val (.int c2), .val (.int c3), .val (.int c4), .val (.ref a58), .val (.int st), .val (.int (st - (4 : Int32))), .unset]) rfl ?_
      show Fi p e below s Z _ _ _ _ T68 (mkF m 204 #[.val (.int p0), .val (.int p1), .val (.int p2), .val (.int p3), .val (.int p4), .val (.int p5), .val (.int (5 : Int32)), .val (.int c0), .val (.int c1), .val (.int c2), .val (.int c3), .val (.int c4), .val (.ref a58), .val (.int st), .val (.int (st - (4 : Int32))), .unset] [])
      refine W68.newO me (hw _ (List.mem_of_getElem? (i := 8) rfl)) (hw _ (List.mem_of_getElem? (i := 9) rfl)) (hw _ (List.mem_of_getElem? (i := 10) rfl)) at_204 (own_le rfl) (own_le rfl) ?_
      intro T72 h72 a72 g72 W72 E72 A72 D72 U72
      show Fi p e below s Z _ _ _ _ T72 (mkF m 207 #[.val (.int p0), .val (.int p1), .val (.int p2), .val (.int p3), .val (.int p4), .val (.int p5), .val (.int (5 : Int32)), .val (.int c0), .val (.int c1), .val (.int c2), .val (.int c3), .val (.int c4), .val (.ref a58), .val (.int st), .val (.int (st - (4 : Int32))), .unset] [(.ref a72)])
      refine W72.dup me at_207 rfl ?_
      refine W72.aload me at_208 rfl rfl ?_
      show Fi p e below s Z _ _ _ _ T72 (mkF m 210 #[.val (.int p0), .val (.int p1), .val (.int p2), .val (.int p3), .val (.int p4), .val (.int p5), .val (.int (5 : Int32)), .val (.int c0), .val (.int c1), .val (.int c2), .val (.int c3), .val (.int c4), .val (.ref a58), .val (.int st), .val (.int (st - (4 : Int32))), .unset] [(.ref a58), (.ref a72), (.ref a72)])
      refine W72.callI me hEL (hw _ (List.mem_of_getElem? (i := 11) rfl)) (hw _ (List.mem_of_getElem? (i := 12) rfl)) (hw _ (List.mem_of_getElem? (i := 10) rfl)) (hw _ (List.mem_of_getElem? (i := 13) rfl)) rfl (a := a72) (argsL := [(.ref a58)]) (rest := [(.ref a72)]) (c_init3 g W72.old (cs := [c0, c1, c2, c3, c4]) A72 (D72 (Or.inr (hw _ (List.mem_of_getElem? (i := 36) rfl))) (ty := .array .byte) (by decide)) (D72 (Or.inr (hw _ (List.mem_of_getElem? (i := 34) rfl))) (ty := .byte) (by decide)) (A63.ext E72) (List.mem_cons_self ..) (by have := W68.old.2.1; omega) (C8.cons q0 (C8.cons q1 (C8.cons q2 (C8.cons q3 (C8.cons q4 C8.nil))))) (own_le rfl)) at_210 (by decide) (fun _ q => q) rfl (lenOf pd_11 rfl) (own_le rfl) (own_le rfl) (own_le rfl) (own_le rfl) rfl ?_
      intro T73 h73 v73 W73 z73 q73
      obtain ⟨rfl, K73, L73⟩ := q73
      show Fi p e below s Z _ _ _ _ T73 (mkF m 213 #[.val (.int p0), .val (.int p1), .val (.int p2), .val (.int p3), .val (.int p4), .val (.int p5), .val (.int (5 : Int32)), .val (.int c0), .val (.int c1), .val (.int c2), .val (.int c3), .val (.int c4), .val (.ref a58), .val (.int st), .val (.int (st - (4 : Int32))), .unset] [(.ref a72)])
      refine W73.callS me hEL (hw _ (List.mem_of_getElem? (i := 37) rfl)) (hw _ (List.mem_of_getElem? (i := 38) rfl)) (hw _ (List.mem_of_getElem? (i := 39) rfl)) (hw _ (List.mem_of_getElem? (i := 40) rfl)) (argsL := [(.ref a72)]) (rest := []) (c_cstart (ss := []) g W73.old L73) at_213 (by decide) (fun _ q => nomatch q) rfl (lenOf pd_12 rfl) (own_le rfl) (own_le rfl) (own_le rfl) (own_le rfl) rfl ?_
      intro T74 h74 v74 W74 z74 q74
      obtain ⟨_, rfl, rfl, rfl⟩ := q74
      show Fi p e below s Z _ _ _ _ T74 (mkF m 216 #[.val (.int p0), .val (.int p1), .val (.int p2), .val (.int p3), .val (.int p4), .val (.int p5), .val (.int (5 : Int32)), .val (.int c0), .val (.int c1), .val (.int c2), .val (.int c3), .val (.int c4), .val (.ref a58), .val (.int st), .val (.int (st - (4 : Int32))), .unset] [(.int (rF (rn [c0, c1, c2, c3, c4] 0 0)))])
      refine W74.istore me at_216 (l' := #[.val (.int p0), .val (.int p1), .val (.int p2), .val (.int p3), .val (.int p4), .val (.int p5), .val (.int (5 : Int32)), .val (.int c0), .val (.int c1), .val (.int c2), .val (.int c3), .val (.int c4), .val (.ref a58), .val (.int st), .val (.int (st - (4 : Int32))), .val (.int (rF (rn [c0, c1, c2, c3, c4] 0 0)))]) rfl ?_
      refine W74.iload me at_218 rfl ?_
      refine W74.iload me at_220 rfl ?_
      show Fi p e below s Z _ _ _ _ T74 (mkF m 222 #[.val (.int p0), .val (.int p1), .val (.int p2), .val (.int p3), .val (.int p4), .val (.int p5), .val (.int (5 : Int32)), .val (.int c0), .val (.int c1), .val (.int c2), .val (.int c3), .val (.int c4), .val (.ref a58), .val (.int st), .val (.int (st - (4 : Int32))), .val (.int (rF (rn [c0, c1, c2, c3, c4] 0 0)))] [(.int (st - (4 : Int32))), (.int (rF (rn [c0, c1, c2, c3, c4] 0 0)))])
      refine W74.icN_ne me at_222 (by rw [hrn, rF, if_neg hs]) ?_
      refine W74.iconst me at_225 (v := 1) rfl ?_
      refine W74.goto me at_226 (pc' := 230) (by decide) (by decide) ?_
      show Fi p e below s Z _ _ _ _ T74 (mkF m 230 #[.val (.int p0), .val (.int p1), .val (.int p2), .val (.int p3), .val (.int p4), .val (.int p5), .val (.int (5 : Int32)), .val (.int c0), .val (.int c1), .val (.int c2), .val (.int c3), .val (.int c4), .val (.ref a58), .val (.int st), .val (.int (st - (4 : Int32))), .val (.int (rF (rn [c0, c1, c2, c3, c4] 0 0)))] [(.int (1 : Int32))])
      exact W74.retN hEL me (Or.inl rfl) at_230 rfl (by decide) (by decide)
set_option maxRecDepth 65536 in
set_option maxHeartbeats 40000000 in
theorem comes_1 {Post : Tables → Env → Array Value → State → Outcome → State → Prop} (hpost : ∀ tb e args s v u, (limb_1_1.after args s (.returned v) u = true ∧ limb_1_2.after args s (.returned v) u = true ∧ True) → ReturnedEndW s (.returned v) u (Jvm.fieldLocs frame_1_writes args s ++ Jvm.arrayLocs frame_1_arrays args s ++ Jvm.staticLocs frame_1_statics s) 16 1152 → Post tb e args s (.returned v) u) :
    ArmFor flags0 classFile x code maxLocals ret World_1 tables_1 room_1 Calls_1 rest_1 Pre_1 Post := by
  intro l hfl _ _ p e ha hc hk s m args below hf hA hF happ hP
  obtain ⟨hcalls, hrest, hpre⟩ := hP
  obtain ⟨hc1, -⟩ := hcalls
  obtain ⟨-, -, -, hnamed, -, -, -, hat⟩ := (Spec.applies_iff hf).mp happ
  obtain ⟨hg, hn⟩ := and_e (Cond.before_iff.mp (show (Jvm.Cond.and given_1 narrow_1).before args s = true from hpre))
  obtain ⟨h1, r0⟩ := and_e hg
  obtain ⟨y0, r1⟩ := and_e r0
  obtain ⟨y1, r2⟩ := and_e r1
  obtain ⟨y2, r3⟩ := and_e r2
  obtain ⟨y3, r4⟩ := and_e r3
  obtain ⟨y4, r5⟩ := and_e r4
  obtain ⟨w0, w1, w2, w3, w4, w5, rfl⟩ : ∃ w0 w1 w2 w3 w4 w5 : Value, args = #[w0, w1, w2, w3, w4, w5] := by
    have hs : args.size = 6 := by simpa [Cond.value, given_1] using h1
    obtain ⟨L⟩ := args
    match L, hs with
    | [w0, w1, w2, w3, w4, w5], _ => exact ⟨w0, w1, w2, w3, w4, w5, rfl⟩
  have hw := fun d (hd : d ∈ tables_1) => atoms_spec (ws := Jvm.Cond.code x code maxLocals ret :: tables_1) hat d (List.mem_cons_of_mem _ hd)
  obtain ⟨hsets, hown0⟩ := atoms_of _ (rest_1_c_eq ▸ (show rest_1_c.before _ s = true from hrest))
  obtain ⟨i0, e0⟩ := is_v y0
  obtain rfl : w0 = (.int i0) := Option.some.inj e0
  obtain ⟨i1, e1⟩ := is_v y1
  obtain rfl : w1 = (.int i1) := Option.some.inj e1
  obtain ⟨i2, e2⟩ := is_v y2
  obtain rfl : w2 = (.int i2) := Option.some.inj e2
  obtain ⟨i3, e3⟩ := is_v y3
  obtain rfl : w3 = (.int i3) := Option.some.inj e3
  obtain ⟨i4, e4⟩ := is_v y4
  obtain rfl : w4 = (.int i4) := Option.some.inj e4
  obtain ⟨i5, e5⟩ := is_v r5
  obtain rfl : w5 = (.int i5) := Option.some.inj e5
  obtain ⟨G, eG⟩ := is_v (Cond.before_iff.mp (hsets _ (List.mem_of_getElem? (i := 1) rfl)))
  have nG := not_v (Cond.before_iff.mp (hsets _ (List.mem_of_getElem? (i := 2) rfl)))
  have SG : Sta s s.heap "java/lang/String" "COMPACT_STRINGS" "Z" (.int G) := Sta.start eG (Or.inl (hsets _ (List.mem_of_getElem? (i := 0) rfl)))
  have cG : ¬ (G = (0 : Int32)) := gotF (Cond.eq_ints eG (Term.int_eval (0))) nG
  obtain ⟨GF, eF, rF⟩ := isR_v (Cond.before_iff.mp (hsets _ (List.mem_of_getElem? (i := 8) rfl)))
  have SF := Sta.start eF (Or.inl (hsets _ (List.mem_of_getElem? (i := 7) rfl)))
  have hEL : EW s _ consts_1 := (EW.cons (hw _ (List.mem_of_getElem? (i := 73) rfl)) (by decide) EW.nil)
  have hcw : Jvm.Lit.compactW.before _ s = true := hsets _ (List.mem_of_getElem? (i := 2) rfl)
  have hCH : CHv s consts_1 s.vm s.heap := CHv.start hEL (fun q hq => hc1 q hq) hcw (hw _ (List.mem_of_getElem? (i := 26) rfl)) (hw _ (List.mem_of_getElem? (i := 9) rfl))
  have g : Gl s _ := ⟨hw, hEL, ⟨G, SG, cG⟩, ⟨GF, SF, rF⟩, trivial⟩
  obtain ⟨n, o, h1, h2, h3, v, L, rfl, ⟨⟨_, rfl, rfl⟩, N, -⟩, -, hq⟩ := c_law (l := l) (ws := tables_1) (kn := false) (ss := []) g (Old.start s) i0 i1 i2 i3 i4 i5 p e ha hc hk s m _ below hf ((Spec.applies_iff_loose hf).mp happ).1 ⟨rfl, State.Warmed39.refl s, rfl, hCH, fun _ q => nomatch q⟩ (fun q => nomatch q)
  refine ⟨n, _, h1, h2, h3, hpost _ _ _ _ _ _ ⟨Cond.after_iff.mpr rfl, Cond.after_iff.mpr (eq_i res_at (Term.int_eval (1)) rfl), trivial⟩ ⟨hq.1, hq.2.1, hq.2.2.1, (hq.2.2.2.sift fun y hy => Or.inr (N y hy)).mono (by decide) (by decide)⟩⟩
theorem main_1_1 : Claimed_1_1 := comes_1 fun _ _ _ _ _ _ h hF => ⟨h.1, hF⟩
theorem main_1_2 : Claimed_1_2 := comes_1 fun _ _ _ _ _ _ h hF => ⟨h.2.1, hF⟩
end Jvm.Pilot.@@N@@
namespace Jvm.Pilot.@@N@@
open Jvm Jvm.ClassFile Sem Op Lib Jvm.Free Jvm.Stand Jvm.Pilot.@@N@@.Jvm.D
/-! MADE BY PROGRAM (witnessworld.py) out of the Statement's table words and the real class files: 20 classes; the members and pool entries that the words name. The judged class is class 1, her method 3. -/
namespace start1
open Jvm.ClassFile
def u (s : String) : CpInfo := .utf8 (stringToUtf16 s)
/-- a pool by its gaps: so many unusable entries, then the entry; so many at the end -/
def gap : Nat → List CpInfo → List CpInfo
  | 0, r => r
  | n + 1, r => .unusable :: gap n r
def poolList (es : List (Nat × CpInfo)) (last : Nat) : List CpInfo := es.foldr (fun e r => gap e.1 (e.2 :: r)) (gap last [])
def pool (es : List (Nat × CpInfo)) (last : Nat) : Array CpInfo := ⟨poolList es last⟩
def fileOf (pool : Array CpInfo) (this : Nat) (attrs : Array Attribute := #[]) (ms : Array MethodInfo := #[]) (fl : Nat := 33) (sup : Nat := 0) (ifs : Array Nat := #[]) (fds : Array FieldInfo := #[]) : ClassFile where
  minorVersion := 0
  majorVersion := 65
  constantPool := pool
  accessFlags := fl
  thisClass := this
  superClass := sup
  interfaces := ifs
  fields := fds
  methods := ms
  attributes := attrs
def plain (name : String) (sup : Option ClassId) : Class where
  name := name
  kind := .ordinary
  loader := none
  accessFlags := 33
  super := sup
  interfaces := #[]
  cf := none
  fields := #[]
  methods := #[]
  instanceTypes := #[]
  staticTypes := #[]
  resolved := #[]
  callSites := []
  init := .initialized
  statics := none
  mirror := none

def pool0 : Array CpInfo := pool [(5, u "<init>"), (0, u "()V"), (1, .class_ 10), (1, u "java/lang/Object")] 113

def k0c0 : Code := { maxStack := 0, maxLocals := 1, code := object_method_1_code, exceptionTable := #[], attributes := #[] }
def k0m0 : Method := { name := "<init>", desc := "()V", sig := { parameters := [], returnType := none }, accessFlags := 1, code := some k0c0 }
/-- java/lang/Object -/
def k0 : Class := { plain "java/lang/Object" none with
  accessFlags := 33
  interfaces := #[]
  cf := some (fileOf pool0 8 #[] #[{ accessFlags := 1, nameIndex := 5, descriptorIndex := 6, attributes := #[] }] 33 0 #[] #[])
  fields := #[]
  methods := #[k0m0]
  instanceTypes := #[]
  staticTypes := #[]
  resolved := Array.replicate 124 none
  statics := none }

def pool1 : Array CpInfo := pool [(2, .class_ 4), (1, u "java/lang/Object"), (0, u "<init>"), (0, u "()V"), (0, .methodref 8 9), (0, .class_ 10), (0, .nameAndType 11 12), (0, u "com/example/triplink/triplink/rules/GrammarTokensCommentStartPinLaw"), (0, u "pick"), (0, u "(I)C"), (0, .methodref 8 14), (0, .nameAndType 15 16), (0, u "step"), (0, u "(ICI)I"), (0, .class_ 18), (0, u "java/lang/String"), (0, .methodref 17 20), (0, .nameAndType 5 21), (0, u "([C)V"), (0, .methodref 23 24), (0, .class_ 25), (0, .nameAndType 26 27), (0, u "com/example/triplink/triplink/rules/GrammarTokens"), (0, u "commentStart"), (0, u "(Ljava/lang/String;)I"), (3, u "law"), (0, u "(IIIIII)Z")] 4

def k1m0 : Method := { name := "<init>", desc := "()V", sig := { parameters := [], returnType := none }, accessFlags := 2, code := none }
def k1c1 : Code := { maxStack := 2, maxLocals := 2, code := method_2_code, exceptionTable := #[], attributes := #[] }
def k1m1 : Method := { name := "pick", desc := "(I)C", sig := { parameters := [.int], returnType := some .char }, accessFlags := 10, code := some k1c1 }
def k1c2 : Code := { maxStack := 2, maxLocals := 4, code := method_3_code, exceptionTable := #[], attributes := #[] }
def k1m2 : Method := { name := "step", desc := "(ICI)I", sig := { parameters := [.int, .char, .int], returnType := some .int }, accessFlags := 10, code := some k1c2 }
def k1c3 : Code := { maxStack := 3, maxLocals := 16, code := code, exceptionTable := #[], attributes := #[] }
def k1m3 : Method := { name := "law", desc := "(IIIIII)Z", sig := { parameters := [.int, .int, .int, .int, .int, .int], returnType := some .boolean }, accessFlags := 9, code := some k1c3 }
/-- com/example/triplink/triplink/rules/GrammarTokensCommentStartPinLaw -/
def k1 : Class := { plain "com/example/triplink/triplink/rules/GrammarTokensCommentStartPinLaw" (some 0) with
  accessFlags := 49
  interfaces := #[]
  cf := some (fileOf pool1 8 #[] #[{ accessFlags := 2, nameIndex := 5, descriptorIndex := 6, attributes := #[] }, { accessFlags := 10, nameIndex := 11, descriptorIndex := 12, attributes := #[] }, { accessFlags := 10, nameIndex := 15, descriptorIndex := 16, attributes := #[] }, { accessFlags := 9, nameIndex := 31, descriptorIndex := 32, attributes := #[] }] 49 2 #[] #[])
  fields := #[]
  methods := #[k1m0, k1m1, k1m2, k1m3]
  instanceTypes := #[]
  staticTypes := #[]
  resolved := Array.replicate 37 none
  statics := none }

def pool2 : Array CpInfo := pool [(1, .class_ 2), (0, u "java/io/Serializable"), (0, .class_ 4), (0, u "java/lang/Object")] 2

/-- java/io/Serializable -/
def k2 : Class := { plain "java/io/Serializable" (some 0) with
  accessFlags := 1537
  interfaces := #[]
  cf := some (fileOf pool2 1 #[] #[] 1537 3 #[] #[])
  fields := #[]
  methods := #[]
  instanceTypes := #[]
  staticTypes := #[]
  resolved := Array.replicate 7 none
  statics := none }

def pool3 : Array CpInfo := pool [(1, .class_ 2), (0, u "java/lang/Comparable"), (0, .class_ 4), (0, u "java/lang/Object")] 7

/-- java/lang/Comparable -/
def k3 : Class := { plain "java/lang/Comparable" (some 0) with
  accessFlags := 1537
  interfaces := #[]
  cf := some (fileOf pool3 1 #[] #[] 1537 3 #[] #[])
  fields := #[]
  methods := #[]
  instanceTypes := #[]
  staticTypes := #[]
  resolved := Array.replicate 12 none
  statics := none }

def pool4 : Array CpInfo := pool [(2, .class_ 4), (1, u "java/lang/CharSequence"), (42, .class_ 48), (0, u "java/lang/CharSequence$1CodePointIterator"), (10, .class_ 60), (0, u "java/lang/CharSequence$1CharIterator"), (5, .class_ 67), (0, u "java/lang/Object")] 63

/-- java/lang/CharSequence -/
def k4 : Class := { plain "java/lang/CharSequence" (some 0) with
  accessFlags := 1537
  interfaces := #[]
  cf := some (fileOf pool4 2 #[.nestMembers #[47, 59]] #[] 1537 66 #[] #[])
  fields := #[]
  methods := #[]
  instanceTypes := #[]
  staticTypes := #[]
  resolved := Array.replicate 131 none
  statics := none }

def pool5 : Array CpInfo := pool [(1, .class_ 2), (0, u "java/lang/constant/Constable"), (0, .class_ 4), (0, u "java/lang/Object")] 6

/-- java/lang/constant/Constable -/
def k5 : Class := { plain "java/lang/constant/Constable" (some 0) with
  accessFlags := 1537
  interfaces := #[]
  cf := some (fileOf pool5 1 #[] #[] 1537 3 #[] #[])
  fields := #[]
  methods := #[]
  instanceTypes := #[]
  staticTypes := #[]
  resolved := Array.replicate 11 none
  statics := none }

def pool6 : Array CpInfo := pool [(1, .class_ 2), (0, u "java/lang/constant/ConstantDesc"), (0, .class_ 4), (0, u "java/lang/Object")] 32

/-- java/lang/constant/ConstantDesc -/
def k6 : Class := { plain "java/lang/constant/ConstantDesc" (some 0) with
  accessFlags := 1537
  interfaces := #[]
  cf := some (fileOf pool6 1 #[] #[] 1537 3 #[] #[])
  fields := #[]
  methods := #[]
  instanceTypes := #[]
  staticTypes := #[]
  resolved := Array.replicate 37 none
  statics := none }

def pool7 : Array CpInfo := pool [(1, .methodref 2 3), (0, .class_ 4), (0, .nameAndType 5 6), (0, u "java/lang/Object"), (0, u "<init>"), (0, u "()V"), (0, .string 8), (0, u ""), (0, .fieldref 10 11), (0, .class_ 12), (0, .nameAndType 13 14), (0, u "java/lang/String"), (0, u "value"), (0, u "[B"), (0, .fieldref 10 16), (0, .nameAndType 17 18), (0, u "coder"), (0, u "B"), (2, u "hash"), (0, u "I"), (2, u "hashIsZero"), (0, u "Z"), (0, .methodref 10 28), (0, .nameAndType 5 29), (0, u "([CIILjava/lang/Void;)V"), (8, .fieldref 10 39), (0, .nameAndType 40 26), (0, u "COMPACT_STRINGS"), (1, .class_ 44), (1, u "java/lang/StringUTF16"), (0, u "compress"), (1, .methodref 42 48), (0, .nameAndType 49 50), (0, u "coderFromArrayLen"), (0, u "([BI)B"), (56, .class_ 109), (1, u "java/lang/StringLatin1"), (32, u "()Z"), (34, .methodref 42 178), (0, .nameAndType 45 179), (0, u "([CII)[B"), (154, u "()I"), (0, .methodref 10 336), (0, .nameAndType 17 337), (0, u "()B"), (25, u "([BI)C"), (27, u "(II)V"), (35, u "(I)C"), (64, .methodref 10 493), (0, .nameAndType 494 142), (0, u "isLatin1"), (0, .methodref 107 496), (0, .nameAndType 497 363), (0, u "charAt"), (3, u "checkIndex"), (5, u "length"), (67, .class_ 576), (0, u "java/lang/CharSequence"), (22, u "CASE_INSENSITIVE_ORDER"), (0, u "Ljava/util/Comparator;"), (409, u "([C)V"), (42, .fieldref 1054 1055), (0, .class_ 1056), (0, .nameAndType 1057 1058), (0, u "jdk/internal/util/Preconditions"), (0, u "SIOOBE_FORMATTER"), (0, u "Ljava/util/function/BiFunction;"), (0, .methodref 1054 1060), (0, .nameAndType 501 1061), (0, u "(IILjava/util/function/BiFunction;)I"), (39, u "serialPersistentFields"), (0, u "[Ljava/io/ObjectStreamField;"), (0, .class_ 1104), (0, u "java/lang/String$CaseInsensitiveComparator"), (1, .class_ 1107), (0, u "java/io/Serializable"), (0, .class_ 1109), (0, u "java/lang/Comparable"), (0, .class_ 1111), (0, u "java/lang/constant/Constable"), (0, .class_ 1113), (0, u "java/lang/constant/ConstantDesc"), (2, u "serialVersionUID"), (0, u "J"), (3, u "REPL"), (0, u "C"), (2, u "LATIN1"), (1, u "UTF16")] 323

def k7m0 : Method := { name := "<init>", desc := "()V", sig := { parameters := [], returnType := none }, accessFlags := 1, code := none }
def k7c1 : Code := { maxStack := 5, maxLocals := 2, code := jdk_42_method_3_code, exceptionTable := #[], attributes := #[] }
def k7m1 : Method := { name := "<init>", desc := "([C)V", sig := { parameters := [(.array .char)], returnType := none }, accessFlags := 1, code := some k7c1 }
def k7c2 : Code := { maxStack := 2, maxLocals := 1, code := jdk_42_method_54_code, exceptionTable := #[], attributes := #[] }
def k7m2 : Method := { name := "length", desc := "()I", sig := { parameters := [], returnType := some .int }, accessFlags := 1, code := some k7c2 }
def k7c3 : Code := { maxStack := 2, maxLocals := 2, code := jdk_42_method_56_code, exceptionTable := #[], attributes := #[] }
def k7m3 : Method := { name := "charAt", desc := "(I)C", sig := { parameters := [.int], returnType := some .char }, accessFlags := 1, code := some k7c3 }
def k7c4 : Code := { maxStack := 4, maxLocals := 6, code := jdk_42_method_149_code, exceptionTable := #[], attributes := #[] }
def k7m4 : Method := { name := "<init>", desc := "([CIILjava/lang/Void;)V", sig := { parameters := [(.array .char), .int, .int, (.object "java/lang/Void")], returnType := none }, accessFlags := 2, code := some k7c4 }
def k7c5 : Code := { maxStack := 1, maxLocals := 1, code := jdk_42_method_152_code, exceptionTable := #[], attributes := #[] }
def k7m5 : Method := { name := "coder", desc := "()B", sig := { parameters := [], returnType := some .byte }, accessFlags := 0, code := some k7c5 }
def k7c6 : Code := { maxStack := 1, maxLocals := 1, code := jdk_42_method_154_code, exceptionTable := #[], attributes := #[] }
def k7m6 : Method := { name := "isLatin1", desc := "()Z", sig := { parameters := [], returnType := some .boolean }, accessFlags := 0, code := some k7c6 }
def k7c7 : Code := { maxStack := 3, maxLocals := 2, code := jdk_42_method_155_code, exceptionTable := #[], attributes := #[] }
def k7m7 : Method := { name := "checkIndex", desc := "(II)V", sig := { parameters := [.int, .int], returnType := none }, accessFlags := 8, code := some k7c7 }
/-- java/lang/String -/
def k7 : Class := { plain "java/lang/String" (some 0) with
  accessFlags := 49
  interfaces := #[2, 3, 4, 5, 6]
  cf := some (fileOf pool7 10 #[.nestMembers #[1103]] #[{ accessFlags := 1, nameIndex := 5, descriptorIndex := 6, attributes := #[] }, { accessFlags := 1, nameIndex := 5, descriptorIndex := 1010, attributes := #[] }, { accessFlags := 1, nameIndex := 507, descriptorIndex := 334, attributes := #[] }, { accessFlags := 1, nameIndex := 497, descriptorIndex := 427, attributes := #[] }, { accessFlags := 2, nameIndex := 5, descriptorIndex := 29, attributes := #[] }, { accessFlags := 0, nameIndex := 17, descriptorIndex := 337, attributes := #[] }, { accessFlags := 0, nameIndex := 494, descriptorIndex := 142, attributes := #[] }, { accessFlags := 8, nameIndex := 501, descriptorIndex := 391, attributes := #[] }] 49 2 #[1106, 1108, 575, 1110, 1112] #[{ accessFlags := 18, nameIndex := 13, descriptorIndex := 14, attributes := #[] }, { accessFlags := 18, nameIndex := 17, descriptorIndex := 18, attributes := #[] }, { accessFlags := 2, nameIndex := 21, descriptorIndex := 22, attributes := #[] }, { accessFlags := 2, nameIndex := 25, descriptorIndex := 26, attributes := #[] }, { accessFlags := 26, nameIndex := 1116, descriptorIndex := 1117, attributes := #[] }, { accessFlags := 24, nameIndex := 40, descriptorIndex := 26, attributes := #[] }, { accessFlags := 26, nameIndex := 1101, descriptorIndex := 1102, attributes := #[] }, { accessFlags := 26, nameIndex := 1121, descriptorIndex := 1122, attributes := #[] }, { accessFlags := 25, nameIndex := 599, descriptorIndex := 600, attributes := #[] }, { accessFlags := 24, nameIndex := 1125, descriptorIndex := 18, attributes := #[] }, { accessFlags := 24, nameIndex := 1127, descriptorIndex := 18, attributes := #[] }])
  fields := #[{ name := "value", type := (.array .byte), accessFlags := 18, slot := 0, constantValue := 0 }, { name := "coder", type := .byte, accessFlags := 18, slot := 1, constantValue := 0 }, { name := "hash", type := .int, accessFlags := 2, slot := 2, constantValue := 0 }, { name := "hashIsZero", type := .boolean, accessFlags := 2, slot := 3, constantValue := 0 }, { name := "serialVersionUID", type := .long, accessFlags := 26, slot := 0, constantValue := 0 }, { name := "COMPACT_STRINGS", type := .boolean, accessFlags := 24, slot := 1, constantValue := 0 }, { name := "serialPersistentFields", type := (.array (.object "java/io/ObjectStreamField")), accessFlags := 26, slot := 2, constantValue := 0 }, { name := "REPL", type := .char, accessFlags := 26, slot := 3, constantValue := 0 }, { name := "CASE_INSENSITIVE_ORDER", type := (.object "java/util/Comparator"), accessFlags := 25, slot := 4, constantValue := 0 }, { name := "LATIN1", type := .byte, accessFlags := 24, slot := 5, constantValue := 0 }, { name := "UTF16", type := .byte, accessFlags := 24, slot := 6, constantValue := 0 }]
  methods := #[k7m0, k7m1, k7m2, k7m3, k7m4, k7m5, k7m6, k7m7]
  instanceTypes := #[(.array .byte), .byte, .int, .boolean]
  staticTypes := #[.long, .boolean, (.array (.object "java/io/ObjectStreamField")), .char, (.object "java/util/Comparator"), .byte, .byte]
  resolved := Array.replicate 1451 none
  statics := some 0 }

def pool8 : Array CpInfo := pool [(6, .class_ 8), (1, u "java/lang/Object"), (0, u "<init>"), (0, u "()V"), (1, .class_ 14), (1, u "java/lang/StringUTF16"), (31, u "$assertionsDisabled"), (0, u "Z"), (13, u "HI_BYTE_SHIFT"), (0, u "I"), (2, u "LO_BYTE_SHIFT"), (49, .methodref 12 116), (0, .nameAndType 117 118), (0, u "compress"), (0, u "([CI[BII)I"), (3, u "([CII)[B"), (138, u "coderFromArrayLen"), (0, u "([BI)B"), (106, .class_ 371), (1, u "java/lang/StringUTF16$LinesSpliterator"), (58, u "MAX_LENGTH"), (196, .class_ 628), (0, u "java/lang/StringUTF16$CodePointsSpliterator"), (0, .class_ 630), (0, u "java/lang/StringUTF16$CharsSpliterator")] 4

def k8m0 : Method := { name := "<init>", desc := "()V", sig := { parameters := [], returnType := none }, accessFlags := 0, code := none }
def k8c1 : Code := { maxStack := 2, maxLocals := 2, code := jdk_52_method_15_code, exceptionTable := #[], attributes := #[] }
def k8m1 : Method := { name := "coderFromArrayLen", desc := "([BI)B", sig := { parameters := [(.array .byte), .int], returnType := some .byte }, accessFlags := 8, code := some k8c1 }
def k8c2 : Code := { maxStack := 5, maxLocals := 6, code := jdk_52_method_16_code, exceptionTable := #[], attributes := #[] }
def k8m2 : Method := { name := "compress", desc := "([CII)[B", sig := { parameters := [(.array .char), .int, .int], returnType := some (.array .byte) }, accessFlags := 9, code := some k8c2 }
def k8c3 : Code := { maxStack := 3, maxLocals := 7, code := jdk_52_method_21_code, exceptionTable := #[], attributes := #[] }
def k8m3 : Method := { name := "compress", desc := "([CI[BII)I", sig := { parameters := [(.array .char), .int, (.array .byte), .int, .int], returnType := some .int }, accessFlags := 9, code := some k8c3 }
/-- java/lang/StringUTF16 -/
def k8 : Class := { plain "java/lang/StringUTF16" (some 0) with
  accessFlags := 48
  interfaces := #[]
  cf := some (fileOf pool8 12 #[.nestMembers #[627, 629, 369]] #[{ accessFlags := 0, nameIndex := 9, descriptorIndex := 10, attributes := #[] }, { accessFlags := 8, nameIndex := 261, descriptorIndex := 262, attributes := #[] }, { accessFlags := 9, nameIndex := 117, descriptorIndex := 122, attributes := #[] }, { accessFlags := 9, nameIndex := 117, descriptorIndex := 118, attributes := #[] }] 48 6 #[] #[{ accessFlags := 26, nameIndex := 61, descriptorIndex := 62, attributes := #[] }, { accessFlags := 26, nameIndex := 65, descriptorIndex := 62, attributes := #[] }, { accessFlags := 24, nameIndex := 430, descriptorIndex := 62, attributes := #[] }, { accessFlags := 4120, nameIndex := 46, descriptorIndex := 47, attributes := #[] }])
  fields := #[{ name := "HI_BYTE_SHIFT", type := .int, accessFlags := 26, slot := 0, constantValue := 0 }, { name := "LO_BYTE_SHIFT", type := .int, accessFlags := 26, slot := 1, constantValue := 0 }, { name := "MAX_LENGTH", type := .int, accessFlags := 24, slot := 2, constantValue := 0 }, { name := "$assertionsDisabled", type := .boolean, accessFlags := 4120, slot := 3, constantValue := 0 }]
  methods := #[k8m0, k8m1, k8m2, k8m3]
  instanceTypes := #[]
  staticTypes := #[.int, .int, .int, .boolean]
  resolved := Array.replicate 635 none
  statics := none }

def pool9 : Array CpInfo := pool [(2, .class_ 4), (1, u "java/lang/Object"), (3, .class_ 10), (1, u "com/example/triplink/triplink/rules/GrammarTokens"), (0, u "file"), (0, u "Ljava/nio/file/Path;"), (2, u "line"), (0, u "I"), (2, u "statement"), (0, u "Ljava/lang/String;"), (0, .methodref 22 23), (0, .class_ 24), (0, .nameAndType 25 26), (0, u "java/lang/String"), (0, u "length"), (0, u "()I"), (0, .methodref 22 28), (0, .nameAndType 29 30), (0, u "charAt"), (0, u "(I)C"), (8, u "lookahead"), (2, .class_ 44), (1, u "com/example/triplink/triplink/rules/GrammarTokens$Token"), (12, u "Lcom/example/triplink/triplink/rules/GrammarTokens$Token;"), (11, u "tokenStart"), (2, u "position"), (33, .class_ 108), (1, u "com/example/triplink/triplink/rules/GrammarTokens$Kind"), (88, u "commentStart"), (0, u "(Ljava/lang/String;)I")] 29

def k9c0 : Code := { maxStack := 2, maxLocals := 4, code := prog_10_method_2_code, exceptionTable := #[], attributes := #[] }
def k9m0 : Method := { name := "commentStart", desc := "(Ljava/lang/String;)I", sig := { parameters := [(.object "java/lang/String")], returnType := some .int }, accessFlags := 8, code := some k9c0 }
/-- com/example/triplink/triplink/rules/GrammarTokens -/
def k9 : Class := { plain "com/example/triplink/triplink/rules/GrammarTokens" (some 0) with
  accessFlags := 32
  interfaces := #[]
  cf := some (fileOf pool9 8 #[.nestMembers #[42, 106]] #[{ accessFlags := 8, nameIndex := 197, descriptorIndex := 198, attributes := #[] }] 32 2 #[] #[{ accessFlags := 2, nameIndex := 11, descriptorIndex := 12, attributes := #[] }, { accessFlags := 2, nameIndex := 15, descriptorIndex := 16, attributes := #[] }, { accessFlags := 2, nameIndex := 19, descriptorIndex := 20, attributes := #[] }, { accessFlags := 2, nameIndex := 72, descriptorIndex := 16, attributes := #[] }, { accessFlags := 2, nameIndex := 69, descriptorIndex := 16, attributes := #[] }, { accessFlags := 2, nameIndex := 39, descriptorIndex := 57, attributes := #[] }])
  fields := #[{ name := "file", type := (.object "java/nio/file/Path"), accessFlags := 2, slot := 0, constantValue := 0 }, { name := "line", type := .int, accessFlags := 2, slot := 1, constantValue := 0 }, { name := "statement", type := (.object "java/lang/String"), accessFlags := 2, slot := 2, constantValue := 0 }, { name := "position", type := .int, accessFlags := 2, slot := 3, constantValue := 0 }, { name := "tokenStart", type := .int, accessFlags := 2, slot := 4, constantValue := 0 }, { name := "lookahead", type := (.object "com/example/triplink/triplink/rules/GrammarTokens$Token"), accessFlags := 2, slot := 5, constantValue := 0 }]
  methods := #[k9m0]
  instanceTypes := #[(.object "java/nio/file/Path"), .int, (.object "java/lang/String"), .int, .int, (.object "com/example/triplink/triplink/rules/GrammarTokens$Token")]
  staticTypes := #[]
  resolved := Array.replicate 228 none
  statics := none }

def pool10 : Array CpInfo := pool [(1, .class_ 2), (0, u "java/lang/String"), (1, .class_ 6), (1, u "java/lang/Object"), (0, u "<init>"), (0, u "()V"), (0, .methodref 1 10), (0, .nameAndType 11 12), (0, u "checkIndex"), (0, u "(II)V"), (1, .class_ 16), (1, u "java/lang/StringLatin1"), (36, u "([BI)C"), (67, u "$assertionsDisabled"), (0, u "Z"), (98, .class_ 223), (1, u "java/lang/StringLatin1$LinesSpliterator"), (28, u "charAt"), (137, .class_ 391), (0, u "java/lang/StringLatin1$CharsSpliterator")] 3

def k10m0 : Method := { name := "<init>", desc := "()V", sig := { parameters := [], returnType := none }, accessFlags := 0, code := none }
def k10c1 : Code := { maxStack := 2, maxLocals := 2, code := jdk_43_method_2_code, exceptionTable := #[], attributes := #[] }
def k10m1 : Method := { name := "charAt", desc := "([BI)C", sig := { parameters := [(.array .byte), .int], returnType := some .char }, accessFlags := 9, code := some k10c1 }
/-- java/lang/StringLatin1 -/
def k10 : Class := { plain "java/lang/StringLatin1" (some 0) with
  accessFlags := 48
  interfaces := #[]
  cf := some (fileOf pool10 14 #[.nestMembers #[390, 221]] #[{ accessFlags := 0, nameIndex := 7, descriptorIndex := 8, attributes := #[] }, { accessFlags := 9, nameIndex := 252, descriptorIndex := 53, attributes := #[] }] 48 4 #[] #[{ accessFlags := 4120, nameIndex := 121, descriptorIndex := 122, attributes := #[] }])
  fields := #[{ name := "$assertionsDisabled", type := .boolean, accessFlags := 4120, slot := 0, constantValue := 0 }]
  methods := #[k10m0, k10m1]
  instanceTypes := #[]
  staticTypes := #[.boolean]
  resolved := Array.replicate 395 none
  statics := none }

def pool11 : Array CpInfo := pool [(2, .class_ 4), (1, u "java/lang/Object"), (0, u "<init>"), (0, u "()V"), (17, .class_ 26), (1, u "jdk/internal/util/Preconditions"), (6, u "checkIndex"), (21, .class_ 56), (0, u "jdk/internal/util/Preconditions$4"), (57, .class_ 115), (0, u "jdk/internal/util/Preconditions$1"), (7, u "SIOOBE_FORMATTER"), (0, u "Ljava/util/function/BiFunction;"), (0, .class_ 126), (0, u "jdk/internal/util/Preconditions$2"), (3, u "AIOOBE_FORMATTER"), (0, .class_ 132), (0, u "jdk/internal/util/Preconditions$3"), (3, u "IOOBE_FORMATTER"), (41, u "(IILjava/util/function/BiFunction;)I")] 15

def k11m0 : Method := { name := "<init>", desc := "()V", sig := { parameters := [], returnType := none }, accessFlags := 1, code := none }
def k11c1 : Code := { maxStack := 3, maxLocals := 3, code := jdk_41_method_11_code, exceptionTable := #[], attributes := #[] }
def k11m1 : Method := { name := "checkIndex", desc := "(IILjava/util/function/BiFunction;)I", sig := { parameters := [.int, .int, (.object "java/util/function/BiFunction")], returnType := some .int }, accessFlags := 9, code := some k11c1 }
/-- jdk/internal/util/Preconditions -/
def k11 : Class := { plain "jdk/internal/util/Preconditions" (some 0) with
  accessFlags := 33
  interfaces := #[]
  cf := some (fileOf pool11 24 #[.nestMembers #[55, 131, 125, 114]] #[{ accessFlags := 1, nameIndex := 5, descriptorIndex := 6, attributes := #[] }, { accessFlags := 9, nameIndex := 33, descriptorIndex := 178, attributes := #[] }] 33 2 #[] #[{ accessFlags := 25, nameIndex := 123, descriptorIndex := 124, attributes := #[] }, { accessFlags := 25, nameIndex := 130, descriptorIndex := 124, attributes := #[] }, { accessFlags := 25, nameIndex := 136, descriptorIndex := 124, attributes := #[] }])
  fields := #[{ name := "SIOOBE_FORMATTER", type := (.object "java/util/function/BiFunction"), accessFlags := 25, slot := 0, constantValue := 0 }, { name := "AIOOBE_FORMATTER", type := (.object "java/util/function/BiFunction"), accessFlags := 25, slot := 1, constantValue := 0 }, { name := "IOOBE_FORMATTER", type := (.object "java/util/function/BiFunction"), accessFlags := 25, slot := 2, constantValue := 0 }]
  methods := #[k11m0, k11m1]
  instanceTypes := #[]
  staticTypes := #[(.object "java/util/function/BiFunction"), (.object "java/util/function/BiFunction"), (.object "java/util/function/BiFunction")]
  resolved := Array.replicate 194 none
  statics := some 1 }

def pool12 : Array CpInfo := pool [(9, u "<init>"), (6, .class_ 18), (1, u "java/lang/Object"), (0, u "()V"), (1, .class_ 23), (1, u "jdk/internal/util/ArraysSupport"), (0, u "LOG2_ARRAY_LONG_INDEX_SCALE"), (0, u "I"), (2, u "U"), (0, u "Ljdk/internal/misc/Unsafe;"), (8, u "BIG_ENDIAN"), (0, u "Z"), (8, u "LOG2_BYTE_BIT_SIZE"), (4, u "LOG2_ARRAY_INT_INDEX_SCALE"), (54, u "JLA"), (0, u "Ljdk/internal/access/JavaLangAccess;"), (11, u "LOG2_ARRAY_BOOLEAN_INDEX_SCALE"), (9, u "LOG2_ARRAY_BYTE_INDEX_SCALE"), (5, u "LOG2_ARRAY_CHAR_INDEX_SCALE"), (5, u "LOG2_ARRAY_SHORT_INDEX_SCALE"), (18, u "LOG2_ARRAY_FLOAT_INDEX_SCALE"), (24, u "LOG2_ARRAY_DOUBLE_INDEX_SCALE"), (89, u "T_BOOLEAN"), (2, u "T_CHAR"), (1, u "T_FLOAT"), (1, u "T_DOUBLE"), (1, u "T_BYTE"), (1, u "T_SHORT"), (1, u "T_INT"), (1, u "T_LONG"), (1, u "SOFT_MAX_ARRAY_LENGTH")] 83

def k12m0 : Method := { name := "<init>", desc := "()V", sig := { parameters := [], returnType := none }, accessFlags := 2, code := none }
/-- jdk/internal/util/ArraysSupport -/
def k12 : Class := { plain "jdk/internal/util/ArraysSupport" (some 0) with
  accessFlags := 33
  interfaces := #[]
  cf := some (fileOf pool12 21 #[] #[{ accessFlags := 2, nameIndex := 9, descriptorIndex := 19, attributes := #[] }] 33 16 #[] #[{ accessFlags := 24, nameIndex := 28, descriptorIndex := 29, attributes := #[] }, { accessFlags := 26, nameIndex := 38, descriptorIndex := 39, attributes := #[] }, { accessFlags := 25, nameIndex := 121, descriptorIndex := 25, attributes := #[] }, { accessFlags := 25, nameIndex := 131, descriptorIndex := 25, attributes := #[] }, { accessFlags := 25, nameIndex := 137, descriptorIndex := 25, attributes := #[] }, { accessFlags := 25, nameIndex := 143, descriptorIndex := 25, attributes := #[] }, { accessFlags := 25, nameIndex := 53, descriptorIndex := 25, attributes := #[] }, { accessFlags := 25, nameIndex := 24, descriptorIndex := 25, attributes := #[] }, { accessFlags := 25, nameIndex := 162, descriptorIndex := 25, attributes := #[] }, { accessFlags := 25, nameIndex := 187, descriptorIndex := 25, attributes := #[] }, { accessFlags := 26, nameIndex := 48, descriptorIndex := 25, attributes := #[] }, { accessFlags := 25, nameIndex := 277, descriptorIndex := 25, attributes := #[] }, { accessFlags := 25, nameIndex := 280, descriptorIndex := 25, attributes := #[] }, { accessFlags := 25, nameIndex := 282, descriptorIndex := 25, attributes := #[] }, { accessFlags := 25, nameIndex := 284, descriptorIndex := 25, attributes := #[] }, { accessFlags := 25, nameIndex := 286, descriptorIndex := 25, attributes := #[] }, { accessFlags := 25, nameIndex := 288, descriptorIndex := 25, attributes := #[] }, { accessFlags := 25, nameIndex := 290, descriptorIndex := 25, attributes := #[] }, { accessFlags := 25, nameIndex := 292, descriptorIndex := 25, attributes := #[] }, { accessFlags := 26, nameIndex := 108, descriptorIndex := 109, attributes := #[] }, { accessFlags := 25, nameIndex := 294, descriptorIndex := 25, attributes := #[] }])
  fields := #[{ name := "U", type := (.object "jdk/internal/misc/Unsafe"), accessFlags := 24, slot := 0, constantValue := 0 }, { name := "BIG_ENDIAN", type := .boolean, accessFlags := 26, slot := 1, constantValue := 0 }, { name := "LOG2_ARRAY_BOOLEAN_INDEX_SCALE", type := .int, accessFlags := 25, slot := 2, constantValue := 0 }, { name := "LOG2_ARRAY_BYTE_INDEX_SCALE", type := .int, accessFlags := 25, slot := 3, constantValue := 0 }, { name := "LOG2_ARRAY_CHAR_INDEX_SCALE", type := .int, accessFlags := 25, slot := 4, constantValue := 0 }, { name := "LOG2_ARRAY_SHORT_INDEX_SCALE", type := .int, accessFlags := 25, slot := 5, constantValue := 0 }, { name := "LOG2_ARRAY_INT_INDEX_SCALE", type := .int, accessFlags := 25, slot := 6, constantValue := 0 }, { name := "LOG2_ARRAY_LONG_INDEX_SCALE", type := .int, accessFlags := 25, slot := 7, constantValue := 0 }, { name := "LOG2_ARRAY_FLOAT_INDEX_SCALE", type := .int, accessFlags := 25, slot := 8, constantValue := 0 }, { name := "LOG2_ARRAY_DOUBLE_INDEX_SCALE", type := .int, accessFlags := 25, slot := 9, constantValue := 0 }, { name := "LOG2_BYTE_BIT_SIZE", type := .int, accessFlags := 26, slot := 10, constantValue := 0 }, { name := "T_BOOLEAN", type := .int, accessFlags := 25, slot := 11, constantValue := 0 }, { name := "T_CHAR", type := .int, accessFlags := 25, slot := 12, constantValue := 0 }, { name := "T_FLOAT", type := .int, accessFlags := 25, slot := 13, constantValue := 0 }, { name := "T_DOUBLE", type := .int, accessFlags := 25, slot := 14, constantValue := 0 }, { name := "T_BYTE", type := .int, accessFlags := 25, slot := 15, constantValue := 0 }, { name := "T_SHORT", type := .int, accessFlags := 25, slot := 16, constantValue := 0 }, { name := "T_INT", type := .int, accessFlags := 25, slot := 17, constantValue := 0 }, { name := "T_LONG", type := .int, accessFlags := 25, slot := 18, constantValue := 0 }, { name := "JLA", type := (.object "jdk/internal/access/JavaLangAccess"), accessFlags := 26, slot := 19, constantValue := 0 }, { name := "SOFT_MAX_ARRAY_LENGTH", type := .int, accessFlags := 25, slot := 20, constantValue := 0 }]
  methods := #[k12m0]
  instanceTypes := #[]
  staticTypes := #[(.object "jdk/internal/misc/Unsafe"), .boolean, .int, .int, .int, .int, .int, .int, .int, .int, .int, .int, .int, .int, .int, .int, .int, .int, .int, (.object "jdk/internal/access/JavaLangAccess"), .int]
  resolved := Array.replicate 378 none
  statics := none }

def pool13 : Array CpInfo := pool [(1, u "java/lang/Cloneable"), (0, .class_ 1), (0, u "java/lang/Object"), (0, .class_ 3)] 3

/-- java/lang/Cloneable -/
def k13 : Class := { plain "java/lang/Cloneable" (some 0) with
  accessFlags := 1537
  interfaces := #[]
  cf := some (fileOf pool13 2 #[] #[] 1537 4 #[] #[])
  fields := #[]
  methods := #[]
  instanceTypes := #[]
  staticTypes := #[]
  resolved := Array.replicate 8 none
  statics := none }

/-- the primitive byte -/
def k14 : Class := { plain "byte" none with kind := .primitive 'B', accessFlags := 0x411 }
/-- [B -/
def k15 : Class := { plain "[B" (some 0) with kind := .array 14 .byte, interfaces := #[13, 2], accessFlags := 1041 }

/-- the primitive char -/
def k16 : Class := { plain "char" none with kind := .primitive 'C', accessFlags := 0x411 }
/-- [C -/
def k17 : Class := { plain "[C" (some 0) with kind := .array 16 .char, interfaces := #[13, 2], accessFlags := 1041 }

/-- the primitive int -/
def k18 : Class := { plain "int" none with kind := .primitive 'I', accessFlags := 0x411 }
/-- [I -/
def k19 : Class := { plain "[I" (some 0) with kind := .array 18 .int, interfaces := #[13, 2], accessFlags := 1041 }

def heap : Heap := #[{ cls := 7, slots := #[.long 0, .int 1, .null, .int 0, .null, .int 0, .int 0], vm := .statics 7 },
  { cls := 11, slots := #[.null, .null, .null], vm := .statics 11 }]
def classes : Array Class := #[k0, k1, k2, k3, k4, k5, k6, k7, k8, k9, k10, k11, k12, k13, k14, k15, k16, k17, k18, k19]
def interned : List (Array UInt16 × Addr) := []
def slotsUsed : Nat := 10
def theMethod : MethodId := ⟨1, 3⟩
def args0 : Array Value := #[.int 1, .int 2, .int 3, .int 4, .int 5, .int 3]
def aboutOver (below : List Frame) : State where
  vm := { classes := classes, interned := interned.toArray }
  heap := heap
  slotsUsed := slotsUsed
  threads := #[{ frames := .invoking theMethod args0 :: below }]
def below0 : List Frame := [.native { method := ⟨0, 0⟩, args := #[] }]
def about1 : State := aboutOver below0
def p0 : Program := .bare "" "" ""
def e0 : Env := launch0.env 0 0 0
theorem w_frames : about1.frames = Frame.invoking theMethod args0 :: below0 := rfl
set_option maxRecDepth 65536 in
theorem w_args : argsFit about1.vm theMethod args0 = true := by decide +kernel
set_option maxRecDepth 65536 in
theorem w_heap : heapFits about1 = true := by decide +kernel
set_option maxRecDepth 65536 in
theorem w_runnable : about1.curStatus? = some .runnable := by decide +kernel
set_option maxRecDepth 65536 in
theorem w_alone : about1.alone = true := by decide +kernel
set_option maxRecDepth 65536 in
theorem w_named : about1.methodNamed? x = some theMethod := by decide +kernel
set_option maxRecDepth 65536 in
theorem w_hears : about1.hears theMethod below0 = true := by decide +kernel
set_option maxRecDepth 65536 in
theorem w_ripe : about1.ripe theMethod args0 below0 = true := by decide +kernel
theorem w_running : about1.status = .running := rfl
set_option maxRecDepth 65536 in
theorem w_room : about1.hasRoom e0.platform room_1 = true :=
  launch0.hasRoom_least _ room_1 (by decide +kernel) (by decide +kernel) (by decide +kernel) (by decide +kernel) (by decide +kernel) (by decide +kernel)
theorem allAtoms_all (ts : List Jvm.Cond) (a : Array Jvm.Value) (st : Jvm.State) : (allAtoms ts).before a st = ts.all (fun c => c.before a st) := by
  induction ts with
  | nil => rfl
  | cons c t ih =>
    show (Jvm.Cond.and c (allAtoms t)).before a st = _
    rw [Jvm.Cond.before_and, ih, List.all_cons]
def words1 : List Jvm.Cond := Jvm.Cond.code x code maxLocals ret :: tables_1
/-- a 'code' word, met by the world's own term for the bytes: nothing is compared byte by byte -/
theorem code_word {y : MethodName} {bytes : ByteArray} {mx : Nat} {rt : Option FieldType} {a : Array Value} {s : State} {m : MethodId} {meth : Method} {c : Code} (h1 : s.methodNamed? y = some m) (h2 : s.vm.method? m = some meth) (h3 : meth.code = some c) (h4 : c.code = bytes)
    (h5 : (c.maxLocals == mx && c.exceptionTable.isEmpty && decide (c.maxStack ≤ mostOperands) && decide (meth.sig.returnType = rt) && !meth.locks && decide (parseMethodDescriptor y.desc = some meth.sig)) = true) : (Jvm.Cond.code y bytes mx rt).before a s = true := by
  simp only [Bool.and_eq_true, beq_iff_eq, Bool.not_eq_true', decide_eq_true_eq] at h5
  obtain ⟨⟨⟨⟨⟨g1, g2⟩, g3⟩, g4⟩, g5⟩, g6⟩ := h5
  simp [Cond.before, Cond.holds, Cond.value, h1, h2, h3, h4, g1, g2, g3, g4, g5, g6]
def isCode : Jvm.Cond → Bool
  | .code _ _ _ _ => true
  | _ => false
theorem all_split {L : List Jvm.Cond} {P : Jvm.Cond → Bool} (h1 : L.all (fun c => isCode c || P c) = true) (h2 : ∀ c ∈ L.filter isCode, P c = true) : L.all P = true := by
  refine List.all_eq_true.mpr fun c hc => ?_
  have h := List.all_eq_true.mp h1 c hc
  rcases Bool.eq_false_or_eq_true (isCode c) with hi | hi
  · exact h2 c (List.mem_filter.mpr ⟨hc, hi⟩)
  · simpa [hi] using h
set_option maxRecDepth 65536 in
theorem w_c0 : (Jvm.Cond.code x code maxLocals ret).before args0 about1 = true := code_word (m := ⟨1, 3⟩) (meth := k1m3) (c := k1c3) (by decide +kernel) rfl rfl rfl (by decide +kernel)
set_option maxRecDepth 65536 in
theorem w_c1 : (Jvm.Cond.code ({ cls := "com/example/triplink/triplink/rules/GrammarTokensCommentStartPinLaw", name := "pick", desc := "(I)C" } : Jvm.MethodName) method_2_code (2 : Nat) (Option.some Jvm.ClassFile.FieldType.char)).before args0 about1 = true := code_word (m := ⟨1, 1⟩) (meth := k1m1) (c := k1c1) (by decide +kernel) rfl rfl rfl (by decide +kernel)
set_option maxRecDepth 65536 in
theorem w_c2 : (Jvm.Cond.code ({ cls := "com/example/triplink/triplink/rules/GrammarTokensCommentStartPinLaw", name := "step", desc := "(ICI)I" } : Jvm.MethodName) method_3_code (4 : Nat) (Option.some Jvm.ClassFile.FieldType.int)).before args0 about1 = true := code_word (m := ⟨1, 2⟩) (meth := k1m2) (c := k1c2) (by decide +kernel) rfl rfl rfl (by decide +kernel)
set_option maxRecDepth 65536 in
theorem w_c3 : (Jvm.Cond.code ({ cls := "java/lang/String", name := "<init>", desc := "([C)V" } : Jvm.MethodName) jdk_42_method_3_code (2 : Nat) (Option.none : Option Jvm.ClassFile.FieldType)).before args0 about1 = true := code_word (m := ⟨7, 1⟩) (meth := k7m1) (c := k7c1) (by decide +kernel) rfl rfl rfl (by decide +kernel)
set_option maxRecDepth 65536 in
theorem w_c4 : (Jvm.Cond.code ({ cls := "java/lang/String", name := "<init>", desc := "([CIILjava/lang/Void;)V" } : Jvm.MethodName) jdk_42_method_149_code (6 : Nat) (Option.none : Option Jvm.ClassFile.FieldType)).before args0 about1 = true := code_word (m := ⟨7, 4⟩) (meth := k7m4) (c := k7c4) (by decide +kernel) rfl rfl rfl (by decide +kernel)
set_option maxRecDepth 65536 in
theorem w_c5 : (Jvm.Cond.code ({ cls := "java/lang/Object", name := "<init>", desc := "()V" } : Jvm.MethodName) object_method_1_code (1 : Nat) (Option.none : Option Jvm.ClassFile.FieldType)).before args0 about1 = true := code_word (m := ⟨0, 0⟩) (meth := k0m0) (c := k0c0) (by decide +kernel) rfl rfl rfl (by decide +kernel)
set_option maxRecDepth 65536 in
theorem w_c6 : (Jvm.Cond.code ({ cls := "java/lang/StringUTF16", name := "compress", desc := "([CII)[B" } : Jvm.MethodName) jdk_52_method_16_code (6 : Nat) (Option.some (Jvm.ClassFile.FieldType.array Jvm.ClassFile.FieldType.byte))).before args0 about1 = true := code_word (m := ⟨8, 2⟩) (meth := k8m2) (c := k8c2) (by decide +kernel) rfl rfl rfl (by decide +kernel)
set_option maxRecDepth 65536 in
theorem w_c7 : (Jvm.Cond.code ({ cls := "java/lang/StringUTF16", name := "compress", desc := "([CI[BII)I" } : Jvm.MethodName) jdk_52_method_21_code (7 : Nat) (Option.some Jvm.ClassFile.FieldType.int)).before args0 about1 = true := code_word (m := ⟨8, 3⟩) (meth := k8m3) (c := k8c3) (by decide +kernel) rfl rfl rfl (by decide +kernel)
set_option maxRecDepth 65536 in
theorem w_c8 : (Jvm.Cond.code ({ cls := "java/lang/StringUTF16", name := "coderFromArrayLen", desc := "([BI)B" } : Jvm.MethodName) jdk_52_method_15_code (2 : Nat) (Option.some Jvm.ClassFile.FieldType.byte)).before args0 about1 = true := code_word (m := ⟨8, 1⟩) (meth := k8m1) (c := k8c1) (by decide +kernel) rfl rfl rfl (by decide +kernel)
set_option maxRecDepth 65536 in
theorem w_c9 : (Jvm.Cond.code ({ cls := "com/example/triplink/triplink/rules/GrammarTokens", name := "commentStart", desc := "(Ljava/lang/String;)I" } : Jvm.MethodName) prog_10_method_2_code (4 : Nat) (Option.some Jvm.ClassFile.FieldType.int)).before args0 about1 = true := code_word (m := ⟨9, 0⟩) (meth := k9m0) (c := k9c0) (by decide +kernel) rfl rfl rfl (by decide +kernel)
set_option maxRecDepth 65536 in
theorem w_c10 : (Jvm.Cond.code ({ cls := "java/lang/String", name := "length", desc := "()I" } : Jvm.MethodName) jdk_42_method_54_code (1 : Nat) (Option.some Jvm.ClassFile.FieldType.int)).before args0 about1 = true := code_word (m := ⟨7, 2⟩) (meth := k7m2) (c := k7c2) (by decide +kernel) rfl rfl rfl (by decide +kernel)
set_option maxRecDepth 65536 in
theorem w_c11 : (Jvm.Cond.code ({ cls := "java/lang/String", name := "coder", desc := "()B" } : Jvm.MethodName) jdk_42_method_152_code (1 : Nat) (Option.some Jvm.ClassFile.FieldType.byte)).before args0 about1 = true := code_word (m := ⟨7, 5⟩) (meth := k7m5) (c := k7c5) (by decide +kernel) rfl rfl rfl (by decide +kernel)
set_option maxRecDepth 65536 in
theorem w_c12 : (Jvm.Cond.code ({ cls := "java/lang/String", name := "charAt", desc := "(I)C" } : Jvm.MethodName) jdk_42_method_56_code (2 : Nat) (Option.some Jvm.ClassFile.FieldType.char)).before args0 about1 = true := code_word (m := ⟨7, 3⟩) (meth := k7m3) (c := k7c3) (by decide +kernel) rfl rfl rfl (by decide +kernel)
set_option maxRecDepth 65536 in
theorem w_c13 : (Jvm.Cond.code ({ cls := "java/lang/String", name := "isLatin1", desc := "()Z" } : Jvm.MethodName) jdk_42_method_154_code (1 : Nat) (Option.some Jvm.ClassFile.FieldType.boolean)).before args0 about1 = true := code_word (m := ⟨7, 6⟩) (meth := k7m6) (c := k7c6) (by decide +kernel) rfl rfl rfl (by decide +kernel)
set_option maxRecDepth 65536 in
theorem w_c14 : (Jvm.Cond.code ({ cls := "java/lang/StringLatin1", name := "charAt", desc := "([BI)C" } : Jvm.MethodName) jdk_43_method_2_code (2 : Nat) (Option.some Jvm.ClassFile.FieldType.char)).before args0 about1 = true := code_word (m := ⟨10, 1⟩) (meth := k10m1) (c := k10c1) (by decide +kernel) rfl rfl rfl (by decide +kernel)
set_option maxRecDepth 65536 in
theorem w_c15 : (Jvm.Cond.code ({ cls := "java/lang/String", name := "checkIndex", desc := "(II)V" } : Jvm.MethodName) jdk_42_method_155_code (2 : Nat) (Option.none : Option Jvm.ClassFile.FieldType)).before args0 about1 = true := code_word (m := ⟨7, 7⟩) (meth := k7m7) (c := k7c7) (by decide +kernel) rfl rfl rfl (by decide +kernel)
set_option maxRecDepth 65536 in
theorem w_c16 : (Jvm.Cond.code ({ cls := "jdk/internal/util/Preconditions", name := "checkIndex", desc := "(IILjava/util/function/BiFunction;)I" } : Jvm.MethodName) jdk_41_method_11_code (3 : Nat) (Option.some Jvm.ClassFile.FieldType.int)).before args0 about1 = true := code_word (m := ⟨11, 1⟩) (meth := k11m1) (c := k11c1) (by decide +kernel) rfl rfl rfl (by decide +kernel)
def codes1 : List Jvm.Cond := [Jvm.Cond.code x code maxLocals ret, Jvm.Cond.code ({ cls := "com/example/triplink/triplink/rules/GrammarTokensCommentStartPinLaw", name := "pick", desc := "(I)C" } : Jvm.MethodName) method_2_code (2 : Nat) (Option.some Jvm.ClassFile.FieldType.char), Jvm.Cond.code ({ cls := "com/example/triplink/triplink/rules/GrammarTokensCommentStartPinLaw", name := "step", desc := "(ICI)I" } : Jvm.MethodName) method_3_code (4 : Nat) (Option.some Jvm.ClassFile.FieldType.int), Jvm.Cond.code ({ cls := "java/lang/String", name := "<init>", desc := "([C)V" } : Jvm.MethodName) jdk_42_method_3_code (2 : Nat) (Option.none : Option Jvm.ClassFile.FieldType), Jvm.Cond.code ({ cls := "java/lang/String", name := "<init>", desc := "([CIILjava/lang/Void;)V" } : Jvm.MethodName) jdk_42_method_149_code (6 : Nat) (Option.none : Option Jvm.ClassFile.FieldType), Jvm.Cond.code ({ cls := "java/lang/Object", name := "<init>", desc := "()V" } : Jvm.MethodName) object_method_1_code (1 : Nat) (Option.none : Option Jvm.ClassFile.FieldType), Jvm.Cond.code ({ cls := "java/lang/StringUTF16", name := "compress", desc := "([CII)[B" } : Jvm.MethodName) jdk_52_method_16_code (6 : Nat) (Option.some (Jvm.ClassFile.FieldType.array Jvm.ClassFile.FieldType.byte)), Jvm.Cond.code ({ cls := "java/lang/StringUTF16", name := "compress", desc := "([CI[BII)I" } : Jvm.MethodName) jdk_52_method_21_code (7 : Nat) (Option.some Jvm.ClassFile.FieldType.int), Jvm.Cond.code ({ cls := "java/lang/StringUTF16", name := "coderFromArrayLen", desc := "([BI)B" } : Jvm.MethodName) jdk_52_method_15_code (2 : Nat) (Option.some Jvm.ClassFile.FieldType.byte), Jvm.Cond.code ({ cls := "com/example/triplink/triplink/rules/GrammarTokens", name := "commentStart", desc := "(Ljava/lang/String;)I" } : Jvm.MethodName) prog_10_method_2_code (4 : Nat) (Option.some Jvm.ClassFile.FieldType.int), Jvm.Cond.code ({ cls := "java/lang/String", name := "length", desc := "()I" } : Jvm.MethodName) jdk_42_method_54_code (1 : Nat) (Option.some Jvm.ClassFile.FieldType.int), Jvm.Cond.code ({ cls := "java/lang/String", name := "coder", desc := "()B" } : Jvm.MethodName) jdk_42_method_152_code (1 : Nat) (Option.some Jvm.ClassFile.FieldType.byte), Jvm.Cond.code ({ cls := "java/lang/String", name := "charAt", desc := "(I)C" } : Jvm.MethodName) jdk_42_method_56_code (2 : Nat) (Option.some Jvm.ClassFile.FieldType.char), Jvm.Cond.code ({ cls := "java/lang/String", name := "isLatin1", desc := "()Z" } : Jvm.MethodName) jdk_42_method_154_code (1 : Nat) (Option.some Jvm.ClassFile.FieldType.boolean), Jvm.Cond.code ({ cls := "java/lang/StringLatin1", name := "charAt", desc := "([BI)C" } : Jvm.MethodName) jdk_43_method_2_code (2 : Nat) (Option.some Jvm.ClassFile.FieldType.char), Jvm.Cond.code ({ cls := "java/lang/String", name := "checkIndex", desc := "(II)V" } : Jvm.MethodName) jdk_42_method_155_code (2 : Nat) (Option.none : Option Jvm.ClassFile.FieldType), Jvm.Cond.code ({ cls := "jdk/internal/util/Preconditions", name := "checkIndex", desc := "(IILjava/util/function/BiFunction;)I" } : Jvm.MethodName) jdk_41_method_11_code (3 : Nat) (Option.some Jvm.ClassFile.FieldType.int)]
set_option maxRecDepth 65536 in
theorem codes_eq : words1.filter isCode = codes1 := rfl
theorem w_codes : ∀ c ∈ words1.filter isCode, c.before args0 about1 = true := by
  rw [codes_eq]
  intro c hc
  simp only [codes1, List.mem_cons, List.not_mem_nil, or_false] at hc
  rcases hc with rfl | rfl | rfl | rfl | rfl | rfl | rfl | rfl | rfl | rfl | rfl | rfl | rfl | rfl | rfl | rfl | rfl
  · exact w_c0
  · exact w_c1
  · exact w_c2
  · exact w_c3
  · exact w_c4
  · exact w_c5
  · exact w_c6
  · exact w_c7
  · exact w_c8
  · exact w_c9
  · exact w_c10
  · exact w_c11
  · exact w_c12
  · exact w_c13
  · exact w_c14
  · exact w_c15
  · exact w_c16
set_option maxRecDepth 65536 in
theorem w_t1 : (words1.take 24).all (fun c => isCode c || c.before args0 about1) = true := by decide +kernel
set_option maxRecDepth 65536 in
theorem w_t2 : ((words1.drop 24).take 24).all (fun c => isCode c || c.before args0 about1) = true := by decide +kernel
set_option maxRecDepth 65536 in
theorem w_t3 : (((words1.drop 24).drop 24).take 24).all (fun c => isCode c || c.before args0 about1) = true := by decide +kernel
set_option maxRecDepth 65536 in
theorem w_t4 : (((words1.drop 24).drop 24).drop 24).all (fun c => isCode c || c.before args0 about1) = true := by decide +kernel
theorem w_tables : (allAtoms (Jvm.Cond.code x code maxLocals ret :: tables_1)).before args0 about1 = true := by
  rw [allAtoms_all]
  show words1.all (fun c => c.before args0 about1) = true
  refine all_split ?_ w_codes
  rw [← List.take_append_drop 24 words1, List.all_append, w_t1, ← List.take_append_drop 24 (words1.drop 24), List.all_append, w_t2, ← List.take_append_drop 24 ((words1.drop 24).drop 24), List.all_append, w_t3, w_t4]
  rfl
set_option maxRecDepth 65536 in
theorem w_rest : rest_1_c.before args0 about1 = true := by decide +kernel
set_option maxRecDepth 65536 in
theorem w_case : (Jvm.Cond.and given_1 narrow_1).before args0 about1 = true := by decide +kernel
set_option maxRecDepth 65536 in
theorem w_consts : constsHeld consts_1 about1 := Jvm.Lit.constsHeldB_iff.mp (by decide +kernel)
theorem w_applies : (headSpec (Jvm.Cond.code x code maxLocals ret :: tables_1) room_1).applies x e0.platform about1 = true :=
  (Spec.applies_iff w_frames).mpr ⟨w_running, w_runnable, w_alone, w_named, w_hears, w_ripe, w_room, w_tables⟩
theorem atStart : AtStart classFile x code maxLocals ret World_1 tables_1 room_1 Calls_1 rest_1 Pre_1 launch0 p0 e0 about1 theMethod args0 below0 :=
  ⟨lists_1, trivial, launch0.admits_env _ _ _, launch0.least_env, fairChoices_fair.cas, fairChoices_fair.clock, w_frames, w_args, w_heap, w_applies, ⟨w_consts, trivial⟩, w_rest, w_case⟩
end start1
theorem witness_1 : WitnessClaimed_1 := ⟨start1.p0, start1.e0, start1.about1, start1.theMethod, start1.args0, start1.below0, start1.atStart⟩
end Jvm.Pilot.@@N@@
