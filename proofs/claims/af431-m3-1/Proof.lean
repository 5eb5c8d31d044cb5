import JvmDerived
import JvmDerived.Pilot.@@N@@Statement
import JvmDerived.Pilot.@@N@@Code
set_option linter.unusedVariables false
set_option linter.unusedSimpArgs false
@@BLOCK:TracedD.lean.txt@@
namespace Jvm.Pilot.@@N@@
open Jvm Jvm.ClassFile Sem Op Lib Jvm.Free Jvm.Stand Jvm.LawKit Jvm.RoadKit Bundle Jvm.Pilot.@@N@@.Jvm.D
section Own
variable {p : Program} {l : Launch} {e : Env} {R : Room} {s : State} {m : MethodId} {args : Array Value} {below : List Frame} {meth : Method} {c : Code} {T : State} {locs : List Loc} {cells slots : Nat} {Z : State} {a0 : Array Value} {h : Heap}
/-- from the state S the body ends well, String literals interned meanwhile: it returns v, leaves the heap and the written places as Q says, within kc cells and ks slots -/
def Run (p : Program) (e : Env) (below : List Frame) (s : State) (Q : Option Value → Heap → List Loc → Vm → Prop) (kc ks : Nat) (S : State) : Prop := ∃ s₂ o, Steps p.tables e below S s₂ ∧ s₂.status = .running ∧ Ended s₂ below o ∧ ∃ v L, o = .returned v ∧ Q v s₂.heap L s₂.vm ∧ ReturnedEndW s o s₂ L kc ks
variable {Q : Option Value → Heap → List Loc → Vm → Prop} {kc ks : Nat} {vm0 : Vm} {k0 : Nat}
theorem Run.pre {S S' : State} (h : ∀ t, Steps p.tables e below S' t → Steps p.tables e below S t) (k : Run p e below s Q kc ks S') : Run p e below s Q kc ks S := by
  obtain ⟨s₂, o, h1, r⟩ := k; exact ⟨s₂, o, h _ h1, r⟩
theorem own_monoW {o : Outcome} {u : State} {L : List Loc} {k n : Nat} (h : ReturnedEndW s o u L k n) (hc : k ≤ kc) (hs : n ≤ ks) : ReturnedEndW s o u L kc ks := ⟨h.1, h.2.1, h.2.2.1, h.2.2.2.mono hc hs⟩
theorem Run.out (hK : s.vm.MethodsKnown ∧ s.vm.FramesKnown below) (hS : s.Since vm0 k0) (hk : k0 ≤ T.heap.size) (X : Stand p l e R (s.setVm vm0) m args below meth c T locs cells slots) (hx : p.tables.exec = Jvm.exec) {pc : Nat} {Ls : Array Slot} {w : Value} {t : FieldType} {i : Instr} {rest : List Value} (hret : meth.sig.returnType = some t) (hn : narrow t w = w)
    (hi : (i = .ireturn ∧ (t = .int ∨ t = .boolean ∨ t = .byte ∨ t = .char ∨ t = .short) ∧ ∃ z, w = .int z) ∨ (i = .lreturn ∧ t = .long ∧ ∃ z, w = .long z) ∨ (i = .dreturn ∧ t = .double ∧ ∃ z, w = .double z) ∨ (i = .freturn ∧ t = .float ∧ ∃ z, w = .float z) ∨ (i = .areturn ∧ t.isReference = true ∧ w.isRef = true))
    (hlk : meth.locks = false) (hd : decode c.code pc = .ok (i, 1)) (hq : Q (some w) T.heap locs T.vm) (hc : cells ≤ kc) (hs : slots ≤ ks) : Run p e below s Q kc ks (T.setTop (mkF m pc Ls (w :: rest))) := by
  obtain ⟨fs, hr, hrun, hended, hW⟩ := X.leaveW hS hk (v := some w) (fun h => by rw [hret] at h; cases h) hlk
  exact ⟨_, _, retOut X hx hret hn hi hd hr, hrun, hended, _, _, rfl, hq, own_monoW hW hc hs⟩
theorem Run.retN (hK : s.vm.MethodsKnown ∧ s.vm.FramesKnown below) (hS : s.Since vm0 k0) (hk : k0 ≤ T.heap.size) (X : Stand p l e R (s.setVm vm0) m args below meth c T locs cells slots) (hx : p.tables.exec = Jvm.exec) {pc : Nat} {Ls : Array Slot} {z : Int32} {t : FieldType} {rest : List Value} (hret : meth.sig.returnType = some t) (ht : t = .boolean ∨ t = .byte ∨ t = .char ∨ t = .short) (hlk : meth.locks = false)
    (hd : decode c.code pc = .ok (.ireturn, 1)) (hq : Q (some (.int (nar t z))) T.heap locs T.vm) (hc : cells ≤ kc) (hs : slots ≤ ks) : Run p e below s Q kc ks (T.setTop (mkF m pc Ls (.int z :: rest))) := by
  obtain ⟨fs, hr, hrun, hended, hW⟩ := X.leaveW hS hk (v := some (.int (nar t z))) (fun h => by rw [hret] at h; cases h) hlk
  exact ⟨_, _, Jvm.RoadKit.retN X hx hret ht hd hr, hrun, hended, _, _, rfl, hq, own_monoW hW hc hs⟩
theorem Run.retI (hK : s.vm.MethodsKnown ∧ s.vm.FramesKnown below) (hS : s.Since vm0 k0) (hk : k0 ≤ T.heap.size) (X : Stand p l e R (s.setVm vm0) m args below meth c T locs cells slots) (hx : p.tables.exec = Jvm.exec) {pc : Nat} {Ls : Array Slot} {z : Int32} {rest : List Value} (hret : meth.sig.returnType = some .int) (hlk : meth.locks = false)
    (hd : decode c.code pc = .ok (.ireturn, 1)) (hq : Q (some (.int z)) T.heap locs T.vm) (hc : cells ≤ kc) (hs : slots ≤ ks) : Run p e below s Q kc ks (T.setTop (mkF m pc Ls (.int z :: rest))) := Run.out hK hS hk X hx hret rfl (Or.inl ⟨rfl, Or.inl rfl, z, rfl⟩) hlk hd hq hc hs
theorem Run.retJ (hK : s.vm.MethodsKnown ∧ s.vm.FramesKnown below) (hS : s.Since vm0 k0) (hk : k0 ≤ T.heap.size) (X : Stand p l e R (s.setVm vm0) m args below meth c T locs cells slots) (hx : p.tables.exec = Jvm.exec) {pc : Nat} {Ls : Array Slot} {z : Int64} {rest : List Value} (hret : meth.sig.returnType = some .long) (hlk : meth.locks = false)
    (hd : decode c.code pc = .ok (.lreturn, 1)) (hq : Q (some (.long z)) T.heap locs T.vm) (hc : cells ≤ kc) (hs : slots ≤ ks) : Run p e below s Q kc ks (T.setTop (mkF m pc Ls (.long z :: rest))) := Run.out hK hS hk X hx hret rfl (Or.inr (Or.inl ⟨rfl, rfl, z, rfl⟩)) hlk hd hq hc hs
theorem Run.retA (hK : s.vm.MethodsKnown ∧ s.vm.FramesKnown below) (hS : s.Since vm0 k0) (hk : k0 ≤ T.heap.size) (X : Stand p l e R (s.setVm vm0) m args below meth c T locs cells slots) (hx : p.tables.exec = Jvm.exec) {pc : Nat} {Ls : Array Slot} {w : Value} {t : FieldType} {rest : List Value} (hret : meth.sig.returnType = some t) (ht : t.isReference = true) (hw : w.isRef = true) (hlk : meth.locks = false)
    (hd : decode c.code pc = .ok (.areturn, 1)) (hq : Q (some w) T.heap locs T.vm) (hc : cells ≤ kc) (hs : slots ≤ ks) : Run p e below s Q kc ks (T.setTop (mkF m pc Ls (w :: rest))) := Run.out hK hS hk X hx hret (by cases t <;> cases w <;> simp_all [FieldType.isReference, Value.isRef, narrow]) (Or.inr (Or.inr (Or.inr (Or.inr ⟨rfl, ht, hw⟩)))) hlk hd hq hc hs
theorem Run.retV (hK : s.vm.MethodsKnown ∧ s.vm.FramesKnown below) (hS : s.Since vm0 k0) (hk : k0 ≤ T.heap.size) (X : Stand p l e R (s.setVm vm0) m args below meth c T locs cells slots) (hx : p.tables.exec = Jvm.exec) {pc : Nat} {Ls : Array Slot} (hret : meth.sig.returnType = none) (hlk : meth.locks = false)
    (hd : decode c.code pc = .ok (.return_, 1)) (hq : Q none T.heap locs T.vm) (hc : cells ≤ kc) (hs : slots ≤ ks) : Run p e below s Q kc ks (T.setTop (mkF m pc Ls [])) := by
  obtain ⟨fs, hr, hrun, hended, hW⟩ := X.leaveW hS hk (v := none) (fun _ => rfl) hlk
  exact ⟨_, _, X.returnOut hx hret hd hr, hrun, hended, _, _, rfl, hq, own_monoW hW hc hs⟩
/-- a body's contract, at the heap h0 and the arguments as' -/
def Con (l : Launch) (y : MethodName) (bytes : ByteArray) (maxL : Nat) (ret : Option FieldType) (rm : Room) (Z : State) (as' : Array Value) (h0 : Heap) (P : Vm → Prop) (Q : Option Value → Heap → List Loc → Vm → Prop) : Prop :=
  ∀ ws, MetFree l y (head1 (Jvm.Cond.code y bytes maxL ret :: ws) rm) (fun a U => a = as' ∧ Z.Warmed39 U.vm ∧ U.heap = h0 ∧ P U.vm) (fun _ _ bl s _ => s.vm.MethodsKnown ∧ s.vm.FramesKnown bl) (fun _ U o U' => ∃ v L, o = .returned v ∧ Q v U'.heap L U'.vm ∧ ReturnedEndW U o U' L rm.cells rm.slots)
theorem Con.mk {P : Vm → Prop} {y : MethodName} {bytes : ByteArray} {maxL : Nat} {ret : Option FieldType} {rm : Room} {as' : Array Value} {h0 : Heap} {F : MethodId → JFrame} (hpl : plainFor y = true) (hef : ∀ m, entryFrame m as' maxL = F m)
    (body : ∀ (p : Program) (e : Env) (s : State) (m : MethodId) (below : List Frame) (meth : Method) (c : Code) (s₁ : State) (vm0 : Vm), p.tables.exec = Jvm.exec → c.code = bytes → c.maxLocals = maxL → vm0.findClass y.cls = some m.cls → meth.name = y.name → meth.sig.returnType = ret → meth.locks = false → Z.Warmed39 vm0 →
      Stand p l e rm (s.setVm vm0) m as' below meth c s₁ [] 0 0 → s₁.heap = h0 → s.Since vm0 0 → s.heap = h0 → P vm0 → (s.vm.MethodsKnown ∧ s.vm.FramesKnown below) → Run p e below s Q rm.cells rm.slots (s₁.setTop (F m))) : Con l y bytes maxL ret rm Z as' h0 P Q := by
  intro ws
  refine MetFree.of_bodySF hpl hisR ?_
  intro p e s m args below meth c s₁ Bd hml0 hP hK
  obtain ⟨rfl, hZ, hh, hPv⟩ := hP
  have k := body p e s m below meth c s₁ s.vm Bd.exec Bd.bytes hml0 (findClass_of_methodNamed Bd.named) (name_of_methodNamed Bd.named Bd.method).1 Bd.returns Bd.notSynchronized hZ (Stand.of_body Bd) (by rw [← hh, Bd.state]; rfl) ((State.WarmedH.refl s).since 0) hh hPv hK
  rw [← hef m] at k
  exact k
theorem Con.back {P : Vm → Prop} {y : MethodName} {bytes : ByteArray} {maxL : Nat} {ret : Option FieldType} {rm : Room} {len W : Nat} {as' : Array Value} (hM : Con l y bytes maxL ret rm Z as' h P Q) (hK : s.vm.MethodsKnown ∧ s.vm.FramesKnown below) (hZ : Z.Warmed39 s.vm) (wc : (Jvm.Cond.code y bytes maxL ret).before a0 Z = true) (wz : (Jvm.Cond.initialized y.cls).before a0 Z = true) (hf : rm.frames + 1 ≤ R.frames) (hl : W + (maxL + 11) + rm.locals ≤ R.locals) :
    BackS l R p e below s args y len W (fun A a => a = as' ∧ A.U.heap = h ∧ A.cells + rm.cells ≤ R.cells ∧ A.slots + rm.slots ≤ R.slots ∧ P A.U.vm) (fun A _ v B => ∃ L, Q v B.U.heap L B.U.vm ∧ B.locs = A.locs ++ L ∧ B.cells = A.cells + rm.cells ∧ B.slots = A.slots + rm.slots) := by
  refine BackS.of_freeWG (bytes := bytes) (maxL := maxL) (ret := ret) (E := fun _ _ o t L k n => k = rm.cells ∧ n = rm.slots ∧ ∃ v, o = .returned v ∧ Q v t.heap L t.vm) (hM []) hf hl ?_ ?_ (fun m meth c A a g mk Y _ hg => known_frames Y hg hK.1 hK.2) ?_ ?_
  · intro m meth c A a Y hp
    have hU : Z.Warmed39 A.U.vm := wtrans hZ Y.warmed
    exact ⟨by show (Jvm.Cond.and _ .tt).before a A.U = true; rw [Cond.before_and, mv hU wc]; rfl, mv hU wc, mv hU wz, hp.2.2.1, hp.2.2.2.1⟩
  · intro m meth c A a g mk Y hp
    exact ⟨hp.1, wtrans hZ Y.warmed, hp.2.1, hp.2.2.2.2⟩
  · rintro _ _ _ _ ⟨v, L, h1, h2, h3⟩
    exact ⟨L, _, _, h3, rfl, rfl, v, h1, h2⟩
  · rintro m meth c A a g mk v t L k n Y hp _ _ ⟨e1, e2, v', e3, e4⟩
    cases e3; subst e1 e2
    exact ⟨L, e4, rfl, rfl, rfl⟩
theorem own_kn (hK : s.vm.MethodsKnown ∧ s.vm.FramesKnown below) (hS : s.Since vm0 k0) : (s.setVm vm0).vm.MethodsKnown ∧ (s.setVm vm0).vm.FramesKnown below := ⟨Vm.MethodsKnown.alikeC hS.1.alike hK.1, Vm.FramesKnown.alikeC hS.1.alike hK.2⟩
section Calls
variable {y : MethodName} {bytes : ByteArray} {maxL : Nat} {rt : Option FieldType} {rm : Room} {W : Nat} {own : String} {index : Nat} {Pc : Vm → Prop} {Qc : Option Value → Heap → List Loc → Vm → Prop} {g : JFrame} {argsL rest : List Value} {as' : Array Value}
theorem Run.callS (hK : s.vm.MethodsKnown ∧ s.vm.FramesKnown below) (hS : s.Since vm0 k0) (hk : k0 ≤ T.heap.size) (X : Stand p l e R (s.setVm vm0) m args below meth c T locs cells slots) (hx : p.tables.exec = Jvm.exec) (hZ : Z.Warmed39 vm0) (hown : vm0.findClass own = some m.cls) (w1 : (Jvm.Cond.methodLink own index y).before a0 Z = true) (w2 : (Jvm.Cond.static y).before a0 Z = true) (w3 : (Jvm.Cond.initialized y.cls).before a0 Z = true) (w4 : (Jvm.Cond.code y bytes maxL rt).before a0 Z = true)
    (hy : y.cls ≠ "java/lang/invoke/MethodHandle" ∧ y.cls ≠ "java/lang/invoke/VarHandle") (hM : Con l y bytes maxL rt rm Z argsL.toArray h Pc Qc) (eT : T.heap = h) (hfr : rm.frames + 1 ≤ R.frames) (hlo : W + (maxL + 11) + rm.locals ≤ R.locals) (hce : cells + rm.cells ≤ R.cells) (hsl : slots + rm.slots ≤ R.slots) (hPc : ∀ vm₁, (s.setVm vm0).WarmedH vm₁ → Pc vm₁)
    (hg : g.method = m) (hsize : g.locals.size = c.maxLocals) (hlen : ∀ sig, parseMethodDescriptor y.desc = some sig → argsL.length = sig.parameters.length) (hstack : g.stack = argsL.reverse ++ rest) (hW : 2 * g.monitorRoom + (rest.map fun v => v.category).sum ≤ W) (hdg : decode c.code g.pc = .ok (.invokestatic index, 3))
    (k : ∀ v T' L, Stand p l e R (s.setVm T'.vm) m args below meth c T' (locs ++ L) (cells + rm.cells) (slots + rm.slots) → s.Since T'.vm T'.heap.size → Z.Warmed39 T'.vm → T'.vm.findClass own = some m.cls → (s.setVm vm0).Warmed39 T'.vm → Qc v T'.heap L T'.vm → Run p e below s Q kc ks (T'.setTop { g with pc := g.pc + 3, stack := v.toList ++ rest })) : Run p e below s Q kc ks (T.setTop g) := by
  obtain ⟨v, vm₁, ⟨T', L', c', n'⟩, -, X', hS2, hg2, ⟨L, hQ, l1, l2, l3⟩, st⟩ := callSS X hx hown (mvT (s := s.setVm vm0) hZ w1) (mvT (s := s.setVm vm0) hZ w2) (mvT (s := s.setVm vm0) hZ w3) (mvT (s := s.setVm vm0) hZ w4) hy (hM.back (s := s.setVm vm0) (W := W) (own_kn hK hS) hZ w4 w3 hfr hlo) hg hsize hlen hstack hW hdg (fun _ q => ⟨rfl, eT, hce, hsl, hPc _ q⟩)
  dsimp only [Pt.U, Pt.locs, Pt.cells, Pt.slots] at X' l1 l2 l3 st hQ hS2 hg2
  subst l1 l2 l3
  exact Run.pre (fun _ q => st.trans q) (k v T' L X' (foldS hS hk hS2 hg2) (State.Warmed39.trans (t := s.setVm vm0) hZ hS2.1) (by rw [hS2.1.alike.findClass]; exact hown) hS2.1 hQ)
theorem Run.callI (hK : s.vm.MethodsKnown ∧ s.vm.FramesKnown below) (hS : s.Since vm0 k0) (hk : k0 ≤ T.heap.size) (X : Stand p l e R (s.setVm vm0) m args below meth c T locs cells slots) (hx : p.tables.exec = Jvm.exec) (hZ : Z.Warmed39 vm0) (hy1 : y.name = "<init>") (hown : vm0.findClass own = some m.cls) (w1 : (Jvm.Cond.methodLink own index y).before a0 Z = true) (w2 : (Jvm.Cond.instanceMethod y).before a0 Z = true) (w4 : (Jvm.Cond.code y bytes maxL none).before a0 Z = true) (w3 : (Jvm.Cond.initialized y.cls).before a0 Z = true)
    (hy : y.cls ≠ "java/lang/invoke/MethodHandle" ∧ y.cls ≠ "java/lang/invoke/VarHandle") {a : Addr} (hM : Con l y bytes maxL none rm Z (.ref a :: argsL).toArray h Pc Qc) (eT : T.heap = h) (hfr : rm.frames + 1 ≤ R.frames) (hlo : W + (maxL + 11) + rm.locals ≤ R.locals) (hce : cells + rm.cells ≤ R.cells) (hsl : slots + rm.slots ≤ R.slots) (hPc : ∀ vm₁, (s.setVm vm0).WarmedH vm₁ → Pc vm₁)
    (hg : g.method = m) (hsize : g.locals.size = c.maxLocals) (hlen : ∀ sig, parseMethodDescriptor y.desc = some sig → argsL.length = sig.parameters.length) (hstack : g.stack = argsL.reverse ++ .ref a :: rest) (hW : 2 * g.monitorRoom + (rest.map fun v => v.category).sum ≤ W) (hdg : decode c.code g.pc = .ok (.invokespecial index, 3))
    (k : ∀ v T' L, Stand p l e R (s.setVm T'.vm) m args below meth c T' (locs ++ L) (cells + rm.cells) (slots + rm.slots) → s.Since T'.vm T'.heap.size → Z.Warmed39 T'.vm → T'.vm.findClass own = some m.cls → (s.setVm vm0).Warmed39 T'.vm → Qc v T'.heap L T'.vm → Run p e below s Q kc ks (T'.setTop { g with pc := g.pc + 3, stack := v.toList ++ rest })) : Run p e below s Q kc ks (T.setTop g) := by
  obtain ⟨v, vm₁, ⟨T', L', c', n'⟩, -, X', hS2, hg2, ⟨L, hQ, l1, l2, l3⟩, st⟩ := X.specialBackS hx hy1 hown (mvT (s := s.setVm vm0) hZ w1) (mvT (s := s.setVm vm0) hZ w2) (mvT (s := s.setVm vm0) hZ w4) hy (hM.back (s := s.setVm vm0) (W := W) (own_kn hK hS) hZ w4 w3 hfr hlo) hg hsize (Steps.refl _) hlen hstack hW hdg (fun _ q => ⟨rfl, eT, hce, hsl, hPc _ q⟩)
  dsimp only [Pt.U, Pt.locs, Pt.cells, Pt.slots] at X' l1 l2 l3 st hQ hS2 hg2
  subst l1 l2 l3
  exact Run.pre (fun _ q => st.trans q) (k v T' L X' (foldS hS hk hS2 hg2) (State.Warmed39.trans (t := s.setVm vm0) hZ hS2.1) (by rw [hS2.1.alike.findClass]; exact hown) hS2.1 hQ)
theorem Run.callP (hK : s.vm.MethodsKnown ∧ s.vm.FramesKnown below) (hS : s.Since vm0 k0) (hk : k0 ≤ T.heap.size) (X : Stand p l e R (s.setVm vm0) m args below meth c T locs cells slots) (hx : p.tables.exec = Jvm.exec) (hZ : Z.Warmed39 vm0) (hown : vm0.findClass own = some m.cls) (w1 : (Jvm.Cond.methodLink own index y).before a0 Z = true) (w2 : (Jvm.Cond.instanceMethod y).before a0 Z = true) (w5 : (Jvm.Cond.selects y.cls y y).before a0 Z = true) (w6 : (Jvm.Cond.privateMethod y).before a0 Z = true) (w4 : (Jvm.Cond.code y bytes maxL rt).before a0 Z = true) (w3 : (Jvm.Cond.initialized y.cls).before a0 Z = true)
    (hy : y.cls ≠ "java/lang/invoke/MethodHandle" ∧ y.cls ≠ "java/lang/invoke/VarHandle") {a : Addr} {C : String} (E : Exa Z h a C) (hM : Con l y bytes maxL rt rm Z (.ref a :: argsL).toArray h Pc Qc) (eT : T.heap = h) (hfr : rm.frames + 1 ≤ R.frames) (hlo : W + (maxL + 11) + rm.locals ≤ R.locals) (hce : cells + rm.cells ≤ R.cells) (hsl : slots + rm.slots ≤ R.slots) (hPc : ∀ vm₁, (s.setVm vm0).WarmedH vm₁ → Pc vm₁)
    (hg : g.method = m) (hsize : g.locals.size = c.maxLocals) (hlen : ∀ sig, parseMethodDescriptor y.desc = some sig → argsL.length = sig.parameters.length) (hstack : g.stack = argsL.reverse ++ .ref a :: rest) (hW : 2 * g.monitorRoom + (rest.map fun v => v.category).sum ≤ W) (hdg : decode c.code g.pc = .ok (.invokevirtual index, 3))
    (k : ∀ v T' L, Stand p l e R (s.setVm T'.vm) m args below meth c T' (locs ++ L) (cells + rm.cells) (slots + rm.slots) → s.Since T'.vm T'.heap.size → Z.Warmed39 T'.vm → T'.vm.findClass own = some m.cls → (s.setVm vm0).Warmed39 T'.vm → Qc v T'.heap L T'.vm → Run p e below s Q kc ks (T'.setTop { g with pc := g.pc + 3, stack := v.toList ++ rest })) : Run p e below s Q kc ks (T.setTop g) := by
  obtain ⟨cell, kk, q1, -, -, q4, -⟩ := E
  obtain ⟨v, vm₁, ⟨T', L', c', n'⟩, -, X', hS2, hg2, ⟨L, hQ, l1, l2, l3⟩, st⟩ := X.privateBackS hx hown (mvT (s := s.setVm vm0) hZ w1) (mvT (s := s.setVm vm0) hZ w2) (mvT (s := s.setVm vm0) hZ w5) (Cond.privateMethod_at (mvP (s := s.setVm vm0) hZ w6 (args := #[]))) (mvT (s := s.setVm vm0) hZ w4) hy (hM.back (s := s.setVm vm0) (W := W) (own_kn hK hS) hZ w4 w3 hfr hlo) hg hsize (Steps.refl _) (a := a) (by rw [eT]; exact q1) (fun q e => by rw [e] at q4; cases q4) hlen hstack hW hdg (fun _ q => ⟨rfl, eT, hce, hsl, hPc _ q⟩)
  dsimp only [Pt.U, Pt.locs, Pt.cells, Pt.slots] at X' l1 l2 l3 st hQ hS2 hg2
  subst l1 l2 l3
  exact Run.pre (fun _ q => st.trans q) (k v T' L X' (foldS hS hk hS2 hg2) (State.Warmed39.trans (t := s.setVm vm0) hZ hS2.1) (by rw [hS2.1.alike.findClass]; exact hown) hS2.1 hQ)
theorem Run.callV {z : MethodName} {C : String} (hK : s.vm.MethodsKnown ∧ s.vm.FramesKnown below) (hS : s.Since vm0 k0) (hk : k0 ≤ T.heap.size) (X : Stand p l e R (s.setVm vm0) m args below meth c T locs cells slots) (hx : p.tables.exec = Jvm.exec) (hZ : Z.Warmed39 vm0) (hown : vm0.findClass own = some m.cls) (w1 : (Jvm.Cond.methodLink own index y).before a0 Z = true) (w2 : (Jvm.Cond.declares y).before a0 Z = true) (hnf : NotFace (s.setVm vm0) y) (w5 : (Jvm.Cond.selects C y z).before a0 Z = true) (w6 : (Jvm.Cond.instanceMethod z).before a0 Z = true) (w4 : (Jvm.Cond.code z bytes maxL rt).before a0 Z = true) (w3 : (Jvm.Cond.initialized z.cls).before a0 Z = true)
    (hy : y.cls ≠ "java/lang/invoke/MethodHandle" ∧ y.cls ≠ "java/lang/invoke/VarHandle") {b : Addr} (E : Exa Z h b C) (hM : Con l z bytes maxL rt rm Z (.ref b :: argsL).toArray h Pc Qc) (eT : T.heap = h) (hfr : rm.frames + 1 ≤ R.frames) (hlo : W + (maxL + 11) + rm.locals ≤ R.locals) (hce : cells + rm.cells ≤ R.cells) (hsl : slots + rm.slots ≤ R.slots) (hPc : ∀ vm₁, (s.setVm vm0).WarmedH vm₁ → Pc vm₁)
    (hg : g.method = m) (hsize : g.locals.size = c.maxLocals) (hlen : ∀ sig, parseMethodDescriptor y.desc = some sig → argsL.length = sig.parameters.length) (hstack : g.stack = argsL.reverse ++ .ref b :: rest) (hW : 2 * g.monitorRoom + (rest.map fun v => v.category).sum ≤ W) (hdg : decode c.code g.pc = .ok (.invokevirtual index, 3))
    (k : ∀ v T' L, Stand p l e R (s.setVm T'.vm) m args below meth c T' (locs ++ L) (cells + rm.cells) (slots + rm.slots) → s.Since T'.vm T'.heap.size → Z.Warmed39 T'.vm → T'.vm.findClass own = some m.cls → (s.setVm vm0).Warmed39 T'.vm → Qc v T'.heap L T'.vm → Run p e below s Q kc ks (T'.setTop { g with pc := g.pc + 3, stack := v.toList ++ rest })) : Run p e below s Q kc ks (T.setTop g) := by
  obtain ⟨cB, kB, qa, qb, qc⟩ := isOf (s := s.setVm vm0) hZ eT E
  obtain ⟨v, vm₁, ⟨T', L', c', n'⟩, -, X', hS2, hg2, ⟨L, hQ, l1, l2, l3⟩, st⟩ := X.virtualBackS hx hown (mvT (s := s.setVm vm0) hZ w1) (mvT (s := s.setVm vm0) hZ w2) hnf (mvT (s := s.setVm vm0) hZ w5) (mvT (s := s.setVm vm0) hZ w6) hy (hM.back (s := s.setVm vm0) (W := W) (own_kn hK hS) hZ w4 w3 hfr hlo) qa qc hg hsize (Steps.refl _) hlen hstack hW hdg (fun _ q => ⟨rfl, eT, hce, hsl, hPc _ q⟩)
  dsimp only [Pt.U, Pt.locs, Pt.cells, Pt.slots] at X' l1 l2 l3 st hQ hS2 hg2
  subst l1 l2 l3
  exact Run.pre (fun _ q => st.trans q) (k v T' L X' (foldS hS hk hS2 hg2) (State.Warmed39.trans (t := s.setVm vm0) hZ hS2.1) (by rw [hS2.1.alike.findClass]; exact hown) hS2.1 hQ)
theorem Run.callU {z : MethodName} {C owner : String} (hK : s.vm.MethodsKnown ∧ s.vm.FramesKnown below) (hS : s.Since vm0 k0) (hk : k0 ≤ T.heap.size) (X : Stand p l e R (s.setVm vm0) m args below meth c T locs cells slots) (hx : p.tables.exec = Jvm.exec) (hZ : Z.Warmed39 vm0) (hown : vm0.findClass own = some m.cls) (w1 : (Jvm.Cond.methodLink own index y).before a0 Z = true) (w2 : (Jvm.Cond.sameMethod y.cls owner y.name y.desc).before a0 Z = true) (w7 : (Jvm.Cond.declares ⟨owner, y.name, y.desc⟩).before a0 Z = true) (w5 : (Jvm.Cond.selects C y z).before a0 Z = true) (w6 : (Jvm.Cond.instanceMethod z).before a0 Z = true) (w4 : (Jvm.Cond.code z bytes maxL rt).before a0 Z = true) (w3 : (Jvm.Cond.initialized z.cls).before a0 Z = true)
    (hy : owner ≠ "java/lang/invoke/MethodHandle" ∧ owner ≠ "java/lang/invoke/VarHandle") {b : Addr} (E : Exa Z h b C) (hM : Con l z bytes maxL rt rm Z (.ref b :: argsL).toArray h Pc Qc) (eT : T.heap = h) (hfr : rm.frames + 1 ≤ R.frames) (hlo : W + (maxL + 11) + rm.locals ≤ R.locals) (hce : cells + rm.cells ≤ R.cells) (hsl : slots + rm.slots ≤ R.slots) (hPc : ∀ vm₁, (s.setVm vm0).WarmedH vm₁ → Pc vm₁)
    (hg : g.method = m) (hsize : g.locals.size = c.maxLocals) (hlen : ∀ sig, parseMethodDescriptor y.desc = some sig → argsL.length = sig.parameters.length) (hstack : g.stack = argsL.reverse ++ .ref b :: rest) (hW : 2 * g.monitorRoom + (rest.map fun v => v.category).sum ≤ W) (hdg : decode c.code g.pc = .ok (.invokevirtual index, 3))
    (k : ∀ v T' L, Stand p l e R (s.setVm T'.vm) m args below meth c T' (locs ++ L) (cells + rm.cells) (slots + rm.slots) → s.Since T'.vm T'.heap.size → Z.Warmed39 T'.vm → T'.vm.findClass own = some m.cls → (s.setVm vm0).Warmed39 T'.vm → Qc v T'.heap L T'.vm → Run p e below s Q kc ks (T'.setTop { g with pc := g.pc + 3, stack := v.toList ++ rest })) : Run p e below s Q kc ks (T.setTop g) := by
  obtain ⟨cB, kB, qa, qb, qc⟩ := isOf (s := s.setVm vm0) hZ eT E
  obtain ⟨v, vm₁, ⟨T', L', c', n'⟩, -, X', hS2, hg2, ⟨L, hQ, l1, l2, l3⟩, st⟩ := X.virtualBackUpS hx hown (mvT (s := s.setVm vm0) hZ w1) (mvT (s := s.setVm vm0) hZ w2) (mvT (s := s.setVm vm0) hZ w7) hy (mvT (s := s.setVm vm0) hZ w5) (mvT (s := s.setVm vm0) hZ w6) (hM.back (s := s.setVm vm0) (W := W) (own_kn hK hS) hZ w4 w3 hfr hlo) qa qc hg hsize (Steps.refl _) hlen hstack hW hdg (fun _ q => ⟨rfl, eT, hce, hsl, hPc _ q⟩)
  dsimp only [Pt.U, Pt.locs, Pt.cells, Pt.slots] at X' l1 l2 l3 st hQ hS2 hg2
  subst l1 l2 l3
  exact Run.pre (fun _ q => st.trans q) (k v T' L X' (foldS hS hk hS2 hg2) (State.Warmed39.trans (t := s.setVm vm0) hZ hS2.1) (by rw [hS2.1.alike.findClass]; exact hown) hS2.1 hQ)
theorem Run.callF {xi : MethodName} {C : String} {count : Nat} (hK : s.vm.MethodsKnown ∧ s.vm.FramesKnown below) (hS : s.Since vm0 k0) (hk : k0 ≤ T.heap.size) (X : Stand p l e R (s.setVm vm0) m args below meth c T locs cells slots) (hx : p.tables.exec = Jvm.exec) (hZ : Z.Warmed39 vm0) (hown : vm0.findClass own = some m.cls) (w1 : (Jvm.Cond.methodLink own index xi).before a0 Z = true) (w2 : (Jvm.Cond.declares xi).before a0 Z = true) (w7 : (Jvm.Cond.interfaceMethod xi.cls xi.cls xi.name xi.desc).before args (s.setVm vm0) = true) (w5 : (Jvm.Cond.selects C xi y).before a0 Z = true) (w6 : (Jvm.Cond.instanceMethod y).before a0 Z = true) (w8 : (Jvm.Cond.publicMethod y).before a0 Z = true) (w9 : (Jvm.Cond.unhidden C xi.name xi.desc).before a0 Z = true) (w10 : (Jvm.Cond.castable C xi.cls).before a0 Z = true) (w4 : (Jvm.Cond.code y bytes maxL rt).before a0 Z = true) (w3 : (Jvm.Cond.initialized y.cls).before a0 Z = true)
    (hy : xi.cls ≠ "java/lang/invoke/MethodHandle" ∧ xi.cls ≠ "java/lang/invoke/VarHandle") {b : Addr} (E : Exa Z h b C) (hM : Con l y bytes maxL rt rm Z (.ref b :: argsL).toArray h Pc Qc) (eT : T.heap = h) (hfr : rm.frames + 1 ≤ R.frames) (hlo : W + (maxL + 11) + rm.locals ≤ R.locals) (hce : cells + rm.cells ≤ R.cells) (hsl : slots + rm.slots ≤ R.slots) (hPc : ∀ vm₁, (s.setVm vm0).WarmedH vm₁ → Pc vm₁)
    (hg : g.method = m) (hsize : g.locals.size = c.maxLocals) (hlen : ∀ sig, parseMethodDescriptor xi.desc = some sig → argsL.length = sig.parameters.length) (hstack : g.stack = argsL.reverse ++ .ref b :: rest) (hW : 2 * g.monitorRoom + (rest.map fun v => v.category).sum ≤ W) (hdg : decode c.code g.pc = .ok (.invokeinterface index count, 5))
    (k : ∀ v T' L, Stand p l e R (s.setVm T'.vm) m args below meth c T' (locs ++ L) (cells + rm.cells) (slots + rm.slots) → s.Since T'.vm T'.heap.size → Z.Warmed39 T'.vm → T'.vm.findClass own = some m.cls → (s.setVm vm0).Warmed39 T'.vm → Qc v T'.heap L T'.vm → Run p e below s Q kc ks (T'.setTop { g with pc := g.pc + 5, stack := v.toList ++ rest })) : Run p e below s Q kc ks (T.setTop g) := by
  obtain ⟨cB, kB, qa, qb, qc⟩ := isOf (s := s.setVm vm0) hZ eT E
  obtain ⟨v, vm₁, ⟨T', L', c', n'⟩, -, X', hS2, hg2, ⟨L, hQ, l1, l2, l3⟩, st⟩ := X.interfaceBackS hx hown (mvT (s := s.setVm vm0) hZ w1) (mvT (s := s.setVm vm0) hZ w2) w7 (mvT (s := s.setVm vm0) hZ w5) (mvT (s := s.setVm vm0) hZ w6) (mvT (s := s.setVm vm0) hZ w8) (mvT (s := s.setVm vm0) hZ w9) (mvT (s := s.setVm vm0) hZ w10) hy (hM.back (s := s.setVm vm0) (W := W) (own_kn hK hS) hZ w4 w3 hfr hlo) qa qb qc hg hsize (Steps.refl _) hlen hstack hW hdg (fun _ q => ⟨rfl, eT, hce, hsl, hPc _ q⟩)
  dsimp only [Pt.U, Pt.locs, Pt.cells, Pt.slots] at X' l1 l2 l3 st hQ hS2 hg2
  subst l1 l2 l3
  exact Run.pre (fun _ q => st.trans q) (k v T' L X' (foldS hS hk hS2 hg2) (State.Warmed39.trans (t := s.setVm vm0) hZ hS2.1) (by rw [hS2.1.alike.findClass]; exact hown) hS2.1 hQ)
end Calls
/-! from the case's words to facts on the heap -/
theorem own_fldInt {args : Array Value} {t : Term} {C n d : String} {k : Int32} {a : Addr} (ht : t.eval args Z none [] Z = some (.ref a)) (h : (Jvm.Cond.eq (Term.field t C n d) (Term.int k)).value args Z none Z [] = some true) : Fld Z Z.heap a C n d (.int k) := by
  obtain ⟨x, y, e1, e2, -, k2⟩ := cmp_v (Or.inl h)
  have e3 : y = .int k := (Option.some.inj ((Term.int_eval k).symm.trans e2)).symm
  subst e3
  obtain ⟨z, rfl⟩ := k2
  have e4 := fld_at (C := C) (n := n) (dd := d) ht
  rw [e4] at e1
  have q : z = k := by
    have hh : (Jvm.Cond.eq (Term.field t C n d) (Term.int k)).value args Z none Z [] = some (decide (z = k)) := by simp [Jvm.Cond.value, e4, e1, e2]
    exact gotT hh h
  subst q
  exact Fld.start e1
theorem own_fldLong {args : Array Value} {t : Term} {C n d : String} {k : Int64} {a : Addr} (ht : t.eval args Z none [] Z = some (.ref a)) (h : (Jvm.Cond.eq (Term.field t C n d) (Term.long k)).value args Z none Z [] = some true) : Fld Z Z.heap a C n d (.long k) := by
  obtain ⟨x, y, e1, e2, -, k2⟩ := cmp_v (Or.inl h)
  have e3 : y = .long k := (Option.some.inj (show some (Value.long k) = some y from e2)).symm
  subst e3
  obtain ⟨z, rfl⟩ := k2
  have e4 := fld_at (C := C) (n := n) (dd := d) ht
  have q : z = k := gotT (eq_L e1 e2) h
  rw [e4] at e1
  subst q
  exact Fld.start e1
theorem own_len {args : Array Value} {t : Term} {n : Int32} {a : Addr} {cl : Cell} {ty : FieldType} (ht : t.eval args Z none [] Z = some (.ref a)) (A : Arr Z Z.heap a cl ty) (h : (Jvm.Cond.eq (Term.length t) (Term.int n)).value args Z none Z [] = some true) : cl.slots.size < 2 ^ 31 ∧ cl.slots.size.toInt32 = n := by
  obtain ⟨x, y, e1, e2, -, k2⟩ := cmp_v (Or.inl h)
  have ha : Z.arrayAt? a = some cl := A.fin (Vm.Alike.refl _)
  by_cases hl : cl.slots.size < 2 ^ 31
  · refine ⟨hl, ?_⟩
    have e3 := len_f ht ha hl
    have hh : (Jvm.Cond.eq (Term.length t) (Term.int n)).value args Z none Z [] = some (decide (cl.slots.size.toInt32 = n)) := by
      have e4 : (Term.int n).eval args Z none [] Z = some (.int n) := Term.int_eval n
      simp [Jvm.Cond.value, e3, e4]
    exact gotT hh h
  · exfalso
    simp [Term.eval, ht, ha, hl] at e1
theorem own_elem {args : Array Value} {t u : Term} {j : Int32} {a w : Addr} {cl : Cell} (ht : t.eval args Z none [] Z = some (.ref a)) (hu : u.eval args Z none [] Z = some (.ref w)) (hc : Z.heap[a]? = some cl) (h : (Jvm.Cond.eq (Term.elem t (Term.int j)) u).value args Z none Z [] = some true) : cl.slots[j.toNatClampNeg]? = some (.ref w) := by
  obtain ⟨x, y, e1, e2, k1, k2⟩ := cmp_v (Or.inl h)
  cases hu.symm.trans e2
  have q := gotT (eq_R e1 e2 k2.2 rfl) h
  subst q
  exact (elem_in e1 ht (Term.int_eval j) hc).2
theorem own_fldRef {args : Array Value} {t u : Term} {C n d : String} {a w : Addr} (ht : t.eval args Z none [] Z = some (.ref a)) (hu : u.eval args Z none [] Z = some (.ref w)) (h : (Jvm.Cond.eq (Term.field t C n d) u).value args Z none Z [] = some true) : Fld Z Z.heap a C n d (.ref w) := by
  obtain ⟨x, y, e1, e2, k1, k2⟩ := cmp_v (Or.inl h)
  cases hu.symm.trans e2
  have q := gotT (eq_R e1 e2 k2.2 rfl) h
  subst q
  rw [fld_at ht] at e1
  exact Fld.start e1
theorem own_fldNull {args : Array Value} {t : Term} {C n d : String} {a : Addr} (ht : t.eval args Z none [] Z = some (.ref a)) (h : (Jvm.Cond.eq (Term.field t C n d) Term.null).value args Z none Z [] = some true) : Fld Z Z.heap a C n d .null := by
  have e1 := null_v h
  rw [fld_at ht] at e1
  exact Fld.start e1
theorem own_neArv {a b : Addr} {C : String} {k : ClassId} {ty : FieldType} {z : Int32} {vs : List Value} {d : Value} {n : Nat} (E : Exa Z h a C) (wi : (Jvm.Cond.instantiable C n).before a0 Z = true) (A : Arv Z h b k ty z vs d) : b ≠ a := by
  obtain ⟨c, A', -⟩ := A; exact (ne_arr E wi A').symm
theorem own_ibStays {vm vm' : Vm} {Ts : List String} (h : IB Z vm Ts) (q : (s.setVm vm).WarmedH vm') : IB Z vm' Ts := by
  obtain ⟨more, e, r⟩ := h; exact ⟨more, by rw [q.interned_eq]; exact e, r⟩
theorem own_ne0 {args : Array Value} {t : Term} {z : Int32} (e : t.eval args Z none [] Z = some (.int z)) (h : (Jvm.Cond.not (Jvm.Cond.eq t (Term.int 0))).value args Z none Z [] = some true) : ¬ z = 0 := by
  have h1 := not_v h
  have e0 : (Term.int 0).eval args Z none [] Z = some (.int 0) := Term.int_eval 0
  have hh : (Jvm.Cond.eq t (Term.int 0)).value args Z none Z [] = some (decide (z = 0)) := by simp [Jvm.Cond.value, e, e0]
  exact gotF hh h1
theorem own_staInt {args : Array Value} {C n d : String} {k : Int32} (h : (Jvm.Cond.eq (Term.static C n d) (Term.int k)).value args Z none Z [] = some true) (hi : (Jvm.Cond.initializedFor C n d).before args Z = true ∨ ((Jvm.Cond.initialized C).before args Z = true ∧ (Jvm.Cond.laysStatic C n d).before args Z = true)) : Sta Z Z.heap C n d (.int k) := by
  obtain ⟨x, y, e1, e2, -, k2⟩ := cmp_v (Or.inl h)
  have e3 : y = .int k := (Option.some.inj ((Term.int_eval k).symm.trans e2)).symm
  subst e3
  obtain ⟨z, rfl⟩ := k2
  have hh : (Jvm.Cond.eq (Term.static C n d) (Term.int k)).value args Z none Z [] = some (decide (z = k)) := by simp [Jvm.Cond.value, e1, e2]
  have q := gotT hh h
  subst q
  exact Sta.start e1 hi
theorem own_cat1 {v : Value} (h : v.isRef = true) : v.category = 1 := by rcases ref_cases h with rfl | ⟨_, rfl⟩ <;> rfl
theorem own_fit {s : State} (hF : heapFits s = true) : Fit s := fun {y c} hc i hi => by
  obtain ⟨ha, rfl⟩ := Array.getElem?_eq_some_iff.mp hc
  have q := List.all_eq_true.mp ((Array.all_eq_true_iff_forall_mem.mp hF) _ (Array.getElem_mem ha)) i (List.mem_range.mpr hi)
  simpa [Array.getElem?_eq_getElem hi] using q
/-! an exception is made: fillInStackTrace on an object of the subclass rc, out of the words that the sheet has on rc -/
theorem own_untW {a b : Addr} {sl : Nat} {v : Value} {h' : Heap} (N : Unt h b) (W : Wr h h' a sl v) : Unt h' b := by
  obtain ⟨c0, q1, q2, q3⟩ := N
  obtain ⟨c1, w1, w2, w3, rfl⟩ := W
  by_cases z : a = b
  · subst z
    obtain rfl : c0 = c1 := Option.some.inj (q1.symm.trans w1)
    exact ⟨c0.setSlot sl v, by simp [(Array.getElem?_eq_some_iff.mp q1).1], q2, q3⟩
  · exact ⟨c0, by rw [Array.getElem?_setIfInBounds_ne z]; exact q1, q2, q3⟩
theorem own_nr {v : Value} {n : String} (h : v.isRef = true) : narrow (.object n) v = v := by rcases ref_cases h with rfl | ⟨_, rfl⟩ <;> rfl
theorem own_ft {v : Value} {n : String} (h : v.isRef = true) : fits (.object n) v = true := by rcases ref_cases h with rfl | ⟨_, rfl⟩ <;> rfl
theorem own_fr3 {n0 : Nat} {a : Addr} {x y z : Nat} (N : Fr n0 locs) (q : n0 ≤ a) : Fr n0 (locs ++ [⟨a, x⟩, ⟨a, y⟩, ⟨a, z⟩]) := N.app fun w hw => by
  simp only [List.mem_cons, List.not_mem_nil, or_false] at hw
  rcases hw with rfl | rfl | rfl <;> exact q
def own_ws (rc : String) : List Jvm.Cond := [.initialized tN, .superclass tN "java/lang/Object", .instanceMethod tFill, .codeSync tFill LibCode.Throwable.Fill.code 1 (some (.object tN)), .instanceMethod tFill0, .native tFill0,
  .instanceMethod oInit, .code oInit object_method_1_code 1 none, .methodLink tN 1 oInit, .methodLink tN 27 tFill, .methodLink tN 202 tFill0,
  .fieldLink tN 7 tN "cause" "Ljava/lang/Throwable;", .fieldLink tN 17 tN "stackTrace" steD, .fieldLink tN 24 tN "suppressedExceptions" listD, .fieldLink tN 13 tN "UNASSIGNED_STACK" steD, .laysStatic tN "UNASSIGNED_STACK" steD,
  .fieldLink tN 20 tN "SUPPRESSED_SENTINEL" listD, .laysStatic tN "SUPPRESSED_SENTINEL" listD, .fieldLink tN 198 tN "backtrace" "Ljava/lang/Object;",
  .lays rc tN "cause" "Ljava/lang/Throwable;", .lays rc tN "stackTrace" steD, .lays rc tN "suppressedExceptions" listD, .lays rc tN "detailMessage" "Ljava/lang/String;", .lays rc tN "backtrace" "Ljava/lang/Object;", .lays rc tN "depth" "I",
  .declares tFill, .selects rc tFill0 tFill0, .selects rc tFill tFill, .arrayOver (.object "java/lang/Object"), .soleField tN "backtrace", .soleField tN "depth"]
theorem own_wsOk {rc : String} : (own_ws rc).all xOk = true := rfl
/-- Throwable's tables, as the law on fillInStackTrace wants them; the slots of stackTrace and suppressedExceptions are parted in the subclass -/
theorem own_links {rc : String} {pl : Platform} (howns : pl.frameOwnsMonitors = true) (hfin : pl.finalization = false) (hpl : pl.magicAccessors = ({} : Platform).magicAccessors) (w : ∀ (k : Nat) (d : Jvm.Cond), (own_ws rc)[k]? = some d → d.holds args s none s [] = true) :
    ∃ TT : ThrowableC, TT.Links pl s ∧ s.vm.findClass tN = some TT.cT ∧ s.methodNamed? tFill = some TT.fill ∧ s.methodNamed? tFill0 = some TT.fill0 ∧ TT.fStack.type = .array (.object "java/lang/StackTraceElement") ∧
      s.fieldFound? tN "stackTrace" steD = some (TT.cT, TT.kT, TT.i17, TT.fStack) ∧ s.fieldFound? tN "UNASSIGNED_STACK" steD = some (TT.cT, TT.kT, TT.i13, TT.fUnassigned) := by
  -- the class
  obtain ⟨⟨cl, jN⟩, mN, nN, qN, natN, codN, lokN, sigN⟩ := Cond.native_spec (w 5 (.native tFill0) rfl)
  have fc : s.vm.findClass tN = some cl := findClass_of_methodNamed nN
  obtain ⟨kl, ck, cn⟩ := Vm.findClass_spec fc
  obtain ⟨_, kl', _, _, ck', _, _, _, _, noIf⟩ := Cond.superclass_spec fc (w 1 (.superclass tN "java/lang/Object") rfl)
  obtain rfl : kl' = kl := Option.some.inj (ck'.symm.trans ck)
  -- its fields; 24's own by the subclass's word
  obtain ⟨c7, j7, f7, l7, r7, t7, s7, n7, -, -, -⟩ := Cond.ownField (C' := rc) (t := .object tN) fc ck (by decide +kernel) (w 11 (.fieldLink tN 7 tN "cause" "Ljava/lang/Throwable;") rfl) (w 19 (.lays rc tN "cause" "Ljava/lang/Throwable;") rfl) pl hpl
  obtain ⟨c17, j17, f17, l17, r17, t17, s17, n17, m17, y17, g17⟩ := Cond.ownField (C' := rc) (t := .array (.object "java/lang/StackTraceElement")) fc ck (by decide +kernel) (w 12 (.fieldLink tN 17 tN "stackTrace" steD) rfl) (w 20 (.lays rc tN "stackTrace" steD) rfl) pl hpl
  obtain ⟨c24, j24, f24, l24, r24, t24, s24, n24, m24, -, g24⟩ := Cond.ownField (C' := rc) (t := .object "java/util/List") fc ck (by decide +kernel) (w 13 (.fieldLink tN 24 tN "suppressedExceptions" listD) rfl) (w 21 (.lays rc tN "suppressedExceptions" listD) rfl) pl hpl
  obtain ⟨c13, j13, f13, aS, _, l13, r13, t13, s13, -, -, stS, -, -, -, -, g13⟩ := Cond.ownStatic (t := .array (.object "java/lang/StackTraceElement")) fc ck (by decide +kernel) (w 14 (.fieldLink tN 13 tN "UNASSIGNED_STACK" steD) rfl) (w 15 (.laysStatic tN "UNASSIGNED_STACK" steD) rfl) pl hpl
  obtain ⟨c20, j20, f20, _, _, l20, r20, t20, s20, -, -, -, -, -, -, -, -⟩ := Cond.ownStatic (t := .object "java/util/List") fc ck (by decide +kernel) (w 16 (.fieldLink tN 20 tN "SUPPRESSED_SENTINEL" listD) rfl) (w 17 (.laysStatic tN "SUPPRESSED_SENTINEL" listD) rfl) pl hpl
  obtain ⟨_, _, _, _, _, fM, _, _, _, sM, nM, _⟩ := Cond.lays_spec (w 22 (.lays rc tN "detailMessage" "Ljava/lang/String;") rfl)
  obtain ⟨cR, kR, _, _, _, _, fcR, ckR, _⟩ := Cond.lays_spec (w 20 (.lays rc tN "stackTrace" steD) rfl)
  obtain ⟨-, d17, e17, x17⟩ := Cond.laysAt fcR ckR g17 (w 20 (.lays rc tN "stackTrace" steD) rfl)
  obtain ⟨-, d24, e24, x24⟩ := Cond.laysAt fcR ckR g24 (w 21 (.lays rc tN "suppressedExceptions" listD) rfl)
  have apart : f17.slot ≠ f24.slot := Cond.laysApart e17 e24 x17 x24 (by rw [m17, m24]; decide)
  -- its two methods and Object's constructor
  obtain ⟨jF, mF, nF, qF, tF, sF, bF, -, -⟩ := Cond.ownMethod (x := tFill) fc ck (w 2 (.instanceMethod tFill) rfl)
  obtain ⟨mF', cF, qF', codF, bytF, locF, retF, lokF, -, sigF⟩ := Cond.codeSync_spec nF (w 3 (.codeSync tFill LibCode.Throwable.Fill.code 1 (some (.object tN))) rfl)
  obtain rfl : mF' = mF := Option.some.inj (qF'.symm.trans qF)
  obtain ⟨jN', mN', nN', qN', tN', sN', bN', nmN, dsN⟩ := Cond.ownMethod (x := tFill0) fc ck (w 4 (.instanceMethod tFill0) rfl)
  obtain rfl : jN' = jN := by have q := Option.some.inj (nN'.symm.trans nN); simpa using q
  obtain rfl : mN' = mN := Option.some.inj (qN'.symm.trans qN)
  obtain ⟨mo, mO, nO, qO, sO, bO⟩ := Cond.instanceMethod_spec (w 6 (.instanceMethod oInit) rfl)
  obtain ⟨mO', cO, qO', codO, bytO, -, -, lokO, -, sigO⟩ := Cond.code_spec nO (w 7 (.code oInit object_method_1_code 1 none) rfl)
  obtain rfl : mO' = mO := Option.some.inj (qO'.symm.trans qO)
  obtain ⟨kO, ckO, cnO⟩ := Vm.findClass_spec (findClass_of_methodNamed nO)
  obtain ⟨nmO, dsO⟩ := name_of_methodNamed nO qO
  obtain ⟨p1, v1, cf, k1, z1, hcf, o1⟩ := Cond.linkedMethod fc ck nO (w 8 (.methodLink tN 1 oInit) rfl) pl hpl
  obtain ⟨p27, v27, cf', k27, z27, hcf', o27⟩ := Cond.linkedMethod fc ck nF (w 9 (.methodLink tN 27 tFill) rfl) pl hpl
  obtain rfl : cf' = cf := Option.some.inj (hcf'.symm.trans hcf)
  obtain ⟨p202, v202, cf'', k202, z202, hcf'', o202⟩ := Cond.linkedMethod fc ck nN (w 10 (.methodLink tN 202 tFill0) rfl) pl hpl
  obtain rfl : cf'' = cf' := Option.some.inj (hcf''.symm.trans hcf)
  have eF : mF'.sig = ⟨[], some (.object tN)⟩ := Option.some.inj (sigF.symm.trans (by decide +kernel))
  have eN : mN'.sig = ⟨[.int], some (.object tN)⟩ := Option.some.inj (sigN.symm.trans (by decide +kernel))
  have eO : mO'.sig = ⟨[], none⟩ := Option.some.inj (sigO.symm.trans (by decide +kernel))
  refine ⟨{ cT := cl, kT := kl', cO := cl, aS := aS, fillIdx := jF, fill0Idx := jN', initSIdx := jF, obj := mo, kObj := kO, methFill := mF', methFill0 := mN', methInitS := mF', methObj := mO', codeFill := cF, codeInitS := cF, codeObj := cO, fBack := f7, fDepth := f7, fStack := f17, fCause := f7, fSupp := f24, fMsg := fM, fUnassigned := f13, fSentinel := f20, cfT := cf'', ci1 := p1, n1 := v1, ci27 := p27, n27 := v27, ci202 := p202, n202 := v202, ci7 := c7, i7 := j7, ci13 := c13, i13 := j13, ci17 := c17, i17 := j17, ci20 := c20, i20 := j20, ci24 := c24, i24 := j24 }, ?_, fc, nF, nN, y17, g17, g13⟩
  constructor
  case owns => exact howns
  case noFinalization => exact hfin
  case cls => exact ck
  case name => exact cn
  case boot => exact Vm.findClass_boot fc ck
  case notInterface => exact noIf
  case initialized => exact Cond.initialized_spec fc ck (w 0 (.initialized tN) rfl)
  case statics => exact stS
  case fillAt => exact tF
  case fillCode => exact codF
  case fillBytes => exact bytF
  case fillLocals => exact locF
  case fillLocks => exact lokF
  case fillStatic => exact sF
  case fillAbstract => exact bF
  case fillReturns => exact retF
  case fillParams => show mF'.sig.parameters = []; simp [eF]
  case fill0At => exact tN'
  case fill0Name => exact nmN
  case fill0Desc => exact dsN
  case fill0Params => show mN'.sig.parameters = [.int]; simp [eN]
  case fill0Static => exact sN'
  case fill0Native => exact natN
  case fill0Code => exact codN
  case fill0Locks => exact lokN
  case fill0Abstract => exact bN'
  case stackInstance => exact s17
  case stackNotFinal => exact n17
  case unassignedStatic => exact s13
  case objClass => exact ckO
  case objClassName => exact cnO
  case objMethod => exact qO
  case objName => exact nmO
  case objStatic => exact sO
  case objAbstract => exact bO
  case objFound => show lookupSpecial s.vm mo.cls "<init>" mO'.desc = .method mo; rw [dsO]; exact lookupSpecial_of_named nO qO sO
  case objParams => show mO'.sig.parameters.length = 0; simp [eO]
  case objCode => exact codO
  case objBytes => exact bytO
  case objLocks => exact lokO
  case causeInstance => exact s7
  case causeNotFinal => exact n7
  case sentinelStatic => exact s20
  case suppInstance => exact s24
  case suppNotFinal => exact n24
  case msgInstance => exact sM
  case msgNotFinal => exact nM
  case stackApartSupp => exact apart
  case file => exact hcf
  case mlink1 => exact k1
  case mright1 => exact z1
  case pool1 => exact o1
  case mlink27 => exact k27
  case mright27 => exact z27
  case pool27 => exact o27
  case mlink202 => exact k202
  case mright202 => exact z202
  case pool202 => exact o202
  case link7 => exact l7
  case right7 => exact r7
  case at7 => exact t7
  case link13 => exact l13
  case right13 => exact r13
  case at13 => exact t13
  case link17 => exact l17
  case right17 => exact r17
  case at17 => exact t17
  case link20 => exact l20
  case right20 => exact r20
  case at20 => exact t20
  case link24 => exact l24
  case right24 => exact r24
  case at24 => exact t24
theorem own_fldAt {a : Addr} {C n d : String} {v : Value} (hZ : Z.Warmed39 vm0) (F : Fld Z h a C n d v) {cf i : Nat} {k : Class} {f : Field} (hf : (s.setVm vm0).fieldFound? C n d = some (cf, k, i, f)) {cell : Cell} (hc : h[a]? = some cell) : cell.slots[f.slot]? = some v := by
  obtain ⟨c1, cf1, k1, i1, f1, h1, h2, -, -, -, -, h7⟩ := F
  obtain rfl : c1 = cell := Option.some.inj (h1.symm.trans hc)
  obtain ⟨k2, h3, -⟩ := State.fieldFound?_setVm (s := Z) hZ.alike h2
  have q : some (cf, k, i, f) = some (cf1, k2, i1, f1) := hf.symm.trans h3
  simp only [Option.some.injEq, Prod.mk.injEq] at q
  rw [q.2.2.2]; exact h7
theorem own_staAt {C n d : String} {v : Value} (hZ : Z.Warmed39 vm0) (S : Sta Z h C n d v) {cf i : Nat} {k : Class} {f : Field} (hf : (s.setVm vm0).fieldFound? C n d = some (cf, k, i, f)) :
    ∃ (st : Addr) (cell : Cell), k.statics = some st ∧ h[st]? = some cell ∧ cell.vm.isStatics = true ∧ cell.slots[f.slot]? = some v := by
  obtain ⟨cf1, i1, k1, f1, st, cell, h1, -, -, h4, h5, h6, h7⟩ := S
  obtain ⟨k2, h3, he⟩ := State.fieldFound?_setVm (s := Z) hZ.alike h1
  have q : some (cf, k, i, f) = some (cf1, k2, i1, f1) := hf.symm.trans h3
  simp only [Option.some.injEq, Prod.mk.injEq] at q
  refine ⟨st, cell, ?_, h5, h6, by rw [q.2.2.2]; exact h7⟩
  rw [q.2.1, he]; exact h4
theorem own_slotOf {C n d : String} : Jvm.RoadKit.slotOf Z C n d = ((Z.fieldFound? C n d).map (·.2.2.2.slot)).getD 0 := rfl
theorem own_slot {C n d : String} (hZ : Z.Warmed39 vm0) {cf i : Nat} {k : Class} {f : Field} (hf : (s.setVm vm0).fieldFound? C n d = some (cf, k, i, f)) : Jvm.RoadKit.slotOf Z C n d = f.slot := by
  obtain ⟨k2, h3, -⟩ := State.fieldFound?_setVm (s := s.setVm vm0) (vm' := Z.vm) hZ.alike.symm hf
  have h4 : Z.fieldFound? C n d = some (cf, k2, i, f) := h3
  rw [own_slotOf, h4]; rfl
theorem own_push (cl : Cell) : Ext h (h.push cl) := ⟨by simp, fun a c0 q => by
  have := (Array.getElem?_eq_some_iff.mp q).1
  rw [Array.getElem?_push, if_neg (by omega)]; exact q⟩
theorem own_wr {a : Addr} {cl : Cell} (q : h[a]? = some cl) (hs : cl.vm.isStatics = false) {sl : Nat} (hl : sl < cl.slots.size) (v : Value) : Wr h (h.setIfInBounds a (cl.setSlot sl v)) a sl v ∧ (h.setIfInBounds a (cl.setSlot sl v))[a]? = some (cl.setSlot sl v) :=
  ⟨⟨cl, q, hs, hl, rfl⟩, by simp [(Array.getElem?_eq_some_iff.mp q).1]⟩
theorem own_ssz {cl : Cell} {sl : Nat} {v : Value} : (cl.setSlot sl v).slots.size = cl.slots.size := by show (cl.slots.setIfInBounds sl v).size = _; simp
/-- 'invokevirtual fillInStackTrace()' on an object of rc that nobody has locked: a holder is made, three of its fields are written -/
theorem own_fill (hK : s.vm.MethodsKnown ∧ s.vm.FramesKnown below) (hS : s.Since vm0 k0) (X : Stand p l e R (s.setVm vm0) m args below meth c T locs cells slots) (hx : p.tables.exec = Jvm.exec) (hl : l.stackTraces = true) (hZ : Z.Warmed39 vm0) (hT0 : ThS Z s.heap) {rc : String} {n : Nat} (hown : vm0.findClass "java/lang/Throwable" = some m.cls)
    (hw : ∀ d ∈ own_ws rc, d.before a0 Z = true) (wi : (Jvm.Cond.instantiable rc n).before a0 Z = true) (eT : T.heap = h) {a u : Addr} (E : Exa Z h a rc) (N : Unt h a) (FB : Fld Z h a "java/lang/Throwable" "backtrace" "Ljava/lang/Object;" .null) (FS : Fld Z h a "java/lang/Throwable" "stackTrace" "[Ljava/lang/StackTraceElement;" (.ref u)) (SU : Sta Z h "java/lang/Throwable" "UNASSIGNED_STACK" "[Ljava/lang/StackTraceElement;" (.ref u))
    {g : JFrame} (hg : g.method = m) (hsize : g.locals.size = c.maxLocals) {rest : List Value} (hs : g.stack = .ref a :: rest) (hd : decode c.code g.pc = .ok (.invokevirtual 27, 3)) (hf : 2 < R.frames) {W : Nat} (hW : 2 * g.monitorRoom + (rest.map fun v => v.category).sum ≤ W) (hlo : W + 42 ≤ R.locals) (hc : cells + 1 ≤ R.cells) (hsl : slots + 2752 ≤ R.slots) :
    ∃ (T' : State) (h1 h2 h3 h4 : Heap), Stand p l e R (s.setVm vm0) m args below meth c T' (locs ++ [⟨a, Jvm.RoadKit.slotOf Z "java/lang/Throwable" "backtrace" "Ljava/lang/Object;"⟩, ⟨a, Jvm.RoadKit.slotOf Z "java/lang/Throwable" "depth" "I"⟩, ⟨a, Jvm.RoadKit.slotOf Z "java/lang/Throwable" "stackTrace" "[Ljava/lang/StackTraceElement;"⟩]) (cells + 1) (slots + 2752) ∧ T'.heap = h4 ∧ Ext h h1 ∧
      (∃ v, Wr h1 h2 a (Jvm.RoadKit.slotOf Z "java/lang/Throwable" "backtrace" "Ljava/lang/Object;") v) ∧ (∃ v, Wr h2 h3 a (Jvm.RoadKit.slotOf Z "java/lang/Throwable" "depth" "I") v) ∧ Wr h3 h4 a (Jvm.RoadKit.slotOf Z "java/lang/Throwable" "stackTrace" "[Ljava/lang/StackTraceElement;") (.ref u) ∧
      ∀ target, Steps p.tables e below (T'.setTop { g with pc := g.pc + 3, stack := .ref a :: rest }) target → Steps p.tables e below (T.setTop g) target := by
  subst eT
  have htr : e.platform.stackTraces = true := by rw [X.admits.platform]; exact hl
  have hpl : e.platform.magicAccessors = ({} : Platform).magicAccessors := by rw [X.admits.platform]
  have w : ∀ (k : Nat) (d : Jvm.Cond), (own_ws rc)[k]? = some d → d.holds args (s.setVm vm0) none (s.setVm vm0) [] = true := fun k d q => mvX (s := s.setVm vm0) hT0 hZ (List.all_eq_true.mp own_wsOk d (List.mem_of_getElem? q)) (hw d (List.mem_of_getElem? q))
  obtain ⟨TT, L, fT, nF, nN, tyS, gS, gU⟩ := own_links (s := s.setVm vm0) (args := args) (rc := rc) (pl := e.platform) (by rw [X.admits.platform]) (by rw [X.admits.platform]) hpl w
  -- the receiver
  obtain ⟨cell, kZ, hc1, hc2, hc3, hc4, hc5⟩ := E
  obtain ⟨cell', u1, u2, u3⟩ := N
  obtain rfl : cell' = cell := Option.some.inj (u1.symm.trans hc1)
  obtain ⟨cI, kI, i1, i2, i3, -⟩ := Cond.instantiable_spec wi
  obtain rfl : cI = cell'.cls := Option.some.inj (i1.symm.trans hc2)
  obtain rfl : kI = kZ := Option.some.inj (i2.symm.trans hc3)
  obtain ⟨kX, hkX, heX⟩ := hZ.alike.2.2 _ _ hc3
  have hfound : (s.setVm vm0).vm.findClass rc = some cell'.cls := by show vm0.findClass rc = _; rw [hZ.alike.findClass]; exact hc2
  have hord : kX.kind = .ordinary := by rw [heX]; exact i3
  have hsz : cell'.slots.size = kX.instanceTypes.size := by rw [heX]; exact hc5 i3
  have hkX' : (s.setVm vm0).vm.classes[cell'.cls]? = some kX := hkX
  have tk : ∀ {f : Field} {v : Value}, kX.instanceTypes[f.slot]? = some f.type → fits f.type v = true → Jvm.Takes (s.setVm vm0) cell' f v := fun {f v} q1 q2 => by
    have q := Takes.of_laid (s := s.setVm vm0) (v := v) hkX' hord q1 q2
    refine ⟨?_, by rw [u2]; exact q.2⟩
    have := (Array.getElem?_eq_some_iff.mp q1).1
    omega
  -- the fields that the machine writes
  obtain ⟨cB, jB, fB, lB, rB, aB, sB, -, nB, yB, gB⟩ := Cond.ownField (C' := rc) (t := .object "java/lang/Object") fT L.cls (by decide +kernel) (w 18 (.fieldLink tN 198 tN "backtrace" "Ljava/lang/Object;") rfl) (w 23 (.lays rc tN "backtrace" "Ljava/lang/Object;") rfl) e.platform hpl
  obtain ⟨_, _, cD, kD, jD, fD, _, _, gD, sD, _⟩ := Cond.lays_spec (w 24 (.lays rc tN "depth" "I") rfl)
  obtain rfl : cD = TT.cT := Option.some.inj ((Cond.lays_declared (w 24 (.lays rc tN "depth" "I") rfl) gD).symm.trans fT)
  obtain ⟨ckD, aD⟩ := State.fieldFound?_spec gD
  obtain rfl : kD = TT.kT := Option.some.inj (ckD.symm.trans L.cls)
  obtain ⟨nD, yD⟩ := State.fieldFound?_type gD (t := .int) (by decide +kernel)
  have hfb := Cond.soleField_find fT L.cls (w 29 (.soleField tN "backtrace") rfl) aB nB sB
  have hfd := Cond.soleField_find fT L.cls (w 30 (.soleField tN "depth") rfl) aD nD sD
  obtain ⟨comp, cO, kO, -, -, hkO, hkindO, hO⟩ := Cond.arrayOver_spec (w 28 (.arrayOver (.object "java/lang/Object")) rfl)
  have tB := (Cond.laysAt hfound hkX' gB (w 23 (.lays rc tN "backtrace" "Ljava/lang/Object;") rfl)).1
  have tD := (Cond.laysAt hfound hkX' gD (w 24 (.lays rc tN "depth" "I") rfl)).1
  have tS := (Cond.laysAt hfound hkX' gS (w 20 (.lays rc tN "stackTrace" steD) rfl)).1
  have htB : ∀ x : Addr, Jvm.Takes (s.setVm vm0) cell' fB (.ref x) := fun x => tk tB (by rw [yB]; rfl)
  have htD : ∀ x : Int32, Jvm.Takes (s.setVm vm0) cell' fD (.int x) := fun x => tk tD (by rw [yD]; rfl)
  have htS : Jvm.Takes (s.setVm vm0) cell' TT.fStack (.ref u) := tk tS (by rw [tyS]; exact fits_refV_array _ ⟨.ref u, rfl⟩)
  have vS : cell'.slots[TT.fStack.slot]? = some (.ref u) := own_fldAt hZ FS gS hc1
  have vB : cell'.slots[fB.slot]? = some .null := own_fldAt hZ FB gB hc1
  -- the statics
  obtain ⟨st0, cS, hst, hcS, hiS, hvS⟩ := own_staAt hZ SU gU
  obtain rfl : st0 = TT.aS := Option.some.inj (hst.symm.trans L.statics)
  have hne : TT.aS ≠ a := fun q => by
    rw [q, hc1] at hcS
    obtain rfl : cell' = cS := Option.some.inj hcS
    rw [u2] at hiS; cases hiS
  have hsel0 : selectMethod e.platform (s.setVm vm0).vm cell'.cls TT.fill0 = .method TT.fill0 := by
    obtain ⟨c2, r2, m2, q1, q2, q3, q4, -⟩ := Cond.selects_spec (w 26 (.selects rc tFill0 tFill0) rfl)
    cases Option.some.inj (q1.symm.trans hfound)
    cases Option.some.inj (q2.symm.trans (State.methodFound?_of_named nN (by decide)))
    cases Option.some.inj (q3.symm.trans nN)
    rw [Launch.admits_selectMethod X.admits]; exact q4
  have hkn := own_kn hK hS
  have hSE : (Jvm.Cond.selects rc tFill tFill).before args (s.setVm vm0) = true := w 27 (.selects rc tFill tFill) rfl
  have pays := Jvm.Free.Str.fillPays (l := l) (R := R) (p := p) (e := e) (below := below) (s := s.setVm vm0) (sargs := args) (len := 3) (W := W) hx htr TT L nF (u0 := ⟨.ref u, rfl⟩) (show Value.ref u ≠ Value.null by simp) (self := a) (cell := cell') (cellS := cS) (fun _ => by rw [u2]; simp) (by rw [u2]; simp) (by rw [u3]) (by rw [u3]) vS hsel0 hne
    (fun q => by rw [q] at hiS; cases hiS) hvS htS ⟨{ ci198 := cB, i198 := jB, fBack := fB }, ⟨lB, rB, aB, sB⟩, vB⟩ hkn.1 hkn.2 fT hO hkO hkindO hfb hfd htB htD hf hlo
  obtain ⟨v6, vm6, ⟨T6, L6, c6, n6⟩, -, X6, ⟨hv, vm', lines, hln, -, hU, hL, hcc, hnn⟩, st⟩ := X.virtualBack hx (own := tN) (C := rc) (index := 27) (y := tFill) (z := tFill) hown (w 9 (.methodLink tN 27 tFill) rfl) (w 25 (.declares tFill) rfl) (notFace_of_selects hSE) hSE (w 2 (.instanceMethod tFill) rfl) (by decide) pays
    (b := a) (cB := cell'.cls) hfound ⟨cell', hc1, rfl, by rw [u2]; rfl⟩ (g := g) hg hsize (Steps.refl _) (argsL := []) (rest := rest)
    (fun sig q => by rw [show parseMethodDescriptor tFill.desc = some ⟨[], some (.object tN)⟩ from by decide +kernel] at q; rw [← Option.some.inj q]; rfl) hs hW hd
    (fun _ _ => ⟨rfl, hc, hsl, hc1, hcS⟩)
  dsimp only [Pt.U, Pt.locs, Pt.cells, Pt.slots] at X6 hU hL hcc hnn st
  subst hv hL hcc hnn
  have eB : Jvm.RoadKit.slotOf Z "java/lang/Throwable" "backtrace" "Ljava/lang/Object;" = fB.slot := own_slot hZ gB
  have eD : Jvm.RoadKit.slotOf Z "java/lang/Throwable" "depth" "I" = fD.slot := own_slot hZ gD
  have eS : Jvm.RoadKit.slotOf Z "java/lang/Throwable" "stackTrace" "[Ljava/lang/StackTraceElement;" = TT.fStack.slot := own_slot hZ gS
  rw [eB, eD, eS]
  have P := own_push (h := T.heap) (traceHolder cO lines)
  have W1 := own_wr (P.2 _ _ hc1) (by rw [u2]; rfl) (htB 0).1 (.ref T.heap.size)
  have W2 := own_wr W1.2 (show cell'.vm.isStatics = false by rw [u2]; rfl) (sl := fD.slot) (by rw [own_ssz]; exact (htD 0).1) (.int lines.length.toInt32)
  have W3 := own_wr W2.2 (show cell'.vm.isStatics = false by rw [u2]; rfl) (sl := TT.fStack.slot) (by rw [own_ssz, own_ssz]; exact htS.1) (.ref u)
  have hhold : (traceHolder cO lines).slots.size ≤ 2752 := traceHolder_size_le cO hln
  refine ⟨T6, _, _, _, _, X6.more (Nat.le_refl _) (Nat.add_le_add_left hhold _), ?_, P, ⟨_, W1.1⟩, ⟨_, W2.1⟩, W3.1, fun target q => st.trans q⟩
  rw [hU]
  show (T.heap.push (traceHolder cO lines)).setIfInBounds a _ = _
  rw [Array.setIfInBounds_setIfInBounds, Array.setIfInBounds_setIfInBounds]
  rfl
/-- 'invokevirtual getCause()' on an object of rc whose cause is null -/
theorem own_gcause (X : Stand p l e R (s.setVm vm0) m args below meth c T locs cells slots) (hx : p.tables.exec = Jvm.exec) (hZ : Z.Warmed39 vm0) {own rc : String} {index : Nat} (hown : vm0.findClass own = some m.cls) (w1 : (Jvm.Cond.methodLink own index ⟨rc, "getCause", "()Ljava/lang/Throwable;"⟩).before a0 Z = true) (w2 : (Jvm.Cond.sameMethod rc "java/lang/Throwable" "getCause" "()Ljava/lang/Throwable;").before a0 Z = true) (w7 : (Jvm.Cond.declares Jvm.RoadKit.gcN).before a0 Z = true) (w5 : (Jvm.Cond.selects rc ⟨rc, "getCause", "()Ljava/lang/Throwable;"⟩ Jvm.RoadKit.gcN).before a0 Z = true) (w6 : (Jvm.Cond.instanceMethod Jvm.RoadKit.gcN).before a0 Z = true) (w4 : (Jvm.Cond.codeSync Jvm.RoadKit.gcN Jvm.RoadKit.gcB 1 (some (.object tN))).before a0 Z = true) (w3 : (Jvm.Cond.initialized tN).before a0 Z = true) (wf : (Jvm.Cond.fieldLink tN 7 tN "cause" "Ljava/lang/Throwable;").before a0 Z = true)
    (eT : T.heap = h) {a : Addr} (E : Exa Z h a rc) (N : Unt h a) (F : Fld Z h a "java/lang/Throwable" "cause" "Ljava/lang/Throwable;" .null) {g : JFrame} (hg : g.method = m) (hsize : g.locals.size = c.maxLocals) {rest : List Value} (hs : g.stack = .ref a :: rest) (hd : decode c.code g.pc = .ok (.invokevirtual index, 3)) (hf : 1 ≤ R.frames) {W : Nat} (hW : 2 * g.monitorRoom + (rest.map fun v => v.category).sum ≤ W) (hlo : W + 12 ≤ R.locals) (hc : cells ≤ R.cells) (hsl : slots ≤ R.slots) :
    ∃ (T' : State), Stand p l e R (s.setVm vm0) m args below meth c T' locs cells slots ∧ T'.heap = h ∧ ∀ target, Steps p.tables e below (T'.setTop { g with pc := g.pc + 3, stack := .null :: rest }) target → Steps p.tables e below (T.setTop g) target := by
  obtain ⟨cB, kB, qa, qb, qc⟩ := isOf (s := s.setVm vm0) hZ eT E
  have bk := Jvm.RoadKit.gcBackPure (rm := ({ frames := 0, cells := 0, slots := 0, locals := 0 } : Room)) (l := l) (R := R) (p := p) (e := e) (below := below) (s := s.setVm vm0) (args := args) (len := 3) (W := W) hZ w4 w6 w3 wf N F rfl (by show 0 + 1 ≤ R.frames; omega) (by show W + (1 + 11) + 0 ≤ R.locals; omega)
  obtain ⟨v, vm₁, ⟨T', L', c', n'⟩, -, X', ⟨hv, hh, l1, l2, l3⟩, st⟩ := X.virtualBackUp hx hown (mvT (s := s.setVm vm0) hZ w1) (mvT (s := s.setVm vm0) hZ w2) (mvT (s := s.setVm vm0) hZ w7) (by decide) (mvT (s := s.setVm vm0) hZ w5) (mvT (s := s.setVm vm0) hZ w6) bk qa qc (g := g) hg hsize (Steps.refl _) (argsL := []) (rest := rest)
    (fun sig q => by rw [show parseMethodDescriptor "()Ljava/lang/Throwable;" = some ⟨[], some (.object tN)⟩ from by decide +kernel] at q; rw [← Option.some.inj q]; rfl) hs hW hd (fun _ _ => ⟨rfl, eT, hc, hsl⟩)
  dsimp only [Pt.U, Pt.locs, Pt.cells, Pt.slots] at X' hh l1 l2 l3 st
  have ev : Jvm.RoadKit.gcV a .null = .null := by show (if Value.null = Value.ref a then Value.null else Value.null) = Value.null; exact ite_self _
  rw [ev] at hv
  subst hv l1 l2 l3
  exact ⟨T', X', hh, fun target q => st.trans q⟩
end Own
theorem own_narc (x : Int32) : nar .char (nar .char x) = nar .char x := by simp only [nar, UInt32.toUInt32_toInt32, UInt16.toUInt16_toUInt32]
theorem own_nari (x : Int32) : nar .char (x.toUInt32.toUInt16.toUInt32.toInt32) = x.toUInt32.toUInt16.toUInt32.toInt32 := by simp only [nar, UInt32.toUInt32_toInt32, UInt16.toUInt16_toUInt32]
theorem own_w32 (x : Int32) : (x.toUInt32.toUInt16.toUInt32.toInt32).toBitVec = (x.toBitVec.setWidth 16).setWidth 32 := rfl
theorem own_and255 (y : Int32) : ¬ (255 : Int32) < (nar .char ((y &&& (255 : Int32)).toUInt32.toUInt16.toUInt32.toInt32)) := by
  have e : (nar .char ((y &&& (255 : Int32)).toUInt32.toUInt16.toUInt32.toInt32)).toBitVec = ((y.toBitVec &&& 255#32).setWidth 16).setWidth 32 := by
    rw [own_nari, own_w32]; rfl
  have hn : (nar .char ((y &&& (255 : Int32)).toUInt32.toUInt16.toUInt32.toInt32)).toBitVec.toNat < 256 := by
    rw [e]
    simp only [BitVec.toNat_setWidth]
    have : (y.toBitVec &&& 255#32).toNat ≤ 255 := by rw [BitVec.toNat_and]; exact Nat.and_le_right
    omega
  generalize nar .char ((y &&& (255 : Int32)).toUInt32.toUInt16.toUInt32.toInt32) = c at hn
  rw [Int32.lt_iff_toInt_lt]
  have hi : c.toInt = c.toBitVec.toNat := by
    show c.toBitVec.toInt = _
    rw [BitVec.toInt_eq_toNat_of_lt (by omega)]
  have h255 : (255 : Int32).toInt = 255 := rfl
  omega
theorem own_and255' (y : Int32) : ¬ (255 : Int32) < ((y &&& (255 : Int32)).toUInt32.toUInt16.toUInt32.toInt32) := by
  have q := own_and255 y
  rw [own_nari] at q
  exact q
theorem own_wsAt {Z : State} {a0 : Array Value} (hw : ∀ d ∈ tables_1, d.before a0 Z = true) : ∀ d ∈ own_ws "com/example/hyra/hyra/service/RefusedException", d.before a0 Z = true := by
  intro d hd
  simp only [own_ws, List.mem_cons, List.not_mem_nil, or_false] at hd
  rcases hd with rfl | rfl | rfl | rfl | rfl | rfl | rfl | rfl | rfl | rfl | rfl | rfl | rfl | rfl | rfl | rfl | rfl | rfl | rfl | rfl | rfl | rfl | rfl | rfl | rfl | rfl | rfl | rfl | rfl | rfl | rfl
  · exact (hw _ (List.mem_of_getElem? (i := 57) rfl))
  · exact (hw _ (List.mem_of_getElem? (i := 75) rfl))
  · exact (hw _ (List.mem_of_getElem? (i := 70) rfl))
  · exact (hw _ (List.mem_of_getElem? (i := 76) rfl))
  · exact (hw _ (List.mem_of_getElem? (i := 77) rfl))
  · exact (hw _ (List.mem_of_getElem? (i := 78) rfl))
  · exact (hw _ (List.mem_of_getElem? (i := 24) rfl))
  · exact (hw _ (List.mem_of_getElem? (i := 25) rfl))
  · exact (hw _ (List.mem_of_getElem? (i := 59) rfl))
  · exact (hw _ (List.mem_of_getElem? (i := 68) rfl))
  · exact (hw _ (List.mem_of_getElem? (i := 81) rfl))
  · exact (hw _ (List.mem_of_getElem? (i := 60) rfl))
  · exact (hw _ (List.mem_of_getElem? (i := 63) rfl))
  · exact (hw _ (List.mem_of_getElem? (i := 66) rfl))
  · exact (hw _ (List.mem_of_getElem? (i := 62) rfl))
  · exact (hw _ (List.mem_of_getElem? (i := 88) rfl))
  · exact (hw _ (List.mem_of_getElem? (i := 65) rfl))
  · exact (hw _ (List.mem_of_getElem? (i := 89) rfl))
  · exact (hw _ (List.mem_of_getElem? (i := 86) rfl))
  · exact (hw _ (List.mem_of_getElem? (i := 61) rfl))
  · exact (hw _ (List.mem_of_getElem? (i := 64) rfl))
  · exact (hw _ (List.mem_of_getElem? (i := 67) rfl))
  · exact (hw _ (List.mem_of_getElem? (i := 91) rfl))
  · exact (hw _ (List.mem_of_getElem? (i := 92) rfl))
  · exact (hw _ (List.mem_of_getElem? (i := 93) rfl))
  · exact (hw _ (List.mem_of_getElem? (i := 69) rfl))
  · exact (hw _ (List.mem_of_getElem? (i := 90) rfl))
  · exact (hw _ (List.mem_of_getElem? (i := 71) rfl))
  · exact (hw _ (List.mem_of_getElem? (i := 72) rfl))
  · exact (hw _ (List.mem_of_getElem? (i := 73) rfl))
  · exact (hw _ (List.mem_of_getElem? (i := 74) rfl))
theorem d11_0 : decode jdk_78_method_2_code 0 = .ok (.aload_n 0, 1) := by decide +kernel
theorem d11_1 : decode jdk_78_method_2_code 1 = .ok (.invokespecial 1, 3) := by decide +kernel
theorem d11_4 : decode jdk_78_method_2_code 4 = .ok (.aload_n 0, 1) := by decide +kernel
theorem d11_5 : decode jdk_78_method_2_code 5 = .ok (.aload_n 0, 1) := by decide +kernel
theorem d11_6 : decode jdk_78_method_2_code 6 = .ok (.putfield 7, 3) := by decide +kernel
theorem d11_9 : decode jdk_78_method_2_code 9 = .ok (.aload_n 0, 1) := by decide +kernel
theorem d11_10 : decode jdk_78_method_2_code 10 = .ok (.getstatic 13, 3) := by decide +kernel
theorem d11_13 : decode jdk_78_method_2_code 13 = .ok (.putfield 17, 3) := by decide +kernel
theorem d11_16 : decode jdk_78_method_2_code 16 = .ok (.aload_n 0, 1) := by decide +kernel
theorem d11_17 : decode jdk_78_method_2_code 17 = .ok (.getstatic 20, 3) := by decide +kernel
theorem d11_20 : decode jdk_78_method_2_code 20 = .ok (.putfield 24, 3) := by decide +kernel
theorem d11_23 : decode jdk_78_method_2_code 23 = .ok (.aload_n 0, 1) := by decide +kernel
theorem d11_24 : decode jdk_78_method_2_code 24 = .ok (.invokevirtual 27, 3) := by decide +kernel
theorem d11_27 : decode jdk_78_method_2_code 27 = .ok (.pop, 1) := by decide +kernel
theorem d11_28 : decode jdk_78_method_2_code 28 = .ok (.aload_n 0, 1) := by decide +kernel
theorem d11_29 : decode jdk_78_method_2_code 29 = .ok (.aload_n 1, 1) := by decide +kernel
theorem d11_30 : decode jdk_78_method_2_code 30 = .ok (.putfield 31, 3) := by decide +kernel
theorem d11_33 : decode jdk_78_method_2_code 33 = .ok (.return_, 1) := by decide +kernel
theorem pn_11 : plainName "java/lang/Throwable" = true := by first | (simp [plainName, overriddenIn]; done) | decide +kernel
set_option maxRecDepth 65536 in
set_option maxHeartbeats 40000000 in
theorem rmTh (l : Launch) (Z : State) (a0 : Array Value) (hw : ∀ d ∈ tables_1, d.before a0 Z = true) (a : Addr) (msg : Value) (su : Addr) (sn : Addr) (h0 : Heap) (n0 : Nat) (Z0 : n0 ≤ h0.size) (OL : Old Z n0 h0) (hl : l.stackTraces = true) (hmsg : msg.isRef = true) (SU : Sta Z Z.heap "java/lang/Throwable" "UNASSIGNED_STACK" "[Ljava/lang/StackTraceElement;" (.ref su)) (SN : Sta Z Z.heap "java/lang/Throwable" "SUPPRESSED_SENTINEL" "Ljava/util/List;" (.ref sn)) (E_a : Exa Z h0 a "com/example/hyra/hyra/service/RefusedException") (N_a : Unt h0 a) (g_a : n0 ≤ a) (F_cause : Fld Z h0 a "java/lang/Throwable" "cause" "Ljava/lang/Throwable;" .null) (F_stackTrace : Fld Z h0 a "java/lang/Throwable" "stackTrace" "[Ljava/lang/StackTraceElement;" .null) (F_suppressedExceptions : Fld Z h0 a "java/lang/Throwable" "suppressedExceptions" "Ljava/util/List;" .null) (F_backtrace : Fld Z h0 a "java/lang/Throwable" "backtrace" "Ljava/lang/Object;" .null) (F_depth : Fld Z h0 a "java/lang/Throwable" "depth" "I" (.int 0)) (F_detailMessage : Fld Z h0 a "java/lang/Throwable" "detailMessage" "Ljava/lang/String;" .null) (F_reason : Fld Z h0 a "com/example/hyra/hyra/service/RefusedException" "reason" "Lcom/example/hyra/hyra/service/RefusedException$Reason;" .null) :
    Con l (⟨"java/lang/Throwable", "<init>", "(Ljava/lang/String;)V"⟩ : MethodName) jdk_78_method_2_code 2 none ({ frames := 3, cells := 1, slots := 2752, locals := 42 } : Room) Z #[(.ref a), msg] h0 (fun _ => True) (fun v h L vm => v = none ∧ Fr n0 L ∧ Keep h0 h [a] ∧ Unt h a ∧ Fld Z h a "java/lang/Throwable" "detailMessage" "Ljava/lang/String;" msg ∧ Fld Z h a "java/lang/Throwable" "cause" "Ljava/lang/Throwable;" (.ref a) ∧ Fld Z h a "com/example/hyra/hyra/service/RefusedException" "reason" "Lcom/example/hyra/hyra/service/RefusedException$Reason;" .null) := by
  refine Con.mk (plainFor_of_name pn_11) (fun m => show entryFrame m #[(.ref a), msg] 2 = mkF m 0 #[.val (.ref a), .val msg] [] by rcases ref_cases hmsg with hq | ⟨_, hq⟩ <;> subst hq <;> first | (simp [entryFrame, mkF, argsToLocals, Value.category]; done) | rfl) ?_
  intro p e s m below meth c s₁ vm0 hx hby hml hown hnm hret hlk hZ X0 e0 hS hs0 hP0 hK
  have N0 := Fr.nil n0
  show Run p e below s _ _ _ (s₁.setTop (mkF m 0 #[.val (.ref a), .val msg] []))
  refine Run.pre (fun _ k => XS.aloadN X0.here hx rfl (hb hby d11_0) rfl rfl k) ?_
  show Run p e below s _ _ _ (s₁.setTop (mkF m 1 #[.val (.ref a), .val msg] [(.ref a)]))
  obtain ⟨T101, X101, e101, st101⟩ := initO X0 hx hZ hown (hw _ (List.mem_of_getElem? (i := 59) rfl)) (hw _ (List.mem_of_getElem? (i := 24) rfl)) (hw _ (List.mem_of_getElem? (i := 25) rfl)) e0 (g := (mkF m 1 #[.val (.ref a), .val msg] [(.ref a)])) rfl (by rw [hml]; rfl) rfl (hb hby d11_1) (by decide) (W := 0) (by show 2 * 0 + _ ≤ _; exact Nat.le_of_eq rfl) (by decide)
  refine Run.pre st101 ?_
  show Run p e below s _ _ _ (T101.setTop (mkF m 4 #[.val (.ref a), .val msg] []))
  refine Run.pre (fun _ k => XS.aloadN X101.here hx rfl (hb hby d11_4) rfl rfl k) ?_
  show Run p e below s _ _ _ (T101.setTop (mkF m 5 #[.val (.ref a), .val msg] [(.ref a)]))
  refine Run.pre (fun _ k => XS.aloadN X101.here hx rfl (hb hby d11_5) rfl rfl k) ?_
  show Run p e below s _ _ _ (T101.setTop (mkF m 6 #[.val (.ref a), .val msg] [(.ref a), (.ref a)]))
  obtain ⟨T102, h102, X102, e102, W102, st102⟩ := putF X101 hx hZ hown (host := "") (Or.inl (hw _ (List.mem_of_getElem? (i := 60) rfl))) Via.refl e101 F_cause E_a (Or.inl (hw _ (List.mem_of_getElem? (i := 61) rfl))) (hw _ (List.mem_of_getElem? (i := 35) rfl)) (ty := (.object "java/lang/Throwable")) (by decide) rfl rfl (g := (mkF m 6 #[.val (.ref a), .val msg] [(.ref a), (.ref a)])) rfl rfl (hb hby d11_6)
  refine Run.pre st102 ?_
  have Fw102 := F_cause.same W102
  have K102 : Keep h0 h102 [a] := (Keep.refl h0 [a]).wr W102 (Or.inl (by simp))
  have N102 := Fr.snoc X102 N0 g_a
  show Run p e below s _ _ _ (T102.setTop (mkF m 9 #[.val (.ref a), .val msg] []))
  refine Run.pre (fun _ k => XS.aloadN X102.here hx rfl (hb hby d11_9) rfl rfl k) ?_
  show Run p e below s _ _ _ (T102.setTop (mkF m 10 #[.val (.ref a), .val msg] [(.ref a)]))
  have f103 := (OL.wr W102 g_a)
  obtain ⟨T104, X104, e104, st104⟩ := getS2 X102 hx hZ hown (host := "") (Or.inl (hw _ (List.mem_of_getElem? (i := 62) rfl))) Via.refl e102 (SU.ext f103.2) (g := (mkF m 10 #[.val (.ref a), .val msg] [(.ref a)])) rfl (hb hby d11_10)
  refine Run.pre st104 ?_
  show Run p e below s _ _ _ (T104.setTop (mkF m 13 #[.val (.ref a), .val msg] [(.ref su), (.ref a)]))
  have f105 := (E_a.wr W102)
  have f106 := (F_stackTrace.other W102 (Or.inr (slot_ne (Or.inl (hw _ (List.mem_of_getElem? (i := 64) rfl))) (Or.inl (hw _ (List.mem_of_getElem? (i := 61) rfl))) (by decide) (t := (.array (.object "java/lang/StackTraceElement"))) (t' := (.object "java/lang/Throwable")) (by decide) (by decide))))
  obtain ⟨T107, h107, X107, e107, W107, st107⟩ := putF X104 hx hZ hown (host := "") (Or.inl (hw _ (List.mem_of_getElem? (i := 63) rfl))) Via.refl e104 f106 f105 (Or.inl (hw _ (List.mem_of_getElem? (i := 64) rfl))) (hw _ (List.mem_of_getElem? (i := 35) rfl)) (ty := (.array (.object "java/lang/StackTraceElement"))) (by decide) rfl rfl (g := (mkF m 13 #[.val (.ref a), .val msg] [(.ref su), (.ref a)])) rfl rfl (hb hby d11_13)
  refine Run.pre st107 ?_
  have Fw107 := f106.same W107
  have K107 : Keep h0 h107 [a] := K102.wr W107 (Or.inl (by simp))
  have N107 := Fr.snoc X107 N102 g_a
  show Run p e below s _ _ _ (T107.setTop (mkF m 16 #[.val (.ref a), .val msg] []))
  refine Run.pre (fun _ k => XS.aloadN X107.here hx rfl (hb hby d11_16) rfl rfl k) ?_
  show Run p e below s _ _ _ (T107.setTop (mkF m 17 #[.val (.ref a), .val msg] [(.ref a)]))
  have f108 := (f103.wr W107 g_a)
  obtain ⟨T109, X109, e109, st109⟩ := getS2 X107 hx hZ hown (host := "") (Or.inl (hw _ (List.mem_of_getElem? (i := 65) rfl))) Via.refl e107 (SN.ext f108.2) (g := (mkF m 17 #[.val (.ref a), .val msg] [(.ref a)])) rfl (hb hby d11_17)
  refine Run.pre st109 ?_
  show Run p e below s _ _ _ (T109.setTop (mkF m 20 #[.val (.ref a), .val msg] [(.ref sn), (.ref a)]))
  have f110 := (f105.wr W107)
  have f111 := ((F_suppressedExceptions.other W102 (Or.inr (slot_ne (Or.inl (hw _ (List.mem_of_getElem? (i := 67) rfl))) (Or.inl (hw _ (List.mem_of_getElem? (i := 61) rfl))) (by decide) (t := (.object "java/util/List")) (t' := (.object "java/lang/Throwable")) (by decide) (by decide)))).other W107 (Or.inr (slot_ne (Or.inl (hw _ (List.mem_of_getElem? (i := 67) rfl))) (Or.inl (hw _ (List.mem_of_getElem? (i := 64) rfl))) (by decide) (t := (.object "java/util/List")) (t' := (.array (.object "java/lang/StackTraceElement"))) (by decide) (by decide))))
  obtain ⟨T112, h112, X112, e112, W112, st112⟩ := putF X109 hx hZ hown (host := "") (Or.inl (hw _ (List.mem_of_getElem? (i := 66) rfl))) Via.refl e109 f111 f110 (Or.inl (hw _ (List.mem_of_getElem? (i := 67) rfl))) (hw _ (List.mem_of_getElem? (i := 35) rfl)) (ty := (.object "java/util/List")) (by decide) rfl rfl (g := (mkF m 20 #[.val (.ref a), .val msg] [(.ref sn), (.ref a)])) rfl rfl (hb hby d11_20)
  refine Run.pre st112 ?_
  have Fw112 := f111.same W112
  have K112 : Keep h0 h112 [a] := K107.wr W112 (Or.inl (by simp))
  have N112 := Fr.snoc X112 N107 g_a
  show Run p e below s _ _ _ (T112.setTop (mkF m 23 #[.val (.ref a), .val msg] []))
  refine Run.pre (fun _ k => XS.aloadN X112.here hx rfl (hb hby d11_23) rfl rfl k) ?_
  show Run p e below s _ _ _ (T112.setTop (mkF m 24 #[.val (.ref a), .val msg] [(.ref a)]))
  have f113 := (f110.wr W112)
  have f114 := (own_untW (own_untW (own_untW N_a W102) W107) W112)
  have f115 := (((F_backtrace.other W102 (Or.inr (slot_ne (Or.inl (hw _ (List.mem_of_getElem? (i := 92) rfl))) (Or.inl (hw _ (List.mem_of_getElem? (i := 61) rfl))) (by decide) (t := (.object "java/lang/Object")) (t' := (.object "java/lang/Throwable")) (by decide) (by decide)))).other W107 (Or.inr (slot_ne (Or.inl (hw _ (List.mem_of_getElem? (i := 92) rfl))) (Or.inl (hw _ (List.mem_of_getElem? (i := 64) rfl))) (by decide) (t := (.object "java/lang/Object")) (t' := (.array (.object "java/lang/StackTraceElement"))) (by decide) (by decide)))).other W112 (Or.inr (slot_ne (Or.inl (hw _ (List.mem_of_getElem? (i := 92) rfl))) (Or.inl (hw _ (List.mem_of_getElem? (i := 67) rfl))) (by decide) (t := (.object "java/lang/Object")) (t' := (.object "java/util/List")) (by decide) (by decide))))
  have f116 := (Fw107.other W112 (Or.inr (slot_ne (Or.inl (hw _ (List.mem_of_getElem? (i := 64) rfl))) (Or.inl (hw _ (List.mem_of_getElem? (i := 67) rfl))) (by decide) (t := (.array (.object "java/lang/StackTraceElement"))) (t' := (.object "java/util/List")) (by decide) (by decide))))
  have f117 := (f108.wr W112 g_a)
  obtain ⟨T118, h118a, h118b, h118c, h118, X118, e118, E118, ⟨vb118, W118a⟩, ⟨vd118, W118b⟩, W118c, st118⟩ := own_fill hK hS X112 hx hl hZ (by rw [hs0]; exact ThS.ext OL.2 ThS.start) (rc := "com/example/hyra/hyra/service/RefusedException") hown (own_wsAt hw) (hw _ (List.mem_of_getElem? (i := 35) rfl)) e112 f113 f114 f115 f116 (SU.ext f117.2) (g := (mkF m 24 #[.val (.ref a), .val msg] [(.ref a)])) rfl (by rw [hml]; rfl) rfl (hb hby d11_24) (by decide) (W := 0) (by show 2 * 0 + _ ≤ _; exact Nat.le_of_eq rfl) (by decide) (by decide) (by decide)
  refine Run.pre st118 ?_
  have K118 : Keep h0 h118 [a] := (((K112.ext E118).wr W118a (Or.inl (by simp))).wr W118b (Or.inl (by simp))).wr W118c (Or.inl (by simp))
  have N118 := own_fr3 (x := Jvm.RoadKit.slotOf Z "java/lang/Throwable" "backtrace" "Ljava/lang/Object;") (y := Jvm.RoadKit.slotOf Z "java/lang/Throwable" "depth" "I") (z := Jvm.RoadKit.slotOf Z "java/lang/Throwable" "stackTrace" "[Ljava/lang/StackTraceElement;") N112 g_a
  show Run p e below s _ _ _ (T118.setTop (mkF m 27 #[.val (.ref a), .val msg] [(.ref a)]))
  refine Run.pre (fun _ k => XS.pop X118.here hx rfl (hb hby d11_27) rfl rfl k) ?_
  show Run p e below s _ _ _ (T118.setTop (mkF m 28 #[.val (.ref a), .val msg] []))
  refine Run.pre (fun _ k => XS.aloadN X118.here hx rfl (hb hby d11_28) rfl rfl k) ?_
  show Run p e below s _ _ _ (T118.setTop (mkF m 29 #[.val (.ref a), .val msg] [(.ref a)]))
  refine Run.pre (fun _ k => XS.aloadN X118.here hx rfl (hb hby d11_29) rfl hmsg k) ?_
  show Run p e below s _ _ _ (T118.setTop (mkF m 30 #[.val (.ref a), .val msg] [msg, (.ref a)]))
  have f119 := ((((f113.ext E118).wr W118a).wr W118b).wr W118c)
  have f120 := (((((((F_detailMessage.other W102 (Or.inr (slot_ne (Or.inl (hw _ (List.mem_of_getElem? (i := 91) rfl))) (Or.inl (hw _ (List.mem_of_getElem? (i := 61) rfl))) (by decide) (t := (.object "java/lang/String")) (t' := (.object "java/lang/Throwable")) (by decide) (by decide)))).other W107 (Or.inr (slot_ne (Or.inl (hw _ (List.mem_of_getElem? (i := 91) rfl))) (Or.inl (hw _ (List.mem_of_getElem? (i := 64) rfl))) (by decide) (t := (.object "java/lang/String")) (t' := (.array (.object "java/lang/StackTraceElement"))) (by decide) (by decide)))).other W112 (Or.inr (slot_ne (Or.inl (hw _ (List.mem_of_getElem? (i := 91) rfl))) (Or.inl (hw _ (List.mem_of_getElem? (i := 67) rfl))) (by decide) (t := (.object "java/lang/String")) (t' := (.object "java/util/List")) (by decide) (by decide)))).ext E118).other W118a (Or.inr (slot_ne (Or.inl (hw _ (List.mem_of_getElem? (i := 91) rfl))) (Or.inl (hw _ (List.mem_of_getElem? (i := 92) rfl))) (by decide) (t := (.object "java/lang/String")) (t' := (.object "java/lang/Object")) (by decide) (by decide)))).other W118b (Or.inr (slot_ne (Or.inl (hw _ (List.mem_of_getElem? (i := 91) rfl))) (Or.inl (hw _ (List.mem_of_getElem? (i := 93) rfl))) (by decide) (t := (.object "java/lang/String")) (t' := .int) (by decide) (by decide)))).other W118c (Or.inr (slot_ne (Or.inl (hw _ (List.mem_of_getElem? (i := 91) rfl))) (Or.inl (hw _ (List.mem_of_getElem? (i := 64) rfl))) (by decide) (t := (.object "java/lang/String")) (t' := (.array (.object "java/lang/StackTraceElement"))) (by decide) (by decide))))
  obtain ⟨T121, h121, X121, e121, W121, st121⟩ := putF X118 hx hZ hown (host := "") (Or.inl (hw _ (List.mem_of_getElem? (i := 95) rfl))) Via.refl e118 f120 f119 (Or.inl (hw _ (List.mem_of_getElem? (i := 91) rfl))) (hw _ (List.mem_of_getElem? (i := 35) rfl)) (ty := (.object "java/lang/String")) (by decide) (own_nr hmsg) (own_ft hmsg) (g := (mkF m 30 #[.val (.ref a), .val msg] [msg, (.ref a)])) rfl rfl (hb hby d11_30)
  refine Run.pre st121 ?_
  have Fw121 := f120.same W121
  have K121 : Keep h0 h121 [a] := K118.wr W121 (Or.inl (by simp))
  have N121 := Fr.snoc X121 N118 g_a
  show Run p e below s _ _ _ (T121.setTop (mkF m 33 #[.val (.ref a), .val msg] []))
  have f122 := (own_untW (own_untW (own_untW (own_untW (f114.ext E118) W118a) W118b) W118c) W121)
  have f123 := (((((((Fw102.other W107 (Or.inr (slot_ne (Or.inl (hw _ (List.mem_of_getElem? (i := 61) rfl))) (Or.inl (hw _ (List.mem_of_getElem? (i := 64) rfl))) (by decide) (t := (.object "java/lang/Throwable")) (t' := (.array (.object "java/lang/StackTraceElement"))) (by decide) (by decide)))).other W112 (Or.inr (slot_ne (Or.inl (hw _ (List.mem_of_getElem? (i := 61) rfl))) (Or.inl (hw _ (List.mem_of_getElem? (i := 67) rfl))) (by decide) (t := (.object "java/lang/Throwable")) (t' := (.object "java/util/List")) (by decide) (by decide)))).ext E118).other W118a (Or.inr (slot_ne (Or.inl (hw _ (List.mem_of_getElem? (i := 61) rfl))) (Or.inl (hw _ (List.mem_of_getElem? (i := 92) rfl))) (by decide) (t := (.object "java/lang/Throwable")) (t' := (.object "java/lang/Object")) (by decide) (by decide)))).other W118b (Or.inr (slot_ne (Or.inl (hw _ (List.mem_of_getElem? (i := 61) rfl))) (Or.inl (hw _ (List.mem_of_getElem? (i := 93) rfl))) (by decide) (t := (.object "java/lang/Throwable")) (t' := .int) (by decide) (by decide)))).other W118c (Or.inr (slot_ne (Or.inl (hw _ (List.mem_of_getElem? (i := 61) rfl))) (Or.inl (hw _ (List.mem_of_getElem? (i := 64) rfl))) (by decide) (t := (.object "java/lang/Throwable")) (t' := (.array (.object "java/lang/StackTraceElement"))) (by decide) (by decide)))).other W121 (Or.inr (slot_ne (Or.inl (hw _ (List.mem_of_getElem? (i := 61) rfl))) (Or.inl (hw _ (List.mem_of_getElem? (i := 91) rfl))) (by decide) (t := (.object "java/lang/Throwable")) (t' := (.object "java/lang/String")) (by decide) (by decide))))
  have f124 := ((((((((F_reason.other W102 (Or.inr (slot_ne (Or.inr (hw _ (List.mem_of_getElem? (i := 97) rfl))) (Or.inl (hw _ (List.mem_of_getElem? (i := 61) rfl))) (by decide) (t := (.object "com/example/hyra/hyra/service/RefusedException$Reason")) (t' := (.object "java/lang/Throwable")) (by decide) (by decide)))).other W107 (Or.inr (slot_ne (Or.inr (hw _ (List.mem_of_getElem? (i := 97) rfl))) (Or.inl (hw _ (List.mem_of_getElem? (i := 64) rfl))) (by decide) (t := (.object "com/example/hyra/hyra/service/RefusedException$Reason")) (t' := (.array (.object "java/lang/StackTraceElement"))) (by decide) (by decide)))).other W112 (Or.inr (slot_ne (Or.inr (hw _ (List.mem_of_getElem? (i := 97) rfl))) (Or.inl (hw _ (List.mem_of_getElem? (i := 67) rfl))) (by decide) (t := (.object "com/example/hyra/hyra/service/RefusedException$Reason")) (t' := (.object "java/util/List")) (by decide) (by decide)))).ext E118).other W118a (Or.inr (slot_ne (Or.inr (hw _ (List.mem_of_getElem? (i := 97) rfl))) (Or.inl (hw _ (List.mem_of_getElem? (i := 92) rfl))) (by decide) (t := (.object "com/example/hyra/hyra/service/RefusedException$Reason")) (t' := (.object "java/lang/Object")) (by decide) (by decide)))).other W118b (Or.inr (slot_ne (Or.inr (hw _ (List.mem_of_getElem? (i := 97) rfl))) (Or.inl (hw _ (List.mem_of_getElem? (i := 93) rfl))) (by decide) (t := (.object "com/example/hyra/hyra/service/RefusedException$Reason")) (t' := .int) (by decide) (by decide)))).other W118c (Or.inr (slot_ne (Or.inr (hw _ (List.mem_of_getElem? (i := 97) rfl))) (Or.inl (hw _ (List.mem_of_getElem? (i := 64) rfl))) (by decide) (t := (.object "com/example/hyra/hyra/service/RefusedException$Reason")) (t' := (.array (.object "java/lang/StackTraceElement"))) (by decide) (by decide)))).other W121 (Or.inr (slot_ne (Or.inr (hw _ (List.mem_of_getElem? (i := 97) rfl))) (Or.inl (hw _ (List.mem_of_getElem? (i := 91) rfl))) (by decide) (t := (.object "com/example/hyra/hyra/service/RefusedException$Reason")) (t' := (.object "java/lang/String")) (by decide) (by decide))))
  exact Run.retV hK hS (by first | exact Nat.le_refl _ | (rw [e121]; exact (Nat.le_trans (Nat.le_trans (Nat.le_trans (Nat.le_trans (Nat.le_trans (Nat.le_trans (Nat.le_trans (Nat.le_trans (Nat.zero_le _) (Keep.of_wr W102).1) (Keep.of_wr W107).1) (Keep.of_wr W112).1) E118.1) (Keep.of_wr W118a).1) (Keep.of_wr W118b).1) (Keep.of_wr W118c).1) (Keep.of_wr W121).1))) X121 hx hret hlk (hb hby d11_33) (by first | (rw [e121]; exact ⟨rfl, N121, K121, f122, Fw121, f123, f124⟩) | exact ⟨rfl, N121, K121, f122, Fw121, f123, f124⟩) (by decide) (by decide)
theorem d10_0 : decode jdk_59_method_2_code 0 = .ok (.aload_n 0, 1) := by decide +kernel
theorem d10_1 : decode jdk_59_method_2_code 1 = .ok (.aload_n 1, 1) := by decide +kernel
theorem pd_0 : parseMethodDescriptor "(Ljava/lang/String;)V" = some ⟨[(.object "java/lang/String")], none⟩ := by decide +kernel
theorem d10_2 : decode jdk_59_method_2_code 2 = .ok (.invokespecial 7, 3) := by decide +kernel
theorem d10_5 : decode jdk_59_method_2_code 5 = .ok (.return_, 1) := by decide +kernel
theorem pn_10 : plainName "java/lang/Exception" = true := by first | (simp [plainName, overriddenIn]; done) | decide +kernel
set_option maxRecDepth 65536 in
set_option maxHeartbeats 40000000 in
theorem rmEx (l : Launch) (Z : State) (a0 : Array Value) (hw : ∀ d ∈ tables_1, d.before a0 Z = true) (a : Addr) (msg : Value) (su : Addr) (sn : Addr) (h0 : Heap) (n0 : Nat) (Z0 : n0 ≤ h0.size) (OL : Old Z n0 h0) (hl : l.stackTraces = true) (hmsg : msg.isRef = true) (SU : Sta Z Z.heap "java/lang/Throwable" "UNASSIGNED_STACK" "[Ljava/lang/StackTraceElement;" (.ref su)) (SN : Sta Z Z.heap "java/lang/Throwable" "SUPPRESSED_SENTINEL" "Ljava/util/List;" (.ref sn)) (E_a : Exa Z h0 a "com/example/hyra/hyra/service/RefusedException") (N_a : Unt h0 a) (g_a : n0 ≤ a) (F_cause : Fld Z h0 a "java/lang/Throwable" "cause" "Ljava/lang/Throwable;" .null) (F_stackTrace : Fld Z h0 a "java/lang/Throwable" "stackTrace" "[Ljava/lang/StackTraceElement;" .null) (F_suppressedExceptions : Fld Z h0 a "java/lang/Throwable" "suppressedExceptions" "Ljava/util/List;" .null) (F_backtrace : Fld Z h0 a "java/lang/Throwable" "backtrace" "Ljava/lang/Object;" .null) (F_depth : Fld Z h0 a "java/lang/Throwable" "depth" "I" (.int 0)) (F_detailMessage : Fld Z h0 a "java/lang/Throwable" "detailMessage" "Ljava/lang/String;" .null) (F_reason : Fld Z h0 a "com/example/hyra/hyra/service/RefusedException" "reason" "Lcom/example/hyra/hyra/service/RefusedException$Reason;" .null) :
    Con l (⟨"java/lang/Exception", "<init>", "(Ljava/lang/String;)V"⟩ : MethodName) jdk_59_method_2_code 2 none ({ frames := 4, cells := 1, slots := 2752, locals := 55 } : Room) Z #[(.ref a), msg] h0 (fun _ => True) (fun v h L vm => v = none ∧ Fr n0 L ∧ Keep h0 h [a] ∧ Unt h a ∧ Fld Z h a "java/lang/Throwable" "detailMessage" "Ljava/lang/String;" msg ∧ Fld Z h a "java/lang/Throwable" "cause" "Ljava/lang/Throwable;" (.ref a) ∧ Fld Z h a "com/example/hyra/hyra/service/RefusedException" "reason" "Lcom/example/hyra/hyra/service/RefusedException$Reason;" .null) := by
  refine Con.mk (plainFor_of_name pn_10) (fun m => show entryFrame m #[(.ref a), msg] 2 = mkF m 0 #[.val (.ref a), .val msg] [] by rcases ref_cases hmsg with hq | ⟨_, hq⟩ <;> subst hq <;> first | (simp [entryFrame, mkF, argsToLocals, Value.category]; done) | rfl) ?_
  intro p e s m below meth c s₁ vm0 hx hby hml hown hnm hret hlk hZ X0 e0 hS hs0 hP0 hK
  have N0 := Fr.nil n0
  show Run p e below s _ _ _ (s₁.setTop (mkF m 0 #[.val (.ref a), .val msg] []))
  refine Run.pre (fun _ k => XS.aloadN X0.here hx rfl (hb hby d10_0) rfl rfl k) ?_
  show Run p e below s _ _ _ (s₁.setTop (mkF m 1 #[.val (.ref a), .val msg] [(.ref a)]))
  refine Run.pre (fun _ k => XS.aloadN X0.here hx rfl (hb hby d10_1) rfl hmsg k) ?_
  show Run p e below s _ _ _ (s₁.setTop (mkF m 2 #[.val (.ref a), .val msg] [msg, (.ref a)]))
  refine Run.callI hK hS (by first | exact Nat.le_refl _ | (rw [e0]; exact (Nat.zero_le _))) X0 hx hZ (y := (⟨"java/lang/Throwable", "<init>", "(Ljava/lang/String;)V"⟩ : MethodName)) rfl hown (hw _ (List.mem_of_getElem? (i := 53) rfl)) (hw _ (List.mem_of_getElem? (i := 54) rfl)) (hw _ (List.mem_of_getElem? (i := 58) rfl)) (hw _ (List.mem_of_getElem? (i := 57) rfl)) (by decide) (a := a) (W := 0) (rmTh l Z a0 hw a msg su sn h0 n0 (Nat.le_trans Z0 (Keep.refl h0 [a]).1) OL hl hmsg SU SN E_a N_a g_a F_cause F_stackTrace F_suppressedExceptions F_backtrace F_depth F_detailMessage F_reason) e0 (by decide) (by decide) (by decide) (by decide) (fun _ _ => trivial) (g := (mkF m 2 #[.val (.ref a), .val msg] [msg, (.ref a)])) rfl (by rw [hml]; rfl) (argsL := [msg]) (rest := []) (lenOf pd_0 rfl) rfl (by show 2 * 0 + _ ≤ _; exact Nat.le_of_eq rfl) (hb hby d10_2) ?_
  intro v125 T125 L125 X125 hS hZ hown hV125 hQ125
  obtain ⟨rfl, Nq125, Kc125, ut125, fm125, fc125, fr125⟩ := hQ125
  have N125 := Fr.app N0 Nq125
  have K125 : Keep h0 T125.heap [a] := (Keep.refl h0 [a]).trans Kc125 (allS (Or.inl (by simp)) all0)
  show Run p e below s _ _ _ (T125.setTop (mkF m 5 #[.val (.ref a), .val msg] []))
  exact Run.retV hK hS (Nat.le_refl _) X125 hx hret hlk (hb hby d10_5) ⟨rfl, N125, K125, ut125, fm125, fc125, fr125⟩ (by decide) (by decide)
theorem d9_0 : decode jdk_58_method_2_code 0 = .ok (.aload_n 0, 1) := by decide +kernel
theorem d9_1 : decode jdk_58_method_2_code 1 = .ok (.aload_n 1, 1) := by decide +kernel
theorem d9_2 : decode jdk_58_method_2_code 2 = .ok (.invokespecial 7, 3) := by decide +kernel
theorem d9_5 : decode jdk_58_method_2_code 5 = .ok (.return_, 1) := by decide +kernel
theorem pn_9 : plainName "java/lang/RuntimeException" = true := by first | (simp [plainName, overriddenIn]; done) | decide +kernel
set_option maxRecDepth 65536 in
set_option maxHeartbeats 40000000 in
theorem rmRt (l : Launch) (Z : State) (a0 : Array Value) (hw : ∀ d ∈ tables_1, d.before a0 Z = true) (a : Addr) (msg : Value) (su : Addr) (sn : Addr) (h0 : Heap) (n0 : Nat) (Z0 : n0 ≤ h0.size) (OL : Old Z n0 h0) (hl : l.stackTraces = true) (hmsg : msg.isRef = true) (SU : Sta Z Z.heap "java/lang/Throwable" "UNASSIGNED_STACK" "[Ljava/lang/StackTraceElement;" (.ref su)) (SN : Sta Z Z.heap "java/lang/Throwable" "SUPPRESSED_SENTINEL" "Ljava/util/List;" (.ref sn)) (E_a : Exa Z h0 a "com/example/hyra/hyra/service/RefusedException") (N_a : Unt h0 a) (g_a : n0 ≤ a) (F_cause : Fld Z h0 a "java/lang/Throwable" "cause" "Ljava/lang/Throwable;" .null) (F_stackTrace : Fld Z h0 a "java/lang/Throwable" "stackTrace" "[Ljava/lang/StackTraceElement;" .null) (F_suppressedExceptions : Fld Z h0 a "java/lang/Throwable" "suppressedExceptions" "Ljava/util/List;" .null) (F_backtrace : Fld Z h0 a "java/lang/Throwable" "backtrace" "Ljava/lang/Object;" .null) (F_depth : Fld Z h0 a "java/lang/Throwable" "depth" "I" (.int 0)) (F_detailMessage : Fld Z h0 a "java/lang/Throwable" "detailMessage" "Ljava/lang/String;" .null) (F_reason : Fld Z h0 a "com/example/hyra/hyra/service/RefusedException" "reason" "Lcom/example/hyra/hyra/service/RefusedException$Reason;" .null) :
    Con l (⟨"java/lang/RuntimeException", "<init>", "(Ljava/lang/String;)V"⟩ : MethodName) jdk_58_method_2_code 2 none ({ frames := 5, cells := 1, slots := 2752, locals := 68 } : Room) Z #[(.ref a), msg] h0 (fun _ => True) (fun v h L vm => v = none ∧ Fr n0 L ∧ Keep h0 h [a] ∧ Unt h a ∧ Fld Z h a "java/lang/Throwable" "detailMessage" "Ljava/lang/String;" msg ∧ Fld Z h a "java/lang/Throwable" "cause" "Ljava/lang/Throwable;" (.ref a) ∧ Fld Z h a "com/example/hyra/hyra/service/RefusedException" "reason" "Lcom/example/hyra/hyra/service/RefusedException$Reason;" .null) := by
  refine Con.mk (plainFor_of_name pn_9) (fun m => show entryFrame m #[(.ref a), msg] 2 = mkF m 0 #[.val (.ref a), .val msg] [] by rcases ref_cases hmsg with hq | ⟨_, hq⟩ <;> subst hq <;> first | (simp [entryFrame, mkF, argsToLocals, Value.category]; done) | rfl) ?_
  intro p e s m below meth c s₁ vm0 hx hby hml hown hnm hret hlk hZ X0 e0 hS hs0 hP0 hK
  have N0 := Fr.nil n0
  show Run p e below s _ _ _ (s₁.setTop (mkF m 0 #[.val (.ref a), .val msg] []))
  refine Run.pre (fun _ k => XS.aloadN X0.here hx rfl (hb hby d9_0) rfl rfl k) ?_
  show Run p e below s _ _ _ (s₁.setTop (mkF m 1 #[.val (.ref a), .val msg] [(.ref a)]))
  refine Run.pre (fun _ k => XS.aloadN X0.here hx rfl (hb hby d9_1) rfl hmsg k) ?_
  show Run p e below s _ _ _ (s₁.setTop (mkF m 2 #[.val (.ref a), .val msg] [msg, (.ref a)]))
  refine Run.callI hK hS (by first | exact Nat.le_refl _ | (rw [e0]; exact (Nat.zero_le _))) X0 hx hZ (y := (⟨"java/lang/Exception", "<init>", "(Ljava/lang/String;)V"⟩ : MethodName)) rfl hown (hw _ (List.mem_of_getElem? (i := 47) rfl)) (hw _ (List.mem_of_getElem? (i := 48) rfl)) (hw _ (List.mem_of_getElem? (i := 52) rfl)) (hw _ (List.mem_of_getElem? (i := 51) rfl)) (by decide) (a := a) (W := 0) (rmEx l Z a0 hw a msg su sn h0 n0 (Nat.le_trans Z0 (Keep.refl h0 [a]).1) OL hl hmsg SU SN E_a N_a g_a F_cause F_stackTrace F_suppressedExceptions F_backtrace F_depth F_detailMessage F_reason) e0 (by decide) (by decide) (by decide) (by decide) (fun _ _ => trivial) (g := (mkF m 2 #[.val (.ref a), .val msg] [msg, (.ref a)])) rfl (by rw [hml]; rfl) (argsL := [msg]) (rest := []) (lenOf pd_0 rfl) rfl (by show 2 * 0 + _ ≤ _; exact Nat.le_of_eq rfl) (hb hby d9_2) ?_
  intro v126 T126 L126 X126 hS hZ hown hV126 hQ126
  obtain ⟨rfl, Nq126, Kc126, ut126, fm126, fc126, fr126⟩ := hQ126
  have N126 := Fr.app N0 Nq126
  have K126 : Keep h0 T126.heap [a] := (Keep.refl h0 [a]).trans Kc126 (allS (Or.inl (by simp)) all0)
  show Run p e below s _ _ _ (T126.setTop (mkF m 5 #[.val (.ref a), .val msg] []))
  exact Run.retV hK hS (Nat.le_refl _) X126 hx hret hlk (hb hby d9_5) ⟨rfl, N126, K126, ut126, fm126, fc126, fr126⟩ (by decide) (by decide)
theorem d8_0 : decode prog_14_method_1_code 0 = .ok (.aload_n 0, 1) := by decide +kernel
theorem d8_1 : decode prog_14_method_1_code 1 = .ok (.aload_n 2, 1) := by decide +kernel
theorem d8_2 : decode prog_14_method_1_code 2 = .ok (.invokespecial 1, 3) := by decide +kernel
theorem d8_5 : decode prog_14_method_1_code 5 = .ok (.aload_n 0, 1) := by decide +kernel
theorem d8_6 : decode prog_14_method_1_code 6 = .ok (.aload_n 1, 1) := by decide +kernel
theorem d8_7 : decode prog_14_method_1_code 7 = .ok (.putfield 7, 3) := by decide +kernel
theorem d8_10 : decode prog_14_method_1_code 10 = .ok (.return_, 1) := by decide +kernel
theorem pn_8 : plainName "com/example/hyra/hyra/service/RefusedException" = true := by first | (simp [plainName, overriddenIn]; done) | decide +kernel
set_option maxRecDepth 65536 in
set_option maxHeartbeats 40000000 in
theorem rmIn (l : Launch) (Z : State) (a0 : Array Value) (hw : ∀ d ∈ tables_1, d.before a0 Z = true) (a : Addr) (msg : Value) (su : Addr) (sn : Addr) (rr : Addr) (h0 : Heap) (n0 : Nat) (Z0 : n0 ≤ h0.size) (OL : Old Z n0 h0) (hl : l.stackTraces = true) (hmsg : msg.isRef = true) (SU : Sta Z Z.heap "java/lang/Throwable" "UNASSIGNED_STACK" "[Ljava/lang/StackTraceElement;" (.ref su)) (SN : Sta Z Z.heap "java/lang/Throwable" "SUPPRESSED_SENTINEL" "Ljava/util/List;" (.ref sn)) (E_a : Exa Z h0 a "com/example/hyra/hyra/service/RefusedException") (N_a : Unt h0 a) (g_a : n0 ≤ a) (F_cause : Fld Z h0 a "java/lang/Throwable" "cause" "Ljava/lang/Throwable;" .null) (F_stackTrace : Fld Z h0 a "java/lang/Throwable" "stackTrace" "[Ljava/lang/StackTraceElement;" .null) (F_suppressedExceptions : Fld Z h0 a "java/lang/Throwable" "suppressedExceptions" "Ljava/util/List;" .null) (F_backtrace : Fld Z h0 a "java/lang/Throwable" "backtrace" "Ljava/lang/Object;" .null) (F_depth : Fld Z h0 a "java/lang/Throwable" "depth" "I" (.int 0)) (F_detailMessage : Fld Z h0 a "java/lang/Throwable" "detailMessage" "Ljava/lang/String;" .null) (F_reason : Fld Z h0 a "com/example/hyra/hyra/service/RefusedException" "reason" "Lcom/example/hyra/hyra/service/RefusedException$Reason;" .null) :
    Con l (⟨"com/example/hyra/hyra/service/RefusedException", "<init>", "(Lcom/example/hyra/hyra/service/RefusedException$Reason;Ljava/lang/String;)V"⟩ : MethodName) prog_14_method_1_code 3 none ({ frames := 6, cells := 1, slots := 2752, locals := 81 } : Room) Z #[(.ref a), (.ref rr), msg] h0 (fun _ => True) (fun v h L vm => v = none ∧ Fr n0 L ∧ Keep h0 h [a] ∧ Unt h a ∧ Fld Z h a "java/lang/Throwable" "detailMessage" "Ljava/lang/String;" msg ∧ Fld Z h a "java/lang/Throwable" "cause" "Ljava/lang/Throwable;" (.ref a) ∧ Fld Z h a "com/example/hyra/hyra/service/RefusedException" "reason" "Lcom/example/hyra/hyra/service/RefusedException$Reason;" (.ref rr)) := by
  refine Con.mk (plainFor_of_name pn_8) (fun m => show entryFrame m #[(.ref a), (.ref rr), msg] 3 = mkF m 0 #[.val (.ref a), .val (.ref rr), .val msg] [] by rcases ref_cases hmsg with hq | ⟨_, hq⟩ <;> subst hq <;> first | (simp [entryFrame, mkF, argsToLocals, Value.category]; done) | rfl) ?_
  intro p e s m below meth c s₁ vm0 hx hby hml hown hnm hret hlk hZ X0 e0 hS hs0 hP0 hK
  have N0 := Fr.nil n0
  show Run p e below s _ _ _ (s₁.setTop (mkF m 0 #[.val (.ref a), .val (.ref rr), .val msg] []))
  refine Run.pre (fun _ k => XS.aloadN X0.here hx rfl (hb hby d8_0) rfl rfl k) ?_
  show Run p e below s _ _ _ (s₁.setTop (mkF m 1 #[.val (.ref a), .val (.ref rr), .val msg] [(.ref a)]))
  refine Run.pre (fun _ k => XS.aloadN X0.here hx rfl (hb hby d8_1) rfl hmsg k) ?_
  show Run p e below s _ _ _ (s₁.setTop (mkF m 2 #[.val (.ref a), .val (.ref rr), .val msg] [msg, (.ref a)]))
  refine Run.callI hK hS (by first | exact Nat.le_refl _ | (rw [e0]; exact (Nat.zero_le _))) X0 hx hZ (y := (⟨"java/lang/RuntimeException", "<init>", "(Ljava/lang/String;)V"⟩ : MethodName)) rfl hown (hw _ (List.mem_of_getElem? (i := 42) rfl)) (hw _ (List.mem_of_getElem? (i := 43) rfl)) (hw _ (List.mem_of_getElem? (i := 46) rfl)) (hw _ (List.mem_of_getElem? (i := 45) rfl)) (by decide) (a := a) (W := 0) (rmRt l Z a0 hw a msg su sn h0 n0 (Nat.le_trans Z0 (Keep.refl h0 [a]).1) OL hl hmsg SU SN E_a N_a g_a F_cause F_stackTrace F_suppressedExceptions F_backtrace F_depth F_detailMessage F_reason) e0 (by decide) (by decide) (by decide) (by decide) (fun _ _ => trivial) (g := (mkF m 2 #[.val (.ref a), .val (.ref rr), .val msg] [msg, (.ref a)])) rfl (by rw [hml]; rfl) (argsL := [msg]) (rest := []) (lenOf pd_0 rfl) rfl (by show 2 * 0 + _ ≤ _; exact Nat.le_of_eq rfl) (hb hby d8_2) ?_
  intro v127 T127 L127 X127 hS hZ hown hV127 hQ127
  obtain ⟨rfl, Nq127, Kc127, ut127, fm127, fc127, fr127⟩ := hQ127
  have N127 := Fr.app N0 Nq127
  have K127 : Keep h0 T127.heap [a] := (Keep.refl h0 [a]).trans Kc127 (allS (Or.inl (by simp)) all0)
  show Run p e below s _ _ _ (T127.setTop (mkF m 5 #[.val (.ref a), .val (.ref rr), .val msg] []))
  refine Run.pre (fun _ k => XS.aloadN X127.here hx rfl (hb hby d8_5) rfl rfl k) ?_
  show Run p e below s _ _ _ (T127.setTop (mkF m 6 #[.val (.ref a), .val (.ref rr), .val msg] [(.ref a)]))
  refine Run.pre (fun _ k => XS.aloadN X127.here hx rfl (hb hby d8_6) rfl rfl k) ?_
  show Run p e below s _ _ _ (T127.setTop (mkF m 7 #[.val (.ref a), .val (.ref rr), .val msg] [(.ref rr), (.ref a)]))
  have f128 := (E_a.keep Kc127)
  obtain ⟨T129, h129, X129, e129, W129, st129⟩ := putF X127 hx hZ hown (host := "") (Or.inl (hw _ (List.mem_of_getElem? (i := 96) rfl))) Via.refl rfl fr127 f128 (Or.inr ⟨(hw _ (List.mem_of_getElem? (i := 97) rfl)), rfl, hnm⟩) (hw _ (List.mem_of_getElem? (i := 35) rfl)) (ty := (.object "com/example/hyra/hyra/service/RefusedException$Reason")) (by decide) rfl rfl (g := (mkF m 7 #[.val (.ref a), .val (.ref rr), .val msg] [(.ref rr), (.ref a)])) rfl rfl (hb hby d8_7)
  refine Run.pre st129 ?_
  have Fw129 := fr127.same W129
  have K129 : Keep h0 h129 [a] := K127.wr W129 (Or.inl (by simp))
  have N129 := Fr.snoc X129 N127 g_a
  show Run p e below s _ _ _ (T129.setTop (mkF m 10 #[.val (.ref a), .val (.ref rr), .val msg] []))
  have f130 := (own_untW ut127 W129)
  have f131 := (fm127.other W129 (Or.inr (slot_ne (Or.inl (hw _ (List.mem_of_getElem? (i := 91) rfl))) (Or.inr (hw _ (List.mem_of_getElem? (i := 97) rfl))) (by decide) (t := (.object "java/lang/String")) (t' := (.object "com/example/hyra/hyra/service/RefusedException$Reason")) (by decide) (by decide))))
  have f132 := (fc127.other W129 (Or.inr (slot_ne (Or.inl (hw _ (List.mem_of_getElem? (i := 61) rfl))) (Or.inr (hw _ (List.mem_of_getElem? (i := 97) rfl))) (by decide) (t := (.object "java/lang/Throwable")) (t' := (.object "com/example/hyra/hyra/service/RefusedException$Reason")) (by decide) (by decide))))
  exact Run.retV hK hS (by first | exact Nat.le_refl _ | (rw [e129]; exact (Nat.le_trans (Nat.le_refl _) (Keep.of_wr W129).1))) X129 hx hret hlk (hb hby d8_10) (by first | (rw [e129]; exact ⟨rfl, N129, K129, f130, f131, f132, Fw129⟩) | exact ⟨rfl, N129, K129, f130, f131, f132, Fw129⟩) (by decide) (by decide)
theorem d14_0 : decode prog_14_method_5_code 0 = .ok (.aload_n 0, 1) := by decide +kernel
theorem d14_1 : decode prog_14_method_5_code 1 = .ok (.getfield 7, 3) := by decide +kernel
theorem d14_4 : decode prog_14_method_5_code 4 = .ok (.areturn, 1) := by decide +kernel
theorem pn_14 : plainName "com/example/hyra/hyra/service/RefusedException" = true := by first | (simp [plainName, overriddenIn]; done) | decide +kernel
set_option maxRecDepth 65536 in
set_option maxHeartbeats 40000000 in
theorem rmRe (l : Launch) (Z : State) (a0 : Array Value) (hw : ∀ d ∈ tables_1, d.before a0 Z = true) (a : Addr) (rr : Addr) (h0 : Heap) (n0 : Nat) (Z0 : n0 ≤ h0.size) (FR : Fld Z h0 a "com/example/hyra/hyra/service/RefusedException" "reason" "Lcom/example/hyra/hyra/service/RefusedException$Reason;" (.ref rr)) :
    Con l (⟨"com/example/hyra/hyra/service/RefusedException", "reason", "()Lcom/example/hyra/hyra/service/RefusedException$Reason;"⟩ : MethodName) prog_14_method_5_code 1 (some (.object "com/example/hyra/hyra/service/RefusedException$Reason")) ({ frames := 0, cells := 0, slots := 0, locals := 0 } : Room) Z #[(.ref a)] h0 (fun _ => True) (fun v h L vm => v = some (.ref rr) ∧ Fr n0 L ∧ h = h0) := by
  refine Con.mk (plainFor_of_name pn_14) (fun m => show entryFrame m #[(.ref a)] 1 = mkF m 0 #[.val (.ref a)] [] by first | (simp [entryFrame, mkF, argsToLocals, Value.category]; done) | rfl) ?_
  intro p e s m below meth c s₁ vm0 hx hby hml hown hnm hret hlk hZ X0 e0 hS hs0 hP0 hK
  have N0 := Fr.nil n0
  show Run p e below s _ _ _ (s₁.setTop (mkF m 0 #[.val (.ref a)] []))
  refine Run.pre (fun _ k => XS.aloadN X0.here hx rfl (hb hby d14_0) rfl rfl k) ?_
  show Run p e below s _ _ _ (s₁.setTop (mkF m 1 #[.val (.ref a)] [(.ref a)]))
  obtain ⟨T133, X133, e133, st133⟩ := getF X0 hx hZ hown (host := "") (Or.inl (hw _ (List.mem_of_getElem? (i := 96) rfl))) Via.refl e0 FR (g := (mkF m 1 #[.val (.ref a)] [(.ref a)])) rfl rfl (hb hby d14_1)
  refine Run.pre st133 ?_
  show Run p e below s _ _ _ (T133.setTop (mkF m 4 #[.val (.ref a)] [(.ref rr)]))
  exact Run.retA hK hS (by first | exact Nat.le_refl _ | (rw [e133]; exact (Nat.zero_le _))) X133 hx hret rfl rfl hlk (hb hby d14_4) (by first | (rw [e133]; exact ⟨rfl, N0, rfl⟩) | exact ⟨rfl, N0, rfl⟩) (by decide) (by decide)
theorem d7_0 : decode prog_14_method_3_code 0 = .ok (.new 8, 3) := by decide +kernel
theorem d7_3 : decode prog_14_method_3_code 3 = .ok (.dup, 1) := by decide +kernel
theorem d7_4 : decode prog_14_method_3_code 4 = .ok (.getstatic 21, 3) := by decide +kernel
theorem d7_7 : decode prog_14_method_3_code 7 = .ok (.aload_n 0, 1) := by decide +kernel
theorem pd_1 : parseMethodDescriptor "(Lcom/example/hyra/hyra/service/RefusedException$Reason;Ljava/lang/String;)V" = some ⟨[(.object "com/example/hyra/hyra/service/RefusedException$Reason"), (.object "java/lang/String")], none⟩ := by decide +kernel
theorem d7_8 : decode prog_14_method_3_code 8 = .ok (.invokespecial 18, 3) := by decide +kernel
theorem d7_11 : decode prog_14_method_3_code 11 = .ok (.areturn, 1) := by decide +kernel
theorem pn_7 : plainName "com/example/hyra/hyra/service/RefusedException" = true := by first | (simp [plainName, overriddenIn]; done) | decide +kernel
set_option maxRecDepth 65536 in
set_option maxHeartbeats 40000000 in
theorem rmMk (l : Launch) (Z : State) (a0 : Array Value) (hw : ∀ d ∈ tables_1, d.before a0 Z = true) (msg : Value) (su : Addr) (sn : Addr) (wc : Addr) (h0 : Heap) (n0 : Nat) (Z0 : n0 ≤ h0.size) (OL : Old Z n0 h0) (hl : l.stackTraces = true) (hmsg : msg.isRef = true) (SU : Sta Z Z.heap "java/lang/Throwable" "UNASSIGNED_STACK" "[Ljava/lang/StackTraceElement;" (.ref su)) (SN : Sta Z Z.heap "java/lang/Throwable" "SUPPRESSED_SENTINEL" "Ljava/util/List;" (.ref sn)) (SR : Sta Z Z.heap "com/example/hyra/hyra/service/RefusedException$Reason" "CONFLICT" "Lcom/example/hyra/hyra/service/RefusedException$Reason;" (.ref wc)) :
    Con l (⟨"com/example/hyra/hyra/service/RefusedException", "conflict", "(Ljava/lang/String;)Lcom/example/hyra/hyra/service/RefusedException;"⟩ : MethodName) prog_14_method_3_code 1 (some (.object "com/example/hyra/hyra/service/RefusedException")) ({ frames := 7, cells := 2, slots := 2759, locals := 96 } : Room) Z #[msg] h0 (fun _ => True) (fun v h L vm => ∃ o : Addr, v = some (.ref o) ∧ Fr n0 L ∧ Keep h0 h [] ∧ h0.size ≤ o ∧ Exa Z h o "com/example/hyra/hyra/service/RefusedException" ∧ Unt h o ∧ Fld Z h o "java/lang/Throwable" "detailMessage" "Ljava/lang/String;" msg ∧ Fld Z h o "java/lang/Throwable" "cause" "Ljava/lang/Throwable;" (.ref o) ∧ Fld Z h o "com/example/hyra/hyra/service/RefusedException" "reason" "Lcom/example/hyra/hyra/service/RefusedException$Reason;" (.ref wc)) := by
  refine Con.mk (plainFor_of_name pn_7) (fun m => show entryFrame m #[msg] 1 = mkF m 0 #[.val msg] [] by rcases ref_cases hmsg with hq | ⟨_, hq⟩ <;> subst hq <;> first | (simp [entryFrame, mkF, argsToLocals, Value.category]; done) | rfl) ?_
  intro p e s m below meth c s₁ vm0 hx hby hml hown hnm hret hlk hZ X0 e0 hS hs0 hP0 hK
  have N0 := Fr.nil n0
  show Run p e below s _ _ _ (s₁.setTop (mkF m 0 #[.val msg] []))
  obtain ⟨T134, h134, X134, e134, E134, A134, D134, U134, st134⟩ := newO X0 hx hZ hown (hw _ (List.mem_of_getElem? (i := 34) rfl)) (hw _ (List.mem_of_getElem? (i := 35) rfl)) (hw _ (List.mem_of_getElem? (i := 32) rfl)) e0 (g := (mkF m 0 #[.val msg] [])) rfl (hb hby d7_0) (by decide) (by decide)
  obtain ⟨b134, g134⟩ : ∃ z, z = h0.size := ⟨_, rfl⟩
  rw [← g134] at A134 D134 U134 st134
  refine Run.pre st134 ?_
  have U_b134 : Unt h134 b134 := U134
  have gn_b134 : n0 ≤ b134 := Nat.le_trans (Nat.le_trans Z0 (Keep.refl h0 []).1) (Nat.le_of_eq g134.symm)
  have sz_b134 : h0.size ≤ b134 := Nat.le_trans (Keep.refl h0 []).1 (Nat.le_of_eq g134.symm)
  have K134 : Keep h0 h134 [] := (Keep.refl h0 []).ext E134
  have F_cause_b134 : Fld Z h134 b134 "java/lang/Throwable" "cause" "Ljava/lang/Throwable;" .null := D134 (Or.inl (hw _ (List.mem_of_getElem? (i := 61) rfl))) (ty := (.object "java/lang/Throwable")) (by decide)
  have F_stackTrace_b134 : Fld Z h134 b134 "java/lang/Throwable" "stackTrace" "[Ljava/lang/StackTraceElement;" .null := D134 (Or.inl (hw _ (List.mem_of_getElem? (i := 64) rfl))) (ty := (.array (.object "java/lang/StackTraceElement"))) (by decide)
  have F_suppressedExceptions_b134 : Fld Z h134 b134 "java/lang/Throwable" "suppressedExceptions" "Ljava/util/List;" .null := D134 (Or.inl (hw _ (List.mem_of_getElem? (i := 67) rfl))) (ty := (.object "java/util/List")) (by decide)
  have F_detailMessage_b134 : Fld Z h134 b134 "java/lang/Throwable" "detailMessage" "Ljava/lang/String;" .null := D134 (Or.inl (hw _ (List.mem_of_getElem? (i := 91) rfl))) (ty := (.object "java/lang/String")) (by decide)
  have F_backtrace_b134 : Fld Z h134 b134 "java/lang/Throwable" "backtrace" "Ljava/lang/Object;" .null := D134 (Or.inl (hw _ (List.mem_of_getElem? (i := 92) rfl))) (ty := (.object "java/lang/Object")) (by decide)
  have F_depth_b134 : Fld Z h134 b134 "java/lang/Throwable" "depth" "I" (.int (0 : Int32)) := D134 (Or.inl (hw _ (List.mem_of_getElem? (i := 93) rfl))) (ty := .int) (by decide)
  have F_reason_b134 : Fld Z h134 b134 "com/example/hyra/hyra/service/RefusedException" "reason" "Lcom/example/hyra/hyra/service/RefusedException$Reason;" .null := D134 (Or.inr (hw _ (List.mem_of_getElem? (i := 97) rfl))) (ty := (.object "com/example/hyra/hyra/service/RefusedException$Reason")) (by decide)
  show Run p e below s _ _ _ (T134.setTop (mkF m 3 #[.val msg] [(.ref b134)]))
  refine Run.pre (fun _ k => XS.dup X134.here hx rfl (hb hby d7_3) rfl rfl k) ?_
  show Run p e below s _ _ _ (T134.setTop (mkF m 4 #[.val msg] [(.ref b134), (.ref b134)]))
  have f135 := (OL.ext E134)
  obtain ⟨T136, X136, e136, st136⟩ := getS2 X134 hx hZ hown (host := "") (Or.inl (hw _ (List.mem_of_getElem? (i := 36) rfl))) Via.refl e134 (SR.ext f135.2) (g := (mkF m 4 #[.val msg] [(.ref b134), (.ref b134)])) rfl (hb hby d7_4)
  refine Run.pre st136 ?_
  show Run p e below s _ _ _ (T136.setTop (mkF m 7 #[.val msg] [(.ref wc), (.ref b134), (.ref b134)]))
  refine Run.pre (fun _ k => XS.aloadN X136.here hx rfl (hb hby d7_7) rfl hmsg k) ?_
  show Run p e below s _ _ _ (T136.setTop (mkF m 8 #[.val msg] [msg, (.ref wc), (.ref b134), (.ref b134)]))
  refine Run.callI hK hS (by first | exact Nat.le_refl _ | (rw [e136]; exact (Nat.le_trans (Nat.zero_le _) E134.1))) X136 hx hZ (y := (⟨"com/example/hyra/hyra/service/RefusedException", "<init>", "(Lcom/example/hyra/hyra/service/RefusedException$Reason;Ljava/lang/String;)V"⟩ : MethodName)) rfl hown (hw _ (List.mem_of_getElem? (i := 39) rfl)) (hw _ (List.mem_of_getElem? (i := 40) rfl)) (hw _ (List.mem_of_getElem? (i := 41) rfl)) (hw _ (List.mem_of_getElem? (i := 32) rfl)) (by decide) (a := b134) (W := 1) (rmIn l Z a0 hw b134 msg su sn wc h134 n0 (Nat.le_trans Z0 K134.1) f135 hl hmsg SU SN A134 U_b134 gn_b134 F_cause_b134 F_stackTrace_b134 F_suppressedExceptions_b134 F_backtrace_b134 F_depth_b134 F_detailMessage_b134 F_reason_b134) e136 (by decide) (by decide) (by decide) (by decide) (fun _ _ => trivial) (g := (mkF m 8 #[.val msg] [msg, (.ref wc), (.ref b134), (.ref b134)])) rfl (by rw [hml]; rfl) (argsL := [(.ref wc), msg]) (rest := [(.ref b134)]) (lenOf pd_1 rfl) rfl (by show 2 * 0 + _ ≤ _; exact Nat.le_of_eq rfl) (hb hby d7_8) ?_
  intro v137 T137 L137 X137 hS hZ hown hV137 hQ137
  obtain ⟨rfl, Nq137, Kc137, ut137, fm137, fc137, fr137⟩ := hQ137
  have N137 := Fr.app N0 Nq137
  have K137 : Keep h0 T137.heap [] := K134.trans Kc137 (allS (Or.inr sz_b134) all0)
  show Run p e below s _ _ _ (T137.setTop (mkF m 11 #[.val msg] [(.ref b134)]))
  have f138 := (A134.keep Kc137)
  exact Run.retA hK hS (Nat.le_refl _) X137 hx hret rfl rfl hlk (hb hby d7_11) ⟨b134, rfl, N137, K137, sz_b134, f138, ut137, fm137, fc137, fr137⟩ (by decide) (by decide)
theorem d5_0 : decode jdk_42_method_151_code 0 = .ok (.aload_n 0, 1) := by decide +kernel
theorem d5_1 : decode jdk_42_method_151_code 1 = .ok (.invokespecial 1, 3) := by decide +kernel
theorem d5_4 : decode jdk_42_method_151_code 4 = .ok (.aload_n 0, 1) := by decide +kernel
theorem d5_5 : decode jdk_42_method_151_code 5 = .ok (.aload_n 1, 1) := by decide +kernel
theorem d5_6 : decode jdk_42_method_151_code 6 = .ok (.putfield 9, 3) := by decide +kernel
theorem d5_9 : decode jdk_42_method_151_code 9 = .ok (.aload_n 0, 1) := by decide +kernel
theorem d5_10 : decode jdk_42_method_151_code 10 = .ok (.iload_n 2, 1) := by decide +kernel
theorem d5_11 : decode jdk_42_method_151_code 11 = .ok (.putfield 15, 3) := by decide +kernel
theorem d5_14 : decode jdk_42_method_151_code 14 = .ok (.return_, 1) := by decide +kernel
theorem pn_5 : plainName "java/lang/String" = true := by first | (simp [plainName, overriddenIn]; done) | decide +kernel
set_option maxRecDepth 65536 in
set_option maxHeartbeats 40000000 in
theorem rmBB (l : Launch) (Z : State) (a0 : Array Value) (hw : ∀ d ∈ tables_1, d.before a0 Z = true) (a : Addr) (b : Addr) (h0 : Heap) (n0 : Nat) (Z0 : n0 ≤ h0.size) (E_a : Exa Z h0 a "java/lang/String") (FV : Fld Z h0 a "java/lang/String" "value" "[B" .null) (FCo : Fld Z h0 a "java/lang/String" "coder" "B" (.int 0)) (g_a : n0 ≤ a) :
    Con l (⟨"java/lang/String", "<init>", "([BB)V"⟩ : MethodName) jdk_42_method_151_code 3 none ({ frames := 1, cells := 0, slots := 0, locals := 12 } : Room) Z #[(.ref a), (.ref b), (.int (0 : Int32))] h0 (fun _ => True) (fun v h L vm => v = none ∧ Fr n0 L ∧ Keep h0 h [a]) := by
  refine Con.mk (plainFor_of_name pn_5) (fun m => show entryFrame m #[(.ref a), (.ref b), (.int (0 : Int32))] 3 = mkF m 0 #[.val (.ref a), .val (.ref b), .val (.int (0 : Int32))] [] by first | (simp [entryFrame, mkF, argsToLocals, Value.category]; done) | rfl) ?_
  intro p e s m below meth c s₁ vm0 hx hby hml hown hnm hret hlk hZ X0 e0 hS hs0 hP0 hK
  have N0 := Fr.nil n0
  show Run p e below s _ _ _ (s₁.setTop (mkF m 0 #[.val (.ref a), .val (.ref b), .val (.int (0 : Int32))] []))
  refine Run.pre (fun _ k => XS.aloadN X0.here hx rfl (hb hby d5_0) rfl rfl k) ?_
  show Run p e below s _ _ _ (s₁.setTop (mkF m 1 #[.val (.ref a), .val (.ref b), .val (.int (0 : Int32))] [(.ref a)]))
  obtain ⟨T139, X139, e139, st139⟩ := initO X0 hx hZ hown (hw _ (List.mem_of_getElem? (i := 23) rfl)) (hw _ (List.mem_of_getElem? (i := 24) rfl)) (hw _ (List.mem_of_getElem? (i := 25) rfl)) e0 (g := (mkF m 1 #[.val (.ref a), .val (.ref b), .val (.int (0 : Int32))] [(.ref a)])) rfl (by rw [hml]; rfl) rfl (hb hby d5_1) (by decide) (W := 0) (by show 2 * 0 + _ ≤ _; exact Nat.le_of_eq rfl) (by decide)
  refine Run.pre st139 ?_
  show Run p e below s _ _ _ (T139.setTop (mkF m 4 #[.val (.ref a), .val (.ref b), .val (.int (0 : Int32))] []))
  refine Run.pre (fun _ k => XS.aloadN X139.here hx rfl (hb hby d5_4) rfl rfl k) ?_
  show Run p e below s _ _ _ (T139.setTop (mkF m 5 #[.val (.ref a), .val (.ref b), .val (.int (0 : Int32))] [(.ref a)]))
  refine Run.pre (fun _ k => XS.aloadN X139.here hx rfl (hb hby d5_5) rfl rfl k) ?_
  show Run p e below s _ _ _ (T139.setTop (mkF m 6 #[.val (.ref a), .val (.ref b), .val (.int (0 : Int32))] [(.ref b), (.ref a)]))
  obtain ⟨T140, h140, X140, e140, W140, st140⟩ := putF X139 hx hZ hown (host := "") (Or.inl (hw _ (List.mem_of_getElem? (i := 26) rfl))) Via.refl e139 FV E_a (Or.inr ⟨(hw _ (List.mem_of_getElem? (i := 27) rfl)), rfl, hnm⟩) (hw _ (List.mem_of_getElem? (i := 14) rfl)) (ty := (.array .byte)) (by decide) rfl rfl (g := (mkF m 6 #[.val (.ref a), .val (.ref b), .val (.int (0 : Int32))] [(.ref b), (.ref a)])) rfl rfl (hb hby d5_6)
  refine Run.pre st140 ?_
  have Fw140 := FV.same W140
  have K140 : Keep h0 h140 [a] := (Keep.refl h0 [a]).wr W140 (Or.inl (by simp))
  have N140 := Fr.snoc X140 N0 g_a
  show Run p e below s _ _ _ (T140.setTop (mkF m 9 #[.val (.ref a), .val (.ref b), .val (.int (0 : Int32))] []))
  refine Run.pre (fun _ k => XS.aloadN X140.here hx rfl (hb hby d5_9) rfl rfl k) ?_
  show Run p e below s _ _ _ (T140.setTop (mkF m 10 #[.val (.ref a), .val (.ref b), .val (.int (0 : Int32))] [(.ref a)]))
  refine Run.pre (fun _ k => XS.iloadN X140.here hx rfl (hb hby d5_10) rfl  k) ?_
  show Run p e below s _ _ _ (T140.setTop (mkF m 11 #[.val (.ref a), .val (.ref b), .val (.int (0 : Int32))] [(.int (0 : Int32)), (.ref a)]))
  have f141 := (E_a.wr W140)
  have f142 := (FCo.other W140 (Or.inr (slot_ne (Or.inr (hw _ (List.mem_of_getElem? (i := 29) rfl))) (Or.inr (hw _ (List.mem_of_getElem? (i := 27) rfl))) (by decide) (t := .byte) (t' := (.array .byte)) (by decide) (by decide))))
  obtain ⟨T143, h143, X143, e143, W143, st143⟩ := putFN X140 hx hZ hown (hw _ (List.mem_of_getElem? (i := 28) rfl)) Via.refl e140 f142 f141 (Or.inr ⟨(hw _ (List.mem_of_getElem? (i := 29) rfl)), rfl, hnm⟩) (hw _ (List.mem_of_getElem? (i := 14) rfl)) (ty := .byte) (v' := (.int (nar .byte (0 : Int32)))) (by decide) rfl (fits_nar_byte _) (g := (mkF m 11 #[.val (.ref a), .val (.ref b), .val (.int (0 : Int32))] [(.int (0 : Int32)), (.ref a)])) rfl rfl (hb hby d5_11)
  refine Run.pre st143 ?_
  have Fw143 := f142.same W143
  have K143 : Keep h0 h143 [a] := K140.wr W143 (Or.inl (by simp))
  have N143 := Fr.snoc X143 N140 g_a
  show Run p e below s _ _ _ (T143.setTop (mkF m 14 #[.val (.ref a), .val (.ref b), .val (.int (0 : Int32))] []))
  exact Run.retV hK hS (by first | exact Nat.le_refl _ | (rw [e143]; exact (Nat.le_trans (Nat.le_trans (Nat.zero_le _) (Keep.of_wr W140).1) (Keep.of_wr W143).1))) X143 hx hret hlk (hb hby d5_14) (by first | (rw [e143]; exact ⟨rfl, N143, K143⟩) | exact ⟨rfl, N143, K143⟩) (by decide) (by decide)
theorem d3_0 : decode jdk_43_method_3_code 0 = .ok (.iload_n 0, 1) := by decide +kernel
theorem d3_1 : decode jdk_43_method_3_code 1 = .ok (.sipush 255, 3) := by decide +kernel
theorem d3_4 : decode jdk_43_method_3_code 4 = .ok (.if_icmp .gt 7, 3) := by decide +kernel
theorem d3_7 : decode jdk_43_method_3_code 7 = .ok (.iconst 1, 1) := by decide +kernel
theorem d3_8 : decode jdk_43_method_3_code 8 = .ok (.goto 4, 3) := by decide +kernel
theorem d3_12 : decode jdk_43_method_3_code 12 = .ok (.ireturn, 1) := by decide +kernel
theorem pn_3 : plainName "java/lang/StringLatin1" = true := by first | (simp [plainName, overriddenIn]; done) | decide +kernel
set_option maxRecDepth 65536 in
set_option maxHeartbeats 40000000 in
theorem rmCE (l : Launch) (Z : State) (a0 : Array Value) (hw : ∀ d ∈ tables_1, d.before a0 Z = true) (ch : Int32) (h0 : Heap) (n0 : Nat) (Z0 : n0 ≤ h0.size) (hq : ¬ (255 : Int32) < ch) :
    Con l (⟨"java/lang/StringLatin1", "canEncode", "(C)Z"⟩ : MethodName) jdk_43_method_3_code 1 (some .boolean) ({ frames := 0, cells := 0, slots := 0, locals := 0 } : Room) Z #[(.int ch)] h0 (fun _ => True) (fun v h L vm => v = some (.int 1) ∧ Fr n0 L ∧ h = h0) := by
  refine Con.mk (plainFor_of_name pn_3) (fun m => show entryFrame m #[(.int ch)] 1 = mkF m 0 #[.val (.int ch)] [] by first | (simp [entryFrame, mkF, argsToLocals, Value.category]; done) | rfl) ?_
  intro p e s m below meth c s₁ vm0 hx hby hml hown hnm hret hlk hZ X0 e0 hS hs0 hP0 hK
  have N0 := Fr.nil n0
  show Run p e below s _ _ _ (s₁.setTop (mkF m 0 #[.val (.int ch)] []))
  refine Run.pre (fun _ k => XS.iloadN X0.here hx rfl (hb hby d3_0) rfl  k) ?_
  show Run p e below s _ _ _ (s₁.setTop (mkF m 1 #[.val (.int ch)] [(.int ch)]))
  refine Run.pre (fun _ k => XS.sipush X0.here hx rfl (hb hby d3_1) k) ?_
  show Run p e below s _ _ _ (s₁.setTop (mkF m 4 #[.val (.int ch)] [(.int (255 : Int32)), (.int ch)]))
  refine Run.pre (fun _ k => XS.icmpNo X0.here hx rfl (hb hby d3_4) rfl (flt (hq : ¬ ((255 : Int32) < ch))).2.2.1 k) ?_
  show Run p e below s _ _ _ (s₁.setTop (mkF m 7 #[.val (.int ch)] []))
  refine Run.pre (fun _ k => XS.iconst X0.here hx rfl (hb hby d3_7) k) ?_
  show Run p e below s _ _ _ (s₁.setTop (mkF m 8 #[.val (.int ch)] [(.int (1 : Int32))]))
  refine Run.pre (fun _ k => XS.goto X0.here hx rfl (pc0 := 8) (pc' := 12) rfl (hb hby d3_8) (by decide) (by decide) k) ?_
  show Run p e below s _ _ _ (s₁.setTop (mkF m 12 #[.val (.int ch)] [(.int (1 : Int32))]))
  exact Run.retN hK hS (by first | exact Nat.le_refl _ | (rw [e0]; exact (Nat.zero_le _))) X0 hx hret (t := .boolean) (by simp) hlk (hb hby d3_12) (by first | (rw [e0]; exact ⟨rfl, N0, rfl⟩) | exact ⟨rfl, N0, rfl⟩) (by decide) (by decide)
theorem d4_0 : decode jdk_43_method_46_code 0 = .ok (.iconst 1, 1) := by decide +kernel
theorem d4_1 : decode jdk_43_method_46_code 1 = .ok (.newarray .byte, 2) := by decide +kernel
theorem d4_3 : decode jdk_43_method_46_code 3 = .ok (.dup, 1) := by decide +kernel
theorem d4_4 : decode jdk_43_method_46_code 4 = .ok (.iconst 0, 1) := by decide +kernel
theorem d4_5 : decode jdk_43_method_46_code 5 = .ok (.iload_n 0, 1) := by decide +kernel
theorem d4_6 : decode jdk_43_method_46_code 6 = .ok (.i2b, 1) := by decide +kernel
theorem d4_7 : decode jdk_43_method_46_code 7 = .ok (.bastore, 1) := by decide +kernel
theorem d4_8 : decode jdk_43_method_46_code 8 = .ok (.areturn, 1) := by decide +kernel
theorem pn_4 : plainName "java/lang/StringLatin1" = true := by first | (simp [plainName, overriddenIn]; done) | decide +kernel
set_option maxRecDepth 65536 in
set_option maxHeartbeats 40000000 in
theorem rmTB (l : Launch) (Z : State) (a0 : Array Value) (hw : ∀ d ∈ tables_1, d.before a0 Z = true) (ch : Int32) (h0 : Heap) (n0 : Nat) (Z0 : n0 ≤ h0.size) :
    Con l (⟨"java/lang/StringLatin1", "toBytes", "(C)[B"⟩ : MethodName) jdk_43_method_46_code 1 (some (.array .byte)) ({ frames := 0, cells := 1, slots := 1, locals := 0 } : Room) Z #[(.int ch)] h0 (fun _ => True) (fun v h L vm => ∃ o : Addr, v = some (.ref o) ∧ Fr n0 L ∧ Keep h0 h [] ∧ h0.size ≤ o) := by
  refine Con.mk (plainFor_of_name pn_4) (fun m => show entryFrame m #[(.int ch)] 1 = mkF m 0 #[.val (.int ch)] [] by first | (simp [entryFrame, mkF, argsToLocals, Value.category]; done) | rfl) ?_
  intro p e s m below meth c s₁ vm0 hx hby hml hown hnm hret hlk hZ X0 e0 hS hs0 hP0 hK
  have N0 := Fr.nil n0
  show Run p e below s _ _ _ (s₁.setTop (mkF m 0 #[.val (.int ch)] []))
  refine Run.pre (fun _ k => XS.iconst X0.here hx rfl (hb hby d4_0) k) ?_
  show Run p e below s _ _ _ (s₁.setTop (mkF m 1 #[.val (.int ch)] [(.int (1 : Int32))]))
  obtain ⟨T144, h144, k144, X144, e144, E144, A144, st144⟩ := newP X0 hx hZ (hw _ (List.mem_of_getElem? (i := 18) rfl)) e0 (g := (mkF m 1 #[.val (.int ch)] [(.int (1 : Int32))])) rfl (hb hby d4_1) rfl (by decide) (cap := 1) (by decide) (by decide) (by decide) (by decide)
  obtain ⟨b144, g144⟩ : ∃ z, z = h0.size := ⟨_, rfl⟩
  rw [← g144] at A144 st144
  refine Run.pre st144 ?_
  have V_b144 : Arv Z h144 b144 k144 .byte (1 : Int32) [(.int (0 : Int32))] (.int (0 : Int32)) := (Arv.new A144 (by decide)).pad (pad_rep [] (.int (0 : Int32)) 1)
  have gn_b144 : n0 ≤ b144 := Nat.le_trans (Nat.le_trans Z0 (Keep.refl h0 []).1) (Nat.le_of_eq g144.symm)
  have sz_b144 : h0.size ≤ b144 := Nat.le_trans (Keep.refl h0 []).1 (Nat.le_of_eq g144.symm)
  have K144 : Keep h0 h144 [] := (Keep.refl h0 []).ext E144
  show Run p e below s _ _ _ (T144.setTop (mkF m 3 #[.val (.int ch)] [(.ref b144)]))
  refine Run.pre (fun _ k => XS.dup X144.here hx rfl (hb hby d4_3) rfl rfl k) ?_
  show Run p e below s _ _ _ (T144.setTop (mkF m 4 #[.val (.int ch)] [(.ref b144), (.ref b144)]))
  refine Run.pre (fun _ k => XS.iconst X144.here hx rfl (hb hby d4_4) k) ?_
  show Run p e below s _ _ _ (T144.setTop (mkF m 5 #[.val (.int ch)] [(.int (0 : Int32)), (.ref b144), (.ref b144)]))
  refine Run.pre (fun _ k => XS.iloadN X144.here hx rfl (hb hby d4_5) rfl  k) ?_
  show Run p e below s _ _ _ (T144.setTop (mkF m 6 #[.val (.int ch)] [(.int ch), (.int (0 : Int32)), (.ref b144), (.ref b144)]))
  refine Run.pre (fun _ k => XS.i2b X144.here hx rfl (hb hby d4_6) rfl k) ?_
  show Run p e below s _ _ _ (T144.setTop (mkF m 7 #[.val (.int ch)] [(.int (ch.toInt8.toInt32)), (.int (0 : Int32)), (.ref b144), (.ref b144)]))
  obtain ⟨c145, Ar145, q145, S145, N145, H145, G145⟩ := id V_b144
  have hin145 : ¬ ((0 : Int32) < 0 ∨ c145.slots.size ≤ ((0 : Int32)).toNatClampNeg) := inb_of S145 ⟨by decide, by decide⟩
  obtain ⟨T146, h146, X146, e146, W146, st146⟩ := stB X144 hx hZ e144 Ar145 (j := (0 : Int32)) hin145 (g := (mkF m 7 #[.val (.int ch)] [(.int (ch.toInt8.toInt32)), (.int (0 : Int32)), (.ref b144), (.ref b144)])) rfl rfl (hb hby d4_7)
  refine Run.pre st146 ?_
  have V_b144_146 : Arv Z h146 b144 k144 .byte (1 : Int32) [(.int (nar .byte (ch.toInt8.toInt32)))] (.int (0 : Int32)) := Arv.set Ar145 q145 S145 N145 H145 G145 (fits_nar_byte _) W146 0 rfl (Nat.le_of_ble_eq_true rfl)
  have K146 : Keep h0 h146 [] := K144.wr W146 (Or.inr sz_b144)
  have N146 := Fr.snoc X146 N0 gn_b144
  show Run p e below s _ _ _ (T146.setTop (mkF m 8 #[.val (.int ch)] [(.ref b144)]))
  exact Run.retA hK hS (by first | exact Nat.le_refl _ | (rw [e146]; exact (Nat.le_trans (Nat.le_trans (Nat.zero_le _) E144.1) (Keep.of_wr W146).1))) X146 hx hret rfl rfl hlk (hb hby d4_8) (by first | (rw [e146]; exact ⟨b144, rfl, N146, K146, sz_b144⟩) | exact ⟨b144, rfl, N146, K146, sz_b144⟩) (by decide) (by decide)
theorem d2_0 : decode jdk_42_method_139_code 0 = .ok (.getstatic 38, 3) := by decide +kernel
theorem d2_3 : decode jdk_42_method_139_code 3 = .ok (.ifCond .eq 23, 3) := by decide +kernel
theorem d2_6 : decode jdk_42_method_139_code 6 = .ok (.iload_n 0, 1) := by decide +kernel
theorem pd_2 : parseMethodDescriptor "(C)Z" = some ⟨[.char], some .boolean⟩ := by decide +kernel
theorem d2_7 : decode jdk_42_method_139_code 7 = .ok (.invokestatic 1015, 3) := by decide +kernel
theorem d2_10 : decode jdk_42_method_139_code 10 = .ok (.ifCond .eq 16, 3) := by decide +kernel
theorem d2_13 : decode jdk_42_method_139_code 13 = .ok (.new 10, 3) := by decide +kernel
theorem d2_16 : decode jdk_42_method_139_code 16 = .ok (.dup, 1) := by decide +kernel
theorem d2_17 : decode jdk_42_method_139_code 17 = .ok (.iload_n 0, 1) := by decide +kernel
theorem pd_3 : parseMethodDescriptor "(C)[B" = some ⟨[.char], some (.array .byte)⟩ := by decide +kernel
theorem d2_18 : decode jdk_42_method_139_code 18 = .ok (.invokestatic 1018, 3) := by decide +kernel
theorem d2_21 : decode jdk_42_method_139_code 21 = .ok (.iconst 0, 1) := by decide +kernel
theorem pd_4 : parseMethodDescriptor "([BB)V" = some ⟨[(.array .byte), .byte], none⟩ := by decide +kernel
theorem d2_22 : decode jdk_42_method_139_code 22 = .ok (.invokespecial 209, 3) := by decide +kernel
theorem d2_25 : decode jdk_42_method_139_code 25 = .ok (.areturn, 1) := by decide +kernel
theorem pn_2 : plainName "java/lang/String" = true := by first | (simp [plainName, overriddenIn]; done) | decide +kernel
set_option maxRecDepth 65536 in
set_option maxHeartbeats 40000000 in
theorem rmVo (l : Launch) (Z : State) (a0 : Array Value) (hw : ∀ d ∈ tables_1, d.before a0 Z = true) (ch : Int32) (cs : Int32) (h0 : Heap) (n0 : Nat) (Z0 : n0 ≤ h0.size) (OL : Old Z n0 h0) (SC : Sta Z Z.heap "java/lang/String" "COMPACT_STRINGS" "Z" (.int cs)) (hcs : ¬ cs = 0) (hq : ¬ (255 : Int32) < ch) :
    Con l (⟨"java/lang/String", "valueOf", "(C)Ljava/lang/String;"⟩ : MethodName) jdk_42_method_139_code 1 (some (.object "java/lang/String")) ({ frames := 2, cells := 2, slots := 5, locals := 27 } : Room) Z #[(.int ch)] h0 (fun _ => True) (fun v h L vm => ∃ o : Addr, v = some (.ref o) ∧ Fr n0 L ∧ Keep h0 h []) := by
  refine Con.mk (plainFor_of_name pn_2) (fun m => show entryFrame m #[(.int ch)] 1 = mkF m 0 #[.val (.int ch)] [] by first | (simp [entryFrame, mkF, argsToLocals, Value.category]; done) | rfl) ?_
  intro p e s m below meth c s₁ vm0 hx hby hml hown hnm hret hlk hZ X0 e0 hS hs0 hP0 hK
  have N0 := Fr.nil n0
  show Run p e below s _ _ _ (s₁.setTop (mkF m 0 #[.val (.int ch)] []))
  obtain ⟨T147, X147, e147, st147⟩ := getS2 X0 hx hZ hown (host := "") (Or.inl (hw _ (List.mem_of_getElem? (i := 8) rfl))) Via.refl e0 (SC.ext OL.2) (g := (mkF m 0 #[.val (.int ch)] [])) rfl (hb hby d2_0)
  refine Run.pre st147 ?_
  show Run p e below s _ _ _ (T147.setTop (mkF m 3 #[.val (.int ch)] [(.int cs)]))
  refine Run.pre (fun _ k => XS.ifNo X147.here hx rfl (hb hby d2_3) rfl ((if0 _ _).trans (feq (hcs : ¬ (cs = (0 : Int32)))).1) k) ?_
  show Run p e below s _ _ _ (T147.setTop (mkF m 6 #[.val (.int ch)] []))
  refine Run.pre (fun _ k => XS.iloadN X147.here hx rfl (hb hby d2_6) rfl  k) ?_
  show Run p e below s _ _ _ (T147.setTop (mkF m 7 #[.val (.int ch)] [(.int ch)]))
  refine Run.callS hK hS (by first | exact Nat.le_refl _ | (rw [e147]; exact (Nat.zero_le _))) X147 hx hZ (y := (⟨"java/lang/StringLatin1", "canEncode", "(C)Z"⟩ : MethodName)) hown (hw _ (List.mem_of_getElem? (i := 9) rfl)) (hw _ (List.mem_of_getElem? (i := 10) rfl)) (hw _ (List.mem_of_getElem? (i := 11) rfl)) (hw _ (List.mem_of_getElem? (i := 12) rfl)) (by decide) (W := 0) (rmCE l Z a0 hw ch h0 n0 (Nat.le_trans Z0 (Keep.refl h0 []).1) hq) e147 (by decide) (by decide) (by decide) (by decide) (fun _ _ => trivial) (g := (mkF m 7 #[.val (.int ch)] [(.int ch)])) rfl (by rw [hml]; rfl) (argsL := [(.int ch)]) (rest := []) (lenOf pd_2 rfl) rfl (by show 2 * 0 + _ ≤ _; exact Nat.le_of_eq rfl) (hb hby d2_7) ?_
  intro v148 T148 L148 X148 hS hZ hown hV148 hQ148
  obtain ⟨rfl, Nq148, he148⟩ := hQ148
  have N148 := Fr.app N0 Nq148
  have e148 : T148.heap = h0 := he148
  show Run p e below s _ _ _ (T148.setTop (mkF m 10 #[.val (.int ch)] [(.int (1 : Int32))]))
  refine Run.pre (fun _ k => XS.ifNo X148.here hx rfl (hb hby d2_10) rfl ((if0 _ _).trans (feq ((by decide) : ¬ ((1 : Int32) = (0 : Int32)))).1) k) ?_
  show Run p e below s _ _ _ (T148.setTop (mkF m 13 #[.val (.int ch)] []))
  obtain ⟨T149, h149, X149, e149, E149, A149, D149, U149, st149⟩ := newO X148 hx hZ hown (hw _ (List.mem_of_getElem? (i := 13) rfl)) (hw _ (List.mem_of_getElem? (i := 14) rfl)) (hw _ (List.mem_of_getElem? (i := 6) rfl)) e148 (g := (mkF m 13 #[.val (.int ch)] [])) rfl (hb hby d2_13) (by decide) (by decide)
  obtain ⟨b149, g149⟩ : ∃ z, z = h0.size := ⟨_, rfl⟩
  rw [← g149] at A149 D149 U149 st149
  refine Run.pre st149 ?_
  have U_b149 : Unt h149 b149 := U149
  have gn_b149 : n0 ≤ b149 := Nat.le_trans (Nat.le_trans Z0 (Keep.refl h0 []).1) (Nat.le_of_eq g149.symm)
  have sz_b149 : h0.size ≤ b149 := Nat.le_trans (Keep.refl h0 []).1 (Nat.le_of_eq g149.symm)
  have K149 : Keep h0 h149 [] := (Keep.refl h0 []).ext E149
  have F_value_b149 : Fld Z h149 b149 "java/lang/String" "value" "[B" .null := D149 (Or.inr (hw _ (List.mem_of_getElem? (i := 27) rfl))) (ty := (.array .byte)) (by decide)
  have F_coder_b149 : Fld Z h149 b149 "java/lang/String" "coder" "B" (.int (0 : Int32)) := D149 (Or.inr (hw _ (List.mem_of_getElem? (i := 29) rfl))) (ty := .byte) (by decide)
  show Run p e below s _ _ _ (T149.setTop (mkF m 16 #[.val (.int ch)] [(.ref b149)]))
  refine Run.pre (fun _ k => XS.dup X149.here hx rfl (hb hby d2_16) rfl rfl k) ?_
  show Run p e below s _ _ _ (T149.setTop (mkF m 17 #[.val (.int ch)] [(.ref b149), (.ref b149)]))
  refine Run.pre (fun _ k => XS.iloadN X149.here hx rfl (hb hby d2_17) rfl  k) ?_
  show Run p e below s _ _ _ (T149.setTop (mkF m 18 #[.val (.int ch)] [(.int ch), (.ref b149), (.ref b149)]))
  refine Run.callS hK hS (by first | exact Nat.le_refl _ | (rw [e149]; exact (Nat.le_trans (Nat.le_of_eq (congrArg Array.size e148)) E149.1))) X149 hx hZ (y := (⟨"java/lang/StringLatin1", "toBytes", "(C)[B"⟩ : MethodName)) hown (hw _ (List.mem_of_getElem? (i := 15) rfl)) (hw _ (List.mem_of_getElem? (i := 16) rfl)) (hw _ (List.mem_of_getElem? (i := 11) rfl)) (hw _ (List.mem_of_getElem? (i := 17) rfl)) (by decide) (W := 2) (rmTB l Z a0 hw ch h149 n0 (Nat.le_trans Z0 K149.1)) e149 (by decide) (by decide) (by decide) (by decide) (fun _ _ => trivial) (g := (mkF m 18 #[.val (.int ch)] [(.int ch), (.ref b149), (.ref b149)])) rfl (by rw [hml]; rfl) (argsL := [(.int ch)]) (rest := [(.ref b149), (.ref b149)]) (lenOf pd_3 rfl) rfl (by show 2 * 0 + _ ≤ _; exact Nat.le_of_eq rfl) (hb hby d2_18) ?_
  intro v150 T150 L150 X150 hS hZ hown hV150 hQ150
  obtain ⟨o150, rfl, Nq150, Kc150, sz150⟩ := hQ150
  have N150 := Fr.app N148 Nq150
  have K150 : Keep h0 T150.heap [] := K149.trans Kc150 all0
  have sz_o150 : h0.size ≤ o150 := Nat.le_trans K149.1 sz150
  have gn_o150 : n0 ≤ o150 := Nat.le_trans Z0 sz_o150
  show Run p e below s _ _ _ (T150.setTop (mkF m 21 #[.val (.int ch)] [(.ref o150), (.ref b149), (.ref b149)]))
  refine Run.pre (fun _ k => XS.iconst X150.here hx rfl (hb hby d2_21) k) ?_
  show Run p e below s _ _ _ (T150.setTop (mkF m 22 #[.val (.int ch)] [(.int (0 : Int32)), (.ref o150), (.ref b149), (.ref b149)]))
  have f151 := (A149.keep Kc150)
  have f152 := (F_value_b149.keep Kc150 nin0)
  have f153 := (F_coder_b149.keep Kc150 nin0)
  refine Run.callI hK hS (Nat.le_refl _) X150 hx hZ (y := (⟨"java/lang/String", "<init>", "([BB)V"⟩ : MethodName)) rfl hown (hw _ (List.mem_of_getElem? (i := 19) rfl)) (hw _ (List.mem_of_getElem? (i := 20) rfl)) (hw _ (List.mem_of_getElem? (i := 22) rfl)) (hw _ (List.mem_of_getElem? (i := 6) rfl)) (by decide) (a := b149) (W := 1) (rmBB l Z a0 hw b149 o150 T150.heap n0 (Nat.le_trans Z0 K150.1) f151 f152 f153 gn_b149) rfl (by decide) (by decide) (by decide) (by decide) (fun _ _ => trivial) (g := (mkF m 22 #[.val (.int ch)] [(.int (0 : Int32)), (.ref o150), (.ref b149), (.ref b149)])) rfl (by rw [hml]; rfl) (argsL := [(.ref o150), (.int (0 : Int32))]) (rest := [(.ref b149)]) (lenOf pd_4 rfl) rfl (by show 2 * 0 + _ ≤ _; exact Nat.le_of_eq rfl) (hb hby d2_22) ?_
  intro v154 T154 L154 X154 hS hZ hown hV154 hQ154
  obtain ⟨rfl, Nq154, Kc154⟩ := hQ154
  have N154 := Fr.app N150 Nq154
  have K154 : Keep h0 T154.heap [] := K150.trans Kc154 (allS (Or.inr sz_b149) all0)
  show Run p e below s _ _ _ (T154.setTop (mkF m 25 #[.val (.int ch)] [(.ref b149)]))
  exact Run.retA hK hS (Nat.le_refl _) X154 hx hret rfl rfl hlk (hb hby d2_25) ⟨b149, rfl, N154, K154⟩ (by decide) (by decide)
theorem d18_0 : decode jdk_52_method_21_code 0 = .ok (.iconst 0, 1) := by decide +kernel
theorem d18_1 : decode jdk_52_method_21_code 1 = .ok (.istore 5, 2) := by decide +kernel
theorem d18_3 : decode jdk_52_method_21_code 3 = .ok (.iload 5, 2) := by decide +kernel
theorem d18_5 : decode jdk_52_method_21_code 5 = .ok (.iload 4, 2) := by decide +kernel
theorem d18_7 : decode jdk_52_method_21_code 7 = .ok (.if_icmp .ge 37, 3) := by decide +kernel
theorem d18_10 : decode jdk_52_method_21_code 10 = .ok (.aload_n 0, 1) := by decide +kernel
theorem d18_11 : decode jdk_52_method_21_code 11 = .ok (.iload_n 1, 1) := by decide +kernel
theorem d18_12 : decode jdk_52_method_21_code 12 = .ok (.caload, 1) := by decide +kernel
theorem d18_13 : decode jdk_52_method_21_code 13 = .ok (.istore 6, 2) := by decide +kernel
theorem d18_15 : decode jdk_52_method_21_code 15 = .ok (.iload 6, 2) := by decide +kernel
theorem d18_17 : decode jdk_52_method_21_code 17 = .ok (.sipush 255, 3) := by decide +kernel
theorem d18_20 : decode jdk_52_method_21_code 20 = .ok (.if_icmp .le 6, 3) := by decide +kernel
theorem d18_26 : decode jdk_52_method_21_code 26 = .ok (.aload_n 2, 1) := by decide +kernel
theorem d18_27 : decode jdk_52_method_21_code 27 = .ok (.iload_n 3, 1) := by decide +kernel
theorem d18_28 : decode jdk_52_method_21_code 28 = .ok (.iload 6, 2) := by decide +kernel
theorem d18_30 : decode jdk_52_method_21_code 30 = .ok (.i2b, 1) := by decide +kernel
theorem d18_31 : decode jdk_52_method_21_code 31 = .ok (.bastore, 1) := by decide +kernel
theorem d18_32 : decode jdk_52_method_21_code 32 = .ok (.iinc 1 1, 3) := by decide +kernel
theorem d18_35 : decode jdk_52_method_21_code 35 = .ok (.iinc 3 1, 3) := by decide +kernel
theorem d18_38 : decode jdk_52_method_21_code 38 = .ok (.iinc 5 1, 3) := by decide +kernel
theorem d18_41 : decode jdk_52_method_21_code 41 = .ok (.goto (-38), 3) := by decide +kernel
theorem d18_44 : decode jdk_52_method_21_code 44 = .ok (.iload 4, 2) := by decide +kernel
theorem d18_46 : decode jdk_52_method_21_code 46 = .ok (.ireturn, 1) := by decide +kernel
theorem pn_18 : plainName "java/lang/StringUTF16" = true := by first | (simp [plainName, overriddenIn]; done) | decide +kernel
set_option maxRecDepth 65536 in
set_option maxHeartbeats 40000000 in
theorem rmC2_2 (l : Launch) (Z : State) (a0 : Array Value) (hw : ∀ d ∈ tables_1, d.before a0 Z = true) (ar : Addr) (ds : Addr) (kc : ClassId) (kb : ClassId) (c0 : Int32) (c1 : Int32) (h0 : Heap) (n0 : Nat) (Z0 : n0 ≤ h0.size) (AC : Arv Z h0 ar kc .char 2 [(.int c0), (.int c1)] (.int 0)) (AB : Arv Z h0 ds kb .byte 2 [(.int (0 : Int32)), (.int (0 : Int32))] (.int 0)) (nad : ar ≠ ds) (g_ds : n0 ≤ ds) (q0 : ¬ (255 : Int32) < c0) (q1 : ¬ (255 : Int32) < c1) :
    Con l (⟨"java/lang/StringUTF16", "compress", "([CI[BII)I"⟩ : MethodName) jdk_52_method_21_code 7 (some .int) ({ frames := 0, cells := 0, slots := 0, locals := 0 } : Room) Z #[(.ref ar), (.int (0 : Int32)), (.ref ds), (.int (0 : Int32)), (.int (2 : Int32))] h0 (fun _ => True) (fun v h L vm => v = some (.int 2) ∧ Fr n0 L ∧ Keep h0 h [ds] ∧ Arv Z h ds kb .byte 2 [(.int (nar .byte (c0.toInt8.toInt32))), (.int (nar .byte (c1.toInt8.toInt32)))] (.int 0)) := by
  refine Con.mk (plainFor_of_name pn_18) (fun m => show entryFrame m #[(.ref ar), (.int (0 : Int32)), (.ref ds), (.int (0 : Int32)), (.int (2 : Int32))] 7 = mkF m 0 #[.val (.ref ar), .val (.int (0 : Int32)), .val (.ref ds), .val (.int (0 : Int32)), .val (.int (2 : Int32)), .unset, .unset] [] by first | (simp [entryFrame, mkF, argsToLocals, Value.category]; done) | rfl) ?_
  intro p e s m below meth c s₁ vm0 hx hby hml hown hnm hret hlk hZ X0 e0 hS hs0 hP0 hK
  have N0 := Fr.nil n0
  show Run p e below s _ _ _ (s₁.setTop (mkF m 0 #[.val (.ref ar), .val (.int (0 : Int32)), .val (.ref ds), .val (.int (0 : Int32)), .val (.int (2 : Int32)), .unset, .unset] []))
  refine Run.pre (fun _ k => XS.iconst X0.here hx rfl (hb hby d18_0) k) ?_
  show Run p e below s _ _ _ (s₁.setTop (mkF m 1 #[.val (.ref ar), .val (.int (0 : Int32)), .val (.ref ds), .val (.int (0 : Int32)), .val (.int (2 : Int32)), .unset, .unset] [(.int (0 : Int32))]))
  refine Run.pre (fun _ k => XS.istore X0.here hx rfl (hb hby d18_1) rfl (l' := #[.val (.ref ar), .val (.int (0 : Int32)), .val (.ref ds), .val (.int (0 : Int32)), .val (.int (2 : Int32)), .val (.int (0 : Int32)), .unset]) rfl k) ?_
  show Run p e below s _ _ _ (s₁.setTop (mkF m 3 #[.val (.ref ar), .val (.int (0 : Int32)), .val (.ref ds), .val (.int (0 : Int32)), .val (.int (2 : Int32)), .val (.int (0 : Int32)), .unset] []))
  refine Run.pre (fun _ k => XS.iload X0.here hx rfl (hb hby d18_3) rfl  k) ?_
  show Run p e below s _ _ _ (s₁.setTop (mkF m 5 #[.val (.ref ar), .val (.int (0 : Int32)), .val (.ref ds), .val (.int (0 : Int32)), .val (.int (2 : Int32)), .val (.int (0 : Int32)), .unset] [(.int (0 : Int32))]))
  refine Run.pre (fun _ k => XS.iload X0.here hx rfl (hb hby d18_5) rfl  k) ?_
  show Run p e below s _ _ _ (s₁.setTop (mkF m 7 #[.val (.ref ar), .val (.int (0 : Int32)), .val (.ref ds), .val (.int (0 : Int32)), .val (.int (2 : Int32)), .val (.int (0 : Int32)), .unset] [(.int (2 : Int32)), (.int (0 : Int32))]))
  refine Run.pre (fun _ k => XS.icmpNo X0.here hx rfl (hb hby d18_7) rfl (tlt ((by decide) : (0 : Int32) < (2 : Int32))).2.1 k) ?_
  show Run p e below s _ _ _ (s₁.setTop (mkF m 10 #[.val (.ref ar), .val (.int (0 : Int32)), .val (.ref ds), .val (.int (0 : Int32)), .val (.int (2 : Int32)), .val (.int (0 : Int32)), .unset] []))
  refine Run.pre (fun _ k => XS.aloadN X0.here hx rfl (hb hby d18_10) rfl rfl k) ?_
  show Run p e below s _ _ _ (s₁.setTop (mkF m 11 #[.val (.ref ar), .val (.int (0 : Int32)), .val (.ref ds), .val (.int (0 : Int32)), .val (.int (2 : Int32)), .val (.int (0 : Int32)), .unset] [(.ref ar)]))
  refine Run.pre (fun _ k => XS.iloadN X0.here hx rfl (hb hby d18_11) rfl  k) ?_
  show Run p e below s _ _ _ (s₁.setTop (mkF m 12 #[.val (.ref ar), .val (.int (0 : Int32)), .val (.ref ds), .val (.int (0 : Int32)), .val (.int (2 : Int32)), .val (.int (0 : Int32)), .unset] [(.int (0 : Int32)), (.ref ar)]))
  obtain ⟨c155, Ar155, -, S155, N155, H155, -⟩ := id AC
  have hin155 : ¬ ((0 : Int32) < 0 ∨ c155.slots.size ≤ ((0 : Int32)).toNatClampNeg) := inb_of S155 ⟨by decide, by decide⟩
  refine Run.pre (X0.caload hx (j := (0 : Int32)) (v := (.int c0)) (by rw [e0]; exact Ar155.1) (State.isArrayOf_alike hZ.alike Ar155.2.1) Ar155.2.2 hin155 (H155.at hin155 rfl) (g := (mkF m 12 #[.val (.ref ar), .val (.int (0 : Int32)), .val (.ref ds), .val (.int (0 : Int32)), .val (.int (2 : Int32)), .val (.int (0 : Int32)), .unset] [(.int (0 : Int32)), (.ref ar)])) rfl rfl (hb hby d18_12)) ?_
  show Run p e below s _ _ _ (s₁.setTop (mkF m 13 #[.val (.ref ar), .val (.int (0 : Int32)), .val (.ref ds), .val (.int (0 : Int32)), .val (.int (2 : Int32)), .val (.int (0 : Int32)), .unset] [(.int c0)]))
  refine Run.pre (fun _ k => XS.istore X0.here hx rfl (hb hby d18_13) rfl (l' := #[.val (.ref ar), .val (.int (0 : Int32)), .val (.ref ds), .val (.int (0 : Int32)), .val (.int (2 : Int32)), .val (.int (0 : Int32)), .val (.int c0)]) rfl k) ?_
  show Run p e below s _ _ _ (s₁.setTop (mkF m 15 #[.val (.ref ar), .val (.int (0 : Int32)), .val (.ref ds), .val (.int (0 : Int32)), .val (.int (2 : Int32)), .val (.int (0 : Int32)), .val (.int c0)] []))
  refine Run.pre (fun _ k => XS.iload X0.here hx rfl (hb hby d18_15) rfl  k) ?_
  show Run p e below s _ _ _ (s₁.setTop (mkF m 17 #[.val (.ref ar), .val (.int (0 : Int32)), .val (.ref ds), .val (.int (0 : Int32)), .val (.int (2 : Int32)), .val (.int (0 : Int32)), .val (.int c0)] [(.int c0)]))
  refine Run.pre (fun _ k => XS.sipush X0.here hx rfl (hb hby d18_17) k) ?_
  show Run p e below s _ _ _ (s₁.setTop (mkF m 20 #[.val (.ref ar), .val (.int (0 : Int32)), .val (.ref ds), .val (.int (0 : Int32)), .val (.int (2 : Int32)), .val (.int (0 : Int32)), .val (.int c0)] [(.int (255 : Int32)), (.int c0)]))
  refine Run.pre (fun _ k => XS.icmpYes X0.here hx rfl (pc0 := 20) (pc' := 26) rfl (hb hby d18_20) rfl (flt (q0 : ¬ ((255 : Int32) < c0))).2.2.2 (by decide) (by decide) k) ?_
  show Run p e below s _ _ _ (s₁.setTop (mkF m 26 #[.val (.ref ar), .val (.int (0 : Int32)), .val (.ref ds), .val (.int (0 : Int32)), .val (.int (2 : Int32)), .val (.int (0 : Int32)), .val (.int c0)] []))
  refine Run.pre (fun _ k => XS.aloadN X0.here hx rfl (hb hby d18_26) rfl rfl k) ?_
  show Run p e below s _ _ _ (s₁.setTop (mkF m 27 #[.val (.ref ar), .val (.int (0 : Int32)), .val (.ref ds), .val (.int (0 : Int32)), .val (.int (2 : Int32)), .val (.int (0 : Int32)), .val (.int c0)] [(.ref ds)]))
  refine Run.pre (fun _ k => XS.iloadN X0.here hx rfl (hb hby d18_27) rfl  k) ?_
  show Run p e below s _ _ _ (s₁.setTop (mkF m 28 #[.val (.ref ar), .val (.int (0 : Int32)), .val (.ref ds), .val (.int (0 : Int32)), .val (.int (2 : Int32)), .val (.int (0 : Int32)), .val (.int c0)] [(.int (0 : Int32)), (.ref ds)]))
  refine Run.pre (fun _ k => XS.iload X0.here hx rfl (hb hby d18_28) rfl  k) ?_
  show Run p e below s _ _ _ (s₁.setTop (mkF m 30 #[.val (.ref ar), .val (.int (0 : Int32)), .val (.ref ds), .val (.int (0 : Int32)), .val (.int (2 : Int32)), .val (.int (0 : Int32)), .val (.int c0)] [(.int c0), (.int (0 : Int32)), (.ref ds)]))
  refine Run.pre (fun _ k => XS.i2b X0.here hx rfl (hb hby d18_30) rfl k) ?_
  show Run p e below s _ _ _ (s₁.setTop (mkF m 31 #[.val (.ref ar), .val (.int (0 : Int32)), .val (.ref ds), .val (.int (0 : Int32)), .val (.int (2 : Int32)), .val (.int (0 : Int32)), .val (.int c0)] [(.int (c0.toInt8.toInt32)), (.int (0 : Int32)), (.ref ds)]))
  obtain ⟨c156, Ar156, q156, S156, N156, H156, G156⟩ := id AB
  have hin156 : ¬ ((0 : Int32) < 0 ∨ c156.slots.size ≤ ((0 : Int32)).toNatClampNeg) := inb_of S156 ⟨by decide, by decide⟩
  obtain ⟨T157, h157, X157, e157, W157, st157⟩ := stB X0 hx hZ e0 Ar156 (j := (0 : Int32)) hin156 (g := (mkF m 31 #[.val (.ref ar), .val (.int (0 : Int32)), .val (.ref ds), .val (.int (0 : Int32)), .val (.int (2 : Int32)), .val (.int (0 : Int32)), .val (.int c0)] [(.int (c0.toInt8.toInt32)), (.int (0 : Int32)), (.ref ds)])) rfl rfl (hb hby d18_31)
  refine Run.pre st157 ?_
  have V_ds_157 : Arv Z h157 ds kb .byte (2 : Int32) [(.int (nar .byte (c0.toInt8.toInt32))), (.int (0 : Int32))] (.int (0 : Int32)) := Arv.set Ar156 q156 S156 N156 H156 G156 (fits_nar_byte _) W157 0 rfl (Nat.le_of_ble_eq_true rfl)
  have K157 : Keep h0 h157 [ds] := (Keep.refl h0 [ds]).wr W157 (Or.inl (by simp))
  have N157 := Fr.snoc X157 N0 g_ds
  show Run p e below s _ _ _ (T157.setTop (mkF m 32 #[.val (.ref ar), .val (.int (0 : Int32)), .val (.ref ds), .val (.int (0 : Int32)), .val (.int (2 : Int32)), .val (.int (0 : Int32)), .val (.int c0)] []))
  refine Run.pre (fun _ k => XS.iinc X157.here hx rfl (hb hby d18_32) rfl (l' := #[.val (.ref ar), .val (.int (1 : Int32)), .val (.ref ds), .val (.int (0 : Int32)), .val (.int (2 : Int32)), .val (.int (0 : Int32)), .val (.int c0)]) rfl k) ?_
  show Run p e below s _ _ _ (T157.setTop (mkF m 35 #[.val (.ref ar), .val (.int (1 : Int32)), .val (.ref ds), .val (.int (0 : Int32)), .val (.int (2 : Int32)), .val (.int (0 : Int32)), .val (.int c0)] []))
  refine Run.pre (fun _ k => XS.iinc X157.here hx rfl (hb hby d18_35) rfl (l' := #[.val (.ref ar), .val (.int (1 : Int32)), .val (.ref ds), .val (.int (1 : Int32)), .val (.int (2 : Int32)), .val (.int (0 : Int32)), .val (.int c0)]) rfl k) ?_
  show Run p e below s _ _ _ (T157.setTop (mkF m 38 #[.val (.ref ar), .val (.int (1 : Int32)), .val (.ref ds), .val (.int (1 : Int32)), .val (.int (2 : Int32)), .val (.int (0 : Int32)), .val (.int c0)] []))
  refine Run.pre (fun _ k => XS.iinc X157.here hx rfl (hb hby d18_38) rfl (l' := #[.val (.ref ar), .val (.int (1 : Int32)), .val (.ref ds), .val (.int (1 : Int32)), .val (.int (2 : Int32)), .val (.int (1 : Int32)), .val (.int c0)]) rfl k) ?_
  show Run p e below s _ _ _ (T157.setTop (mkF m 41 #[.val (.ref ar), .val (.int (1 : Int32)), .val (.ref ds), .val (.int (1 : Int32)), .val (.int (2 : Int32)), .val (.int (1 : Int32)), .val (.int c0)] []))
  refine Run.pre (fun _ k => XS.goto X157.here hx rfl (pc0 := 41) (pc' := 3) rfl (hb hby d18_41) (by decide) (by decide) k) ?_
  show Run p e below s _ _ _ (T157.setTop (mkF m 3 #[.val (.ref ar), .val (.int (1 : Int32)), .val (.ref ds), .val (.int (1 : Int32)), .val (.int (2 : Int32)), .val (.int (1 : Int32)), .val (.int c0)] []))
  refine Run.pre (fun _ k => XS.iload X157.here hx rfl (hb hby d18_3) rfl  k) ?_
  show Run p e below s _ _ _ (T157.setTop (mkF m 5 #[.val (.ref ar), .val (.int (1 : Int32)), .val (.ref ds), .val (.int (1 : Int32)), .val (.int (2 : Int32)), .val (.int (1 : Int32)), .val (.int c0)] [(.int (1 : Int32))]))
  refine Run.pre (fun _ k => XS.iload X157.here hx rfl (hb hby d18_5) rfl  k) ?_
  show Run p e below s _ _ _ (T157.setTop (mkF m 7 #[.val (.ref ar), .val (.int (1 : Int32)), .val (.ref ds), .val (.int (1 : Int32)), .val (.int (2 : Int32)), .val (.int (1 : Int32)), .val (.int c0)] [(.int (2 : Int32)), (.int (1 : Int32))]))
  refine Run.pre (fun _ k => XS.icmpNo X157.here hx rfl (hb hby d18_7) rfl (tlt ((by decide) : (1 : Int32) < (2 : Int32))).2.1 k) ?_
  show Run p e below s _ _ _ (T157.setTop (mkF m 10 #[.val (.ref ar), .val (.int (1 : Int32)), .val (.ref ds), .val (.int (1 : Int32)), .val (.int (2 : Int32)), .val (.int (1 : Int32)), .val (.int c0)] []))
  refine Run.pre (fun _ k => XS.aloadN X157.here hx rfl (hb hby d18_10) rfl rfl k) ?_
  show Run p e below s _ _ _ (T157.setTop (mkF m 11 #[.val (.ref ar), .val (.int (1 : Int32)), .val (.ref ds), .val (.int (1 : Int32)), .val (.int (2 : Int32)), .val (.int (1 : Int32)), .val (.int c0)] [(.ref ar)]))
  refine Run.pre (fun _ k => XS.iloadN X157.here hx rfl (hb hby d18_11) rfl  k) ?_
  show Run p e below s _ _ _ (T157.setTop (mkF m 12 #[.val (.ref ar), .val (.int (1 : Int32)), .val (.ref ds), .val (.int (1 : Int32)), .val (.int (2 : Int32)), .val (.int (1 : Int32)), .val (.int c0)] [(.int (1 : Int32)), (.ref ar)]))
  have f158 := (AC.other W157 nad)
  obtain ⟨c159, Ar159, -, S159, N159, H159, -⟩ := id f158
  have hin159 : ¬ ((1 : Int32) < 0 ∨ c159.slots.size ≤ ((1 : Int32)).toNatClampNeg) := inb_of S159 ⟨by decide, by decide⟩
  refine Run.pre (X157.caload hx (j := (1 : Int32)) (v := (.int c1)) (by rw [e157]; exact Ar159.1) (State.isArrayOf_alike hZ.alike Ar159.2.1) Ar159.2.2 hin159 (H159.at hin159 rfl) (g := (mkF m 12 #[.val (.ref ar), .val (.int (1 : Int32)), .val (.ref ds), .val (.int (1 : Int32)), .val (.int (2 : Int32)), .val (.int (1 : Int32)), .val (.int c0)] [(.int (1 : Int32)), (.ref ar)])) rfl rfl (hb hby d18_12)) ?_
  show Run p e below s _ _ _ (T157.setTop (mkF m 13 #[.val (.ref ar), .val (.int (1 : Int32)), .val (.ref ds), .val (.int (1 : Int32)), .val (.int (2 : Int32)), .val (.int (1 : Int32)), .val (.int c0)] [(.int c1)]))
  refine Run.pre (fun _ k => XS.istore X157.here hx rfl (hb hby d18_13) rfl (l' := #[.val (.ref ar), .val (.int (1 : Int32)), .val (.ref ds), .val (.int (1 : Int32)), .val (.int (2 : Int32)), .val (.int (1 : Int32)), .val (.int c1)]) rfl k) ?_
  show Run p e below s _ _ _ (T157.setTop (mkF m 15 #[.val (.ref ar), .val (.int (1 : Int32)), .val (.ref ds), .val (.int (1 : Int32)), .val (.int (2 : Int32)), .val (.int (1 : Int32)), .val (.int c1)] []))
  refine Run.pre (fun _ k => XS.iload X157.here hx rfl (hb hby d18_15) rfl  k) ?_
  show Run p e below s _ _ _ (T157.setTop (mkF m 17 #[.val (.ref ar), .val (.int (1 : Int32)), .val (.ref ds), .val (.int (1 : Int32)), .val (.int (2 : Int32)), .val (.int (1 : Int32)), .val (.int c1)] [(.int c1)]))
  refine Run.pre (fun _ k => XS.sipush X157.here hx rfl (hb hby d18_17) k) ?_
  show Run p e below s _ _ _ (T157.setTop (mkF m 20 #[.val (.ref ar), .val (.int (1 : Int32)), .val (.ref ds), .val (.int (1 : Int32)), .val (.int (2 : Int32)), .val (.int (1 : Int32)), .val (.int c1)] [(.int (255 : Int32)), (.int c1)]))
  refine Run.pre (fun _ k => XS.icmpYes X157.here hx rfl (pc0 := 20) (pc' := 26) rfl (hb hby d18_20) rfl (flt (q1 : ¬ ((255 : Int32) < c1))).2.2.2 (by decide) (by decide) k) ?_
  show Run p e below s _ _ _ (T157.setTop (mkF m 26 #[.val (.ref ar), .val (.int (1 : Int32)), .val (.ref ds), .val (.int (1 : Int32)), .val (.int (2 : Int32)), .val (.int (1 : Int32)), .val (.int c1)] []))
  refine Run.pre (fun _ k => XS.aloadN X157.here hx rfl (hb hby d18_26) rfl rfl k) ?_
  show Run p e below s _ _ _ (T157.setTop (mkF m 27 #[.val (.ref ar), .val (.int (1 : Int32)), .val (.ref ds), .val (.int (1 : Int32)), .val (.int (2 : Int32)), .val (.int (1 : Int32)), .val (.int c1)] [(.ref ds)]))
  refine Run.pre (fun _ k => XS.iloadN X157.here hx rfl (hb hby d18_27) rfl  k) ?_
  show Run p e below s _ _ _ (T157.setTop (mkF m 28 #[.val (.ref ar), .val (.int (1 : Int32)), .val (.ref ds), .val (.int (1 : Int32)), .val (.int (2 : Int32)), .val (.int (1 : Int32)), .val (.int c1)] [(.int (1 : Int32)), (.ref ds)]))
  refine Run.pre (fun _ k => XS.iload X157.here hx rfl (hb hby d18_28) rfl  k) ?_
  show Run p e below s _ _ _ (T157.setTop (mkF m 30 #[.val (.ref ar), .val (.int (1 : Int32)), .val (.ref ds), .val (.int (1 : Int32)), .val (.int (2 : Int32)), .val (.int (1 : Int32)), .val (.int c1)] [(.int c1), (.int (1 : Int32)), (.ref ds)]))
  refine Run.pre (fun _ k => XS.i2b X157.here hx rfl (hb hby d18_30) rfl k) ?_
  show Run p e below s _ _ _ (T157.setTop (mkF m 31 #[.val (.ref ar), .val (.int (1 : Int32)), .val (.ref ds), .val (.int (1 : Int32)), .val (.int (2 : Int32)), .val (.int (1 : Int32)), .val (.int c1)] [(.int (c1.toInt8.toInt32)), (.int (1 : Int32)), (.ref ds)]))
  obtain ⟨c160, Ar160, q160, S160, N160, H160, G160⟩ := id V_ds_157
  have hin160 : ¬ ((1 : Int32) < 0 ∨ c160.slots.size ≤ ((1 : Int32)).toNatClampNeg) := inb_of S160 ⟨by decide, by decide⟩
  obtain ⟨T161, h161, X161, e161, W161, st161⟩ := stB X157 hx hZ e157 Ar160 (j := (1 : Int32)) hin160 (g := (mkF m 31 #[.val (.ref ar), .val (.int (1 : Int32)), .val (.ref ds), .val (.int (1 : Int32)), .val (.int (2 : Int32)), .val (.int (1 : Int32)), .val (.int c1)] [(.int (c1.toInt8.toInt32)), (.int (1 : Int32)), (.ref ds)])) rfl rfl (hb hby d18_31)
  refine Run.pre st161 ?_
  have V_ds_161 : Arv Z h161 ds kb .byte (2 : Int32) [(.int (nar .byte (c0.toInt8.toInt32))), (.int (nar .byte (c1.toInt8.toInt32)))] (.int (0 : Int32)) := Arv.set Ar160 q160 S160 N160 H160 G160 (fits_nar_byte _) W161 1 rfl (Nat.le_of_ble_eq_true rfl)
  have K161 : Keep h0 h161 [ds] := K157.wr W161 (Or.inl (by simp))
  have N161 := Fr.snoc X161 N157 g_ds
  show Run p e below s _ _ _ (T161.setTop (mkF m 32 #[.val (.ref ar), .val (.int (1 : Int32)), .val (.ref ds), .val (.int (1 : Int32)), .val (.int (2 : Int32)), .val (.int (1 : Int32)), .val (.int c1)] []))
  refine Run.pre (fun _ k => XS.iinc X161.here hx rfl (hb hby d18_32) rfl (l' := #[.val (.ref ar), .val (.int (2 : Int32)), .val (.ref ds), .val (.int (1 : Int32)), .val (.int (2 : Int32)), .val (.int (1 : Int32)), .val (.int c1)]) rfl k) ?_
  show Run p e below s _ _ _ (T161.setTop (mkF m 35 #[.val (.ref ar), .val (.int (2 : Int32)), .val (.ref ds), .val (.int (1 : Int32)), .val (.int (2 : Int32)), .val (.int (1 : Int32)), .val (.int c1)] []))
  refine Run.pre (fun _ k => XS.iinc X161.here hx rfl (hb hby d18_35) rfl (l' := #[.val (.ref ar), .val (.int (2 : Int32)), .val (.ref ds), .val (.int (2 : Int32)), .val (.int (2 : Int32)), .val (.int (1 : Int32)), .val (.int c1)]) rfl k) ?_
  show Run p e below s _ _ _ (T161.setTop (mkF m 38 #[.val (.ref ar), .val (.int (2 : Int32)), .val (.ref ds), .val (.int (2 : Int32)), .val (.int (2 : Int32)), .val (.int (1 : Int32)), .val (.int c1)] []))
  refine Run.pre (fun _ k => XS.iinc X161.here hx rfl (hb hby d18_38) rfl (l' := #[.val (.ref ar), .val (.int (2 : Int32)), .val (.ref ds), .val (.int (2 : Int32)), .val (.int (2 : Int32)), .val (.int (2 : Int32)), .val (.int c1)]) rfl k) ?_
  show Run p e below s _ _ _ (T161.setTop (mkF m 41 #[.val (.ref ar), .val (.int (2 : Int32)), .val (.ref ds), .val (.int (2 : Int32)), .val (.int (2 : Int32)), .val (.int (2 : Int32)), .val (.int c1)] []))
  refine Run.pre (fun _ k => XS.goto X161.here hx rfl (pc0 := 41) (pc' := 3) rfl (hb hby d18_41) (by decide) (by decide) k) ?_
  show Run p e below s _ _ _ (T161.setTop (mkF m 3 #[.val (.ref ar), .val (.int (2 : Int32)), .val (.ref ds), .val (.int (2 : Int32)), .val (.int (2 : Int32)), .val (.int (2 : Int32)), .val (.int c1)] []))
  refine Run.pre (fun _ k => XS.iload X161.here hx rfl (hb hby d18_3) rfl  k) ?_
  show Run p e below s _ _ _ (T161.setTop (mkF m 5 #[.val (.ref ar), .val (.int (2 : Int32)), .val (.ref ds), .val (.int (2 : Int32)), .val (.int (2 : Int32)), .val (.int (2 : Int32)), .val (.int c1)] [(.int (2 : Int32))]))
  refine Run.pre (fun _ k => XS.iload X161.here hx rfl (hb hby d18_5) rfl  k) ?_
  show Run p e below s _ _ _ (T161.setTop (mkF m 7 #[.val (.ref ar), .val (.int (2 : Int32)), .val (.ref ds), .val (.int (2 : Int32)), .val (.int (2 : Int32)), .val (.int (2 : Int32)), .val (.int c1)] [(.int (2 : Int32)), (.int (2 : Int32))]))
  refine Run.pre (fun _ k => XS.icmpYes X161.here hx rfl (pc0 := 7) (pc' := 44) rfl (hb hby d18_7) rfl (flt ((by decide) : ¬ ((2 : Int32) < (2 : Int32)))).2.1 (by decide) (by decide) k) ?_
  show Run p e below s _ _ _ (T161.setTop (mkF m 44 #[.val (.ref ar), .val (.int (2 : Int32)), .val (.ref ds), .val (.int (2 : Int32)), .val (.int (2 : Int32)), .val (.int (2 : Int32)), .val (.int c1)] []))
  refine Run.pre (fun _ k => XS.iload X161.here hx rfl (hb hby d18_44) rfl  k) ?_
  show Run p e below s _ _ _ (T161.setTop (mkF m 46 #[.val (.ref ar), .val (.int (2 : Int32)), .val (.ref ds), .val (.int (2 : Int32)), .val (.int (2 : Int32)), .val (.int (2 : Int32)), .val (.int c1)] [(.int (2 : Int32))]))
  exact Run.retI hK hS (by first | exact Nat.le_refl _ | (rw [e161]; exact (Nat.le_trans (Nat.le_trans (Nat.zero_le _) (Keep.of_wr W157).1) (Keep.of_wr W161).1))) X161 hx hret hlk (hb hby d18_46) (by first | (rw [e161]; exact ⟨rfl, N161, K161, V_ds_161⟩) | exact ⟨rfl, N161, K161, V_ds_161⟩) (by decide) (by decide)
theorem d17_0 : decode jdk_52_method_16_code 0 = .ok (.iload_n 2, 1) := by decide +kernel
theorem d17_1 : decode jdk_52_method_16_code 1 = .ok (.newarray .byte, 2) := by decide +kernel
theorem d17_3 : decode jdk_52_method_16_code 3 = .ok (.astore_n 3, 1) := by decide +kernel
theorem d17_4 : decode jdk_52_method_16_code 4 = .ok (.aload_n 0, 1) := by decide +kernel
theorem d17_5 : decode jdk_52_method_16_code 5 = .ok (.iload_n 1, 1) := by decide +kernel
theorem d17_6 : decode jdk_52_method_16_code 6 = .ok (.aload_n 3, 1) := by decide +kernel
theorem d17_7 : decode jdk_52_method_16_code 7 = .ok (.iconst 0, 1) := by decide +kernel
theorem d17_8 : decode jdk_52_method_16_code 8 = .ok (.iload_n 2, 1) := by decide +kernel
theorem pd_5 : parseMethodDescriptor "([CI[BII)I" = some ⟨[(.array .char), .int, (.array .byte), .int, .int], some .int⟩ := by decide +kernel
theorem d17_9 : decode jdk_52_method_16_code 9 = .ok (.invokestatic 115, 3) := by decide +kernel
theorem d17_12 : decode jdk_52_method_16_code 12 = .ok (.istore 4, 2) := by decide +kernel
theorem d17_14 : decode jdk_52_method_16_code 14 = .ok (.iload 4, 2) := by decide +kernel
theorem d17_16 : decode jdk_52_method_16_code 16 = .ok (.iload_n 2, 1) := by decide +kernel
theorem d17_17 : decode jdk_52_method_16_code 17 = .ok (.if_icmp .eq 40, 3) := by decide +kernel
theorem d17_57 : decode jdk_52_method_16_code 57 = .ok (.aload_n 3, 1) := by decide +kernel
theorem d17_58 : decode jdk_52_method_16_code 58 = .ok (.areturn, 1) := by decide +kernel
theorem pn_17 : plainName "java/lang/StringUTF16" = true := by first | (simp [plainName, overriddenIn]; done) | decide +kernel
set_option maxRecDepth 65536 in
set_option maxHeartbeats 40000000 in
theorem rmC1_2 (l : Launch) (Z : State) (a0 : Array Value) (hw : ∀ d ∈ tables_1, d.before a0 Z = true) (ar : Addr) (kc : ClassId) (c0 : Int32) (c1 : Int32) (h0 : Heap) (n0 : Nat) (Z0 : n0 ≤ h0.size) (AC : Arv Z h0 ar kc .char 2 [(.int c0), (.int c1)] (.int 0)) (q0 : ¬ (255 : Int32) < c0) (q1 : ¬ (255 : Int32) < c1) :
    Con l (⟨"java/lang/StringUTF16", "compress", "([CII)[B"⟩ : MethodName) jdk_52_method_16_code 6 (some (.array .byte)) ({ frames := 1, cells := 1, slots := 2, locals := 18 } : Room) Z #[(.ref ar), (.int (0 : Int32)), (.int (2 : Int32))] h0 (fun _ => True) (fun v h L vm => ∃ b : Addr, ∃ k : ClassId, v = some (.ref b) ∧ Fr n0 L ∧ Keep h0 h [] ∧ h0.size ≤ b ∧ Arv Z h b k .byte 2 [(.int (nar .byte (c0.toInt8.toInt32))), (.int (nar .byte (c1.toInt8.toInt32)))] (.int 0)) := by
  refine Con.mk (plainFor_of_name pn_17) (fun m => show entryFrame m #[(.ref ar), (.int (0 : Int32)), (.int (2 : Int32))] 6 = mkF m 0 #[.val (.ref ar), .val (.int (0 : Int32)), .val (.int (2 : Int32)), .unset, .unset, .unset] [] by first | (simp [entryFrame, mkF, argsToLocals, Value.category]; done) | rfl) ?_
  intro p e s m below meth c s₁ vm0 hx hby hml hown hnm hret hlk hZ X0 e0 hS hs0 hP0 hK
  have N0 := Fr.nil n0
  show Run p e below s _ _ _ (s₁.setTop (mkF m 0 #[.val (.ref ar), .val (.int (0 : Int32)), .val (.int (2 : Int32)), .unset, .unset, .unset] []))
  refine Run.pre (fun _ k => XS.iloadN X0.here hx rfl (hb hby d17_0) rfl  k) ?_
  show Run p e below s _ _ _ (s₁.setTop (mkF m 1 #[.val (.ref ar), .val (.int (0 : Int32)), .val (.int (2 : Int32)), .unset, .unset, .unset] [(.int (2 : Int32))]))
  obtain ⟨T162, h162, k162, X162, e162, E162, A162, st162⟩ := newP X0 hx hZ (hw _ (List.mem_of_getElem? (i := 18) rfl)) e0 (g := (mkF m 1 #[.val (.ref ar), .val (.int (0 : Int32)), .val (.int (2 : Int32)), .unset, .unset, .unset] [(.int (2 : Int32))])) rfl (hb hby d17_1) rfl (by decide) (cap := 2) (by decide) (by decide) (by decide) (by decide)
  obtain ⟨b162, g162⟩ : ∃ z, z = h0.size := ⟨_, rfl⟩
  rw [← g162] at A162 st162
  refine Run.pre st162 ?_
  have V_b162 : Arv Z h162 b162 k162 .byte (2 : Int32) [(.int (0 : Int32)), (.int (0 : Int32))] (.int (0 : Int32)) := (Arv.new A162 (by decide)).pad (pad_rep [] (.int (0 : Int32)) 2)
  have gn_b162 : n0 ≤ b162 := Nat.le_trans (Nat.le_trans Z0 (Keep.refl h0 []).1) (Nat.le_of_eq g162.symm)
  have sz_b162 : h0.size ≤ b162 := Nat.le_trans (Keep.refl h0 []).1 (Nat.le_of_eq g162.symm)
  have K162 : Keep h0 h162 [] := (Keep.refl h0 []).ext E162
  show Run p e below s _ _ _ (T162.setTop (mkF m 3 #[.val (.ref ar), .val (.int (0 : Int32)), .val (.int (2 : Int32)), .unset, .unset, .unset] [(.ref b162)]))
  refine Run.pre (fun _ k => XS.astoreN X162.here hx rfl (hb hby d17_3) rfl rfl (l' := #[.val (.ref ar), .val (.int (0 : Int32)), .val (.int (2 : Int32)), .val (.ref b162), .unset, .unset]) rfl k) ?_
  show Run p e below s _ _ _ (T162.setTop (mkF m 4 #[.val (.ref ar), .val (.int (0 : Int32)), .val (.int (2 : Int32)), .val (.ref b162), .unset, .unset] []))
  refine Run.pre (fun _ k => XS.aloadN X162.here hx rfl (hb hby d17_4) rfl rfl k) ?_
  show Run p e below s _ _ _ (T162.setTop (mkF m 5 #[.val (.ref ar), .val (.int (0 : Int32)), .val (.int (2 : Int32)), .val (.ref b162), .unset, .unset] [(.ref ar)]))
  refine Run.pre (fun _ k => XS.iloadN X162.here hx rfl (hb hby d17_5) rfl  k) ?_
  show Run p e below s _ _ _ (T162.setTop (mkF m 6 #[.val (.ref ar), .val (.int (0 : Int32)), .val (.int (2 : Int32)), .val (.ref b162), .unset, .unset] [(.int (0 : Int32)), (.ref ar)]))
  refine Run.pre (fun _ k => XS.aloadN X162.here hx rfl (hb hby d17_6) rfl rfl k) ?_
  show Run p e below s _ _ _ (T162.setTop (mkF m 7 #[.val (.ref ar), .val (.int (0 : Int32)), .val (.int (2 : Int32)), .val (.ref b162), .unset, .unset] [(.ref b162), (.int (0 : Int32)), (.ref ar)]))
  refine Run.pre (fun _ k => XS.iconst X162.here hx rfl (hb hby d17_7) k) ?_
  show Run p e below s _ _ _ (T162.setTop (mkF m 8 #[.val (.ref ar), .val (.int (0 : Int32)), .val (.int (2 : Int32)), .val (.ref b162), .unset, .unset] [(.int (0 : Int32)), (.ref b162), (.int (0 : Int32)), (.ref ar)]))
  refine Run.pre (fun _ k => XS.iloadN X162.here hx rfl (hb hby d17_8) rfl  k) ?_
  show Run p e below s _ _ _ (T162.setTop (mkF m 9 #[.val (.ref ar), .val (.int (0 : Int32)), .val (.int (2 : Int32)), .val (.ref b162), .unset, .unset] [(.int (2 : Int32)), (.int (0 : Int32)), (.ref b162), (.int (0 : Int32)), (.ref ar)]))
  have f163 := (AC.ext E162)
  refine Run.callS hK hS (by first | exact Nat.le_refl _ | (rw [e162]; exact (Nat.le_trans (Nat.zero_le _) E162.1))) X162 hx hZ (y := (⟨"java/lang/StringUTF16", "compress", "([CI[BII)I"⟩ : MethodName)) hown (hw _ (List.mem_of_getElem? (i := 120) rfl)) (hw _ (List.mem_of_getElem? (i := 121) rfl)) (hw _ (List.mem_of_getElem? (i := 118) rfl)) (hw _ (List.mem_of_getElem? (i := 122) rfl)) (by decide) (W := 0) (rmC2_2 l Z a0 hw ar b162 kc k162 c0 c1 h162 n0 (Nat.le_trans Z0 K162.1) f163 V_b162 (Nat.ne_of_lt (Nat.lt_of_lt_of_le AC.lt (Nat.le_of_eq g162.symm))) gn_b162 q0 q1) e162 (by decide) (by decide) (by decide) (by decide) (fun _ _ => trivial) (g := (mkF m 9 #[.val (.ref ar), .val (.int (0 : Int32)), .val (.int (2 : Int32)), .val (.ref b162), .unset, .unset] [(.int (2 : Int32)), (.int (0 : Int32)), (.ref b162), (.int (0 : Int32)), (.ref ar)])) rfl (by rw [hml]; rfl) (argsL := [(.ref ar), (.int (0 : Int32)), (.ref b162), (.int (0 : Int32)), (.int (2 : Int32))]) (rest := []) (lenOf pd_5 rfl) rfl (by show 2 * 0 + _ ≤ _; exact Nat.le_of_eq rfl) (hb hby d17_9) ?_
  intro v164 T164 L164 X164 hS hZ hown hV164 hQ164
  obtain ⟨rfl, Nq164, Kc164, vb164⟩ := hQ164
  have N164 := Fr.app N0 Nq164
  have K164 : Keep h0 T164.heap [] := K162.trans Kc164 (allS (Or.inr sz_b162) all0)
  show Run p e below s _ _ _ (T164.setTop (mkF m 12 #[.val (.ref ar), .val (.int (0 : Int32)), .val (.int (2 : Int32)), .val (.ref b162), .unset, .unset] [(.int (2 : Int32))]))
  refine Run.pre (fun _ k => XS.istore X164.here hx rfl (hb hby d17_12) rfl (l' := #[.val (.ref ar), .val (.int (0 : Int32)), .val (.int (2 : Int32)), .val (.ref b162), .val (.int (2 : Int32)), .unset]) rfl k) ?_
  show Run p e below s _ _ _ (T164.setTop (mkF m 14 #[.val (.ref ar), .val (.int (0 : Int32)), .val (.int (2 : Int32)), .val (.ref b162), .val (.int (2 : Int32)), .unset] []))
  refine Run.pre (fun _ k => XS.iload X164.here hx rfl (hb hby d17_14) rfl  k) ?_
  show Run p e below s _ _ _ (T164.setTop (mkF m 16 #[.val (.ref ar), .val (.int (0 : Int32)), .val (.int (2 : Int32)), .val (.ref b162), .val (.int (2 : Int32)), .unset] [(.int (2 : Int32))]))
  refine Run.pre (fun _ k => XS.iloadN X164.here hx rfl (hb hby d17_16) rfl  k) ?_
  show Run p e below s _ _ _ (T164.setTop (mkF m 17 #[.val (.ref ar), .val (.int (0 : Int32)), .val (.int (2 : Int32)), .val (.ref b162), .val (.int (2 : Int32)), .unset] [(.int (2 : Int32)), (.int (2 : Int32))]))
  refine Run.pre (fun _ k => XS.icmpYes X164.here hx rfl (pc0 := 17) (pc' := 57) rfl (hb hby d17_17) rfl (teq ((by decide) : (2 : Int32) = (2 : Int32))).1 (by decide) (by decide) k) ?_
  show Run p e below s _ _ _ (T164.setTop (mkF m 57 #[.val (.ref ar), .val (.int (0 : Int32)), .val (.int (2 : Int32)), .val (.ref b162), .val (.int (2 : Int32)), .unset] []))
  refine Run.pre (fun _ k => XS.aloadN X164.here hx rfl (hb hby d17_57) rfl rfl k) ?_
  show Run p e below s _ _ _ (T164.setTop (mkF m 58 #[.val (.ref ar), .val (.int (0 : Int32)), .val (.int (2 : Int32)), .val (.ref b162), .val (.int (2 : Int32)), .unset] [(.ref b162)]))
  exact Run.retA hK hS (Nat.le_refl _) X164 hx hret rfl rfl hlk (hb hby d17_58) ⟨b162, k162, rfl, N164, K164, sz_b162, vb164⟩ (by decide) (by decide)
theorem d19_0 : decode jdk_52_method_15_code 0 = .ok (.iload_n 1, 1) := by decide +kernel
theorem d19_1 : decode jdk_52_method_15_code 1 = .ok (.aload_n 0, 1) := by decide +kernel
theorem d19_2 : decode jdk_52_method_15_code 2 = .ok (.arraylength, 1) := by decide +kernel
theorem d19_3 : decode jdk_52_method_15_code 3 = .ok (.isub, 1) := by decide +kernel
theorem d19_4 : decode jdk_52_method_15_code 4 = .ok (.bipush 31, 2) := by decide +kernel
theorem d19_6 : decode jdk_52_method_15_code 6 = .ok (.iushr, 1) := by decide +kernel
theorem d19_7 : decode jdk_52_method_15_code 7 = .ok (.i2b, 1) := by decide +kernel
theorem d19_8 : decode jdk_52_method_15_code 8 = .ok (.ireturn, 1) := by decide +kernel
theorem pn_19 : plainName "java/lang/StringUTF16" = true := by first | (simp [plainName, overriddenIn]; done) | decide +kernel
set_option maxRecDepth 65536 in
set_option maxHeartbeats 40000000 in
theorem rmCo_2 (l : Launch) (Z : State) (a0 : Array Value) (hw : ∀ d ∈ tables_1, d.before a0 Z = true) (b : Addr) (kb : ClassId) (c0 : Int32) (c1 : Int32) (h0 : Heap) (n0 : Nat) (Z0 : n0 ≤ h0.size) (AB : Arv Z h0 b kb .byte 2 [(.int (nar .byte (c0.toInt8.toInt32))), (.int (nar .byte (c1.toInt8.toInt32)))] (.int 0)) :
    Con l (⟨"java/lang/StringUTF16", "coderFromArrayLen", "([BI)B"⟩ : MethodName) jdk_52_method_15_code 2 (some .byte) ({ frames := 0, cells := 0, slots := 0, locals := 0 } : Room) Z #[(.ref b), (.int (2 : Int32))] h0 (fun _ => True) (fun v h L vm => v = some (.int 0) ∧ Fr n0 L ∧ h = h0) := by
  refine Con.mk (plainFor_of_name pn_19) (fun m => show entryFrame m #[(.ref b), (.int (2 : Int32))] 2 = mkF m 0 #[.val (.ref b), .val (.int (2 : Int32))] [] by first | (simp [entryFrame, mkF, argsToLocals, Value.category]; done) | rfl) ?_
  intro p e s m below meth c s₁ vm0 hx hby hml hown hnm hret hlk hZ X0 e0 hS hs0 hP0 hK
  have N0 := Fr.nil n0
  show Run p e below s _ _ _ (s₁.setTop (mkF m 0 #[.val (.ref b), .val (.int (2 : Int32))] []))
  refine Run.pre (fun _ k => XS.iloadN X0.here hx rfl (hb hby d19_0) rfl  k) ?_
  show Run p e below s _ _ _ (s₁.setTop (mkF m 1 #[.val (.ref b), .val (.int (2 : Int32))] [(.int (2 : Int32))]))
  refine Run.pre (fun _ k => XS.aloadN X0.here hx rfl (hb hby d19_1) rfl rfl k) ?_
  show Run p e below s _ _ _ (s₁.setTop (mkF m 2 #[.val (.ref b), .val (.int (2 : Int32))] [(.ref b), (.int (2 : Int32))]))
  obtain ⟨c165, Ar165, -, S165, N165, -, -⟩ := id AB
  refine Run.pre (X0.arraylength hx (by rw [e0]; exact Ar165.1) (State.isArrayOf_alike hZ.alike Ar165.2.1) (g := (mkF m 2 #[.val (.ref b), .val (.int (2 : Int32))] [(.ref b), (.int (2 : Int32))])) rfl rfl (hb hby d19_2)) ?_
  rw [len_of S165 N165]
  show Run p e below s _ _ _ (s₁.setTop (mkF m 3 #[.val (.ref b), .val (.int (2 : Int32))] [(.int (2 : Int32)), (.int (2 : Int32))]))
  refine Run.pre (fun _ k => XS.isub X0.here hx rfl (hb hby d19_3) rfl k) ?_
  show Run p e below s _ _ _ (s₁.setTop (mkF m 4 #[.val (.ref b), .val (.int (2 : Int32))] [(.int (0 : Int32))]))
  refine Run.pre (fun _ k => XS.bipush X0.here hx rfl (hb hby d19_4) k) ?_
  show Run p e below s _ _ _ (s₁.setTop (mkF m 6 #[.val (.ref b), .val (.int (2 : Int32))] [(.int (31 : Int32)), (.int (0 : Int32))]))
  refine Run.pre (fun _ k => XS.iushr X0.here hx rfl (hb hby d19_6) rfl k) ?_
  show Run p e below s _ _ _ (s₁.setTop (mkF m 7 #[.val (.ref b), .val (.int (2 : Int32))] [(.int (0 : Int32))]))
  refine Run.pre (fun _ k => XS.i2b X0.here hx rfl (hb hby d19_7) rfl k) ?_
  show Run p e below s _ _ _ (s₁.setTop (mkF m 8 #[.val (.ref b), .val (.int (2 : Int32))] [(.int ((0 : Int32).toInt8.toInt32))]))
  exact Run.retN hK hS (by first | exact Nat.le_refl _ | (rw [e0]; exact (Nat.zero_le _))) X0 hx hret (t := .byte) (by simp) hlk (hb hby d19_8) (by first | (rw [e0]; exact ⟨by decide, N0, rfl⟩) | exact ⟨by decide, N0, rfl⟩) (by decide) (by decide)
theorem d16_0 : decode jdk_42_method_149_code 0 = .ok (.aload_n 0, 1) := by decide +kernel
theorem d16_1 : decode jdk_42_method_149_code 1 = .ok (.invokespecial 1, 3) := by decide +kernel
theorem d16_4 : decode jdk_42_method_149_code 4 = .ok (.iload_n 3, 1) := by decide +kernel
theorem d16_5 : decode jdk_42_method_149_code 5 = .ok (.ifCond .ne 22, 3) := by decide +kernel
theorem d16_27 : decode jdk_42_method_149_code 27 = .ok (.getstatic 38, 3) := by decide +kernel
theorem d16_30 : decode jdk_42_method_149_code 30 = .ok (.ifCond .eq 28, 3) := by decide +kernel
theorem d16_33 : decode jdk_42_method_149_code 33 = .ok (.aload_n 1, 1) := by decide +kernel
theorem d16_34 : decode jdk_42_method_149_code 34 = .ok (.iload_n 2, 1) := by decide +kernel
theorem d16_35 : decode jdk_42_method_149_code 35 = .ok (.iload_n 3, 1) := by decide +kernel
theorem pd_6 : parseMethodDescriptor "([CII)[B" = some ⟨[(.array .char), .int, .int], some (.array .byte)⟩ := by decide +kernel
theorem d16_36 : decode jdk_42_method_149_code 36 = .ok (.invokestatic 177, 3) := by decide +kernel
theorem d16_39 : decode jdk_42_method_149_code 39 = .ok (.astore 5, 2) := by decide +kernel
theorem d16_41 : decode jdk_42_method_149_code 41 = .ok (.aload_n 0, 1) := by decide +kernel
theorem d16_42 : decode jdk_42_method_149_code 42 = .ok (.aload 5, 2) := by decide +kernel
theorem d16_44 : decode jdk_42_method_149_code 44 = .ok (.iload_n 3, 1) := by decide +kernel
theorem pd_7 : parseMethodDescriptor "([BI)B" = some ⟨[(.array .byte), .int], some .byte⟩ := by decide +kernel
theorem d16_45 : decode jdk_42_method_149_code 45 = .ok (.invokestatic 47, 3) := by decide +kernel
theorem d16_48 : decode jdk_42_method_149_code 48 = .ok (.putfield 15, 3) := by decide +kernel
theorem d16_51 : decode jdk_42_method_149_code 51 = .ok (.aload_n 0, 1) := by decide +kernel
theorem d16_52 : decode jdk_42_method_149_code 52 = .ok (.aload 5, 2) := by decide +kernel
theorem d16_54 : decode jdk_42_method_149_code 54 = .ok (.putfield 9, 3) := by decide +kernel
theorem d16_57 : decode jdk_42_method_149_code 57 = .ok (.return_, 1) := by decide +kernel
theorem pn_16 : plainName "java/lang/String" = true := by first | (simp [plainName, overriddenIn]; done) | decide +kernel
set_option maxRecDepth 65536 in
set_option maxHeartbeats 40000000 in
theorem rmI4_2 (l : Launch) (Z : State) (a0 : Array Value) (hw : ∀ d ∈ tables_1, d.before a0 Z = true) (a : Addr) (ar : Addr) (kc : ClassId) (c0 : Int32) (c1 : Int32) (cs : Int32) (h0 : Heap) (n0 : Nat) (Z0 : n0 ≤ h0.size) (OL : Old Z n0 h0) (SC : Sta Z Z.heap "java/lang/String" "COMPACT_STRINGS" "Z" (.int cs)) (hcs : ¬ cs = 0) (AC : Arv Z h0 ar kc .char 2 [(.int c0), (.int c1)] (.int 0)) (E_a : Exa Z h0 a "java/lang/String") (FV : Fld Z h0 a "java/lang/String" "value" "[B" .null) (FCo : Fld Z h0 a "java/lang/String" "coder" "B" (.int 0)) (g_a : n0 ≤ a) (nar_ : ar ≠ a) (q0 : ¬ (255 : Int32) < c0) (q1 : ¬ (255 : Int32) < c1) :
    Con l (⟨"java/lang/String", "<init>", "([CIILjava/lang/Void;)V"⟩ : MethodName) jdk_42_method_149_code 6 none ({ frames := 2, cells := 1, slots := 2, locals := 35 } : Room) Z #[(.ref a), (.ref ar), (.int (0 : Int32)), (.int (2 : Int32)), .null] h0 (fun _ => True) (fun v h L vm => ∃ b : Addr, ∃ k : ClassId, v = none ∧ Fr n0 L ∧ Keep h0 h [a] ∧ h0.size ≤ b ∧ Fld Z h a "java/lang/String" "coder" "B" (.int 0) ∧ Fld Z h a "java/lang/String" "value" "[B" (.ref b) ∧ Arv Z h b k .byte 2 [(.int (nar .byte (c0.toInt8.toInt32))), (.int (nar .byte (c1.toInt8.toInt32)))] (.int 0)) := by
  refine Con.mk (plainFor_of_name pn_16) (fun m => show entryFrame m #[(.ref a), (.ref ar), (.int (0 : Int32)), (.int (2 : Int32)), .null] 6 = mkF m 0 #[.val (.ref a), .val (.ref ar), .val (.int (0 : Int32)), .val (.int (2 : Int32)), .val .null, .unset] [] by first | (simp [entryFrame, mkF, argsToLocals, Value.category]; done) | rfl) ?_
  intro p e s m below meth c s₁ vm0 hx hby hml hown hnm hret hlk hZ X0 e0 hS hs0 hP0 hK
  have N0 := Fr.nil n0
  show Run p e below s _ _ _ (s₁.setTop (mkF m 0 #[.val (.ref a), .val (.ref ar), .val (.int (0 : Int32)), .val (.int (2 : Int32)), .val .null, .unset] []))
  refine Run.pre (fun _ k => XS.aloadN X0.here hx rfl (hb hby d16_0) rfl rfl k) ?_
  show Run p e below s _ _ _ (s₁.setTop (mkF m 1 #[.val (.ref a), .val (.ref ar), .val (.int (0 : Int32)), .val (.int (2 : Int32)), .val .null, .unset] [(.ref a)]))
  obtain ⟨T166, X166, e166, st166⟩ := initO X0 hx hZ hown (hw _ (List.mem_of_getElem? (i := 23) rfl)) (hw _ (List.mem_of_getElem? (i := 24) rfl)) (hw _ (List.mem_of_getElem? (i := 25) rfl)) e0 (g := (mkF m 1 #[.val (.ref a), .val (.ref ar), .val (.int (0 : Int32)), .val (.int (2 : Int32)), .val .null, .unset] [(.ref a)])) rfl (by rw [hml]; rfl) rfl (hb hby d16_1) (by decide) (W := 0) (by show 2 * 0 + _ ≤ _; exact Nat.le_of_eq rfl) (by decide)
  refine Run.pre st166 ?_
  show Run p e below s _ _ _ (T166.setTop (mkF m 4 #[.val (.ref a), .val (.ref ar), .val (.int (0 : Int32)), .val (.int (2 : Int32)), .val .null, .unset] []))
  refine Run.pre (fun _ k => XS.iloadN X166.here hx rfl (hb hby d16_4) rfl  k) ?_
  show Run p e below s _ _ _ (T166.setTop (mkF m 5 #[.val (.ref a), .val (.ref ar), .val (.int (0 : Int32)), .val (.int (2 : Int32)), .val .null, .unset] [(.int (2 : Int32))]))
  refine Run.pre (fun _ k => XS.ifYes X166.here hx rfl (pc0 := 5) (pc' := 27) rfl (hb hby d16_5) rfl ((if0 _ _).trans (feq ((by decide) : ¬ ((2 : Int32) = (0 : Int32)))).2) (by decide) (by decide) k) ?_
  show Run p e below s _ _ _ (T166.setTop (mkF m 27 #[.val (.ref a), .val (.ref ar), .val (.int (0 : Int32)), .val (.int (2 : Int32)), .val .null, .unset] []))
  obtain ⟨T167, X167, e167, st167⟩ := getS2 X166 hx hZ hown (host := "") (Or.inl (hw _ (List.mem_of_getElem? (i := 8) rfl))) Via.refl e166 (SC.ext OL.2) (g := (mkF m 27 #[.val (.ref a), .val (.ref ar), .val (.int (0 : Int32)), .val (.int (2 : Int32)), .val .null, .unset] [])) rfl (hb hby d16_27)
  refine Run.pre st167 ?_
  show Run p e below s _ _ _ (T167.setTop (mkF m 30 #[.val (.ref a), .val (.ref ar), .val (.int (0 : Int32)), .val (.int (2 : Int32)), .val .null, .unset] [(.int cs)]))
  refine Run.pre (fun _ k => XS.ifNo X167.here hx rfl (hb hby d16_30) rfl ((if0 _ _).trans (feq (hcs : ¬ (cs = (0 : Int32)))).1) k) ?_
  show Run p e below s _ _ _ (T167.setTop (mkF m 33 #[.val (.ref a), .val (.ref ar), .val (.int (0 : Int32)), .val (.int (2 : Int32)), .val .null, .unset] []))
  refine Run.pre (fun _ k => XS.aloadN X167.here hx rfl (hb hby d16_33) rfl rfl k) ?_
  show Run p e below s _ _ _ (T167.setTop (mkF m 34 #[.val (.ref a), .val (.ref ar), .val (.int (0 : Int32)), .val (.int (2 : Int32)), .val .null, .unset] [(.ref ar)]))
  refine Run.pre (fun _ k => XS.iloadN X167.here hx rfl (hb hby d16_34) rfl  k) ?_
  show Run p e below s _ _ _ (T167.setTop (mkF m 35 #[.val (.ref a), .val (.ref ar), .val (.int (0 : Int32)), .val (.int (2 : Int32)), .val .null, .unset] [(.int (0 : Int32)), (.ref ar)]))
  refine Run.pre (fun _ k => XS.iloadN X167.here hx rfl (hb hby d16_35) rfl  k) ?_
  show Run p e below s _ _ _ (T167.setTop (mkF m 36 #[.val (.ref a), .val (.ref ar), .val (.int (0 : Int32)), .val (.int (2 : Int32)), .val .null, .unset] [(.int (2 : Int32)), (.int (0 : Int32)), (.ref ar)]))
  refine Run.callS hK hS (by first | exact Nat.le_refl _ | (rw [e167]; exact (Nat.zero_le _))) X167 hx hZ (y := (⟨"java/lang/StringUTF16", "compress", "([CII)[B"⟩ : MethodName)) hown (hw _ (List.mem_of_getElem? (i := 116) rfl)) (hw _ (List.mem_of_getElem? (i := 117) rfl)) (hw _ (List.mem_of_getElem? (i := 118) rfl)) (hw _ (List.mem_of_getElem? (i := 119) rfl)) (by decide) (W := 0) (rmC1_2 l Z a0 hw ar kc c0 c1 h0 n0 (Nat.le_trans Z0 (Keep.refl h0 [a]).1) AC q0 q1) e167 (by decide) (by decide) (by decide) (by decide) (fun _ _ => trivial) (g := (mkF m 36 #[.val (.ref a), .val (.ref ar), .val (.int (0 : Int32)), .val (.int (2 : Int32)), .val .null, .unset] [(.int (2 : Int32)), (.int (0 : Int32)), (.ref ar)])) rfl (by rw [hml]; rfl) (argsL := [(.ref ar), (.int (0 : Int32)), (.int (2 : Int32))]) (rest := []) (lenOf pd_6 rfl) rfl (by show 2 * 0 + _ ≤ _; exact Nat.le_of_eq rfl) (hb hby d16_36) ?_
  intro v168 T168 L168 X168 hS hZ hown hV168 hQ168
  obtain ⟨b168, k168, rfl, Nq168, Kc168, sz168, vb168⟩ := hQ168
  have N168 := Fr.app N0 Nq168
  have K168 : Keep h0 T168.heap [a] := (Keep.refl h0 [a]).trans Kc168 all0
  have sz_b168 : h0.size ≤ b168 := Nat.le_trans (Keep.refl h0 [a]).1 sz168
  have gn_b168 : n0 ≤ b168 := Nat.le_trans Z0 sz_b168
  show Run p e below s _ _ _ (T168.setTop (mkF m 39 #[.val (.ref a), .val (.ref ar), .val (.int (0 : Int32)), .val (.int (2 : Int32)), .val .null, .unset] [(.ref b168)]))
  refine Run.pre (fun _ k => XS.astore X168.here hx rfl (hb hby d16_39) rfl rfl (l' := #[.val (.ref a), .val (.ref ar), .val (.int (0 : Int32)), .val (.int (2 : Int32)), .val .null, .val (.ref b168)]) rfl k) ?_
  show Run p e below s _ _ _ (T168.setTop (mkF m 41 #[.val (.ref a), .val (.ref ar), .val (.int (0 : Int32)), .val (.int (2 : Int32)), .val .null, .val (.ref b168)] []))
  refine Run.pre (fun _ k => XS.aloadN X168.here hx rfl (hb hby d16_41) rfl rfl k) ?_
  show Run p e below s _ _ _ (T168.setTop (mkF m 42 #[.val (.ref a), .val (.ref ar), .val (.int (0 : Int32)), .val (.int (2 : Int32)), .val .null, .val (.ref b168)] [(.ref a)]))
  refine Run.pre (fun _ k => XS.aload X168.here hx rfl (hb hby d16_42) rfl rfl k) ?_
  show Run p e below s _ _ _ (T168.setTop (mkF m 44 #[.val (.ref a), .val (.ref ar), .val (.int (0 : Int32)), .val (.int (2 : Int32)), .val .null, .val (.ref b168)] [(.ref b168), (.ref a)]))
  refine Run.pre (fun _ k => XS.iloadN X168.here hx rfl (hb hby d16_44) rfl  k) ?_
  show Run p e below s _ _ _ (T168.setTop (mkF m 45 #[.val (.ref a), .val (.ref ar), .val (.int (0 : Int32)), .val (.int (2 : Int32)), .val .null, .val (.ref b168)] [(.int (2 : Int32)), (.ref b168), (.ref a)]))
  refine Run.callS hK hS (Nat.le_refl _) X168 hx hZ (y := (⟨"java/lang/StringUTF16", "coderFromArrayLen", "([BI)B"⟩ : MethodName)) hown (hw _ (List.mem_of_getElem? (i := 123) rfl)) (hw _ (List.mem_of_getElem? (i := 124) rfl)) (hw _ (List.mem_of_getElem? (i := 118) rfl)) (hw _ (List.mem_of_getElem? (i := 125) rfl)) (by decide) (W := 1) (rmCo_2 l Z a0 hw b168 k168 c0 c1 T168.heap n0 (Nat.le_trans Z0 K168.1) vb168) rfl (by decide) (by decide) (by decide) (by decide) (fun _ _ => trivial) (g := (mkF m 45 #[.val (.ref a), .val (.ref ar), .val (.int (0 : Int32)), .val (.int (2 : Int32)), .val .null, .val (.ref b168)] [(.int (2 : Int32)), (.ref b168), (.ref a)])) rfl (by rw [hml]; rfl) (argsL := [(.ref b168), (.int (2 : Int32))]) (rest := [(.ref a)]) (lenOf pd_7 rfl) rfl (by show 2 * 0 + _ ≤ _; exact Nat.le_of_eq rfl) (hb hby d16_45) ?_
  intro v169 T169 L169 X169 hS hZ hown hV169 hQ169
  obtain ⟨rfl, Nq169, he169⟩ := hQ169
  have N169 := Fr.app N168 Nq169
  have e169 : T169.heap = T168.heap := he169
  show Run p e below s _ _ _ (T169.setTop (mkF m 48 #[.val (.ref a), .val (.ref ar), .val (.int (0 : Int32)), .val (.int (2 : Int32)), .val .null, .val (.ref b168)] [(.int (0 : Int32)), (.ref a)]))
  have f170 := (E_a.keep Kc168)
  have f171 := (FCo.keep Kc168 nin0)
  obtain ⟨T172, h172, X172, e172, W172, st172⟩ := putFN X169 hx hZ hown (hw _ (List.mem_of_getElem? (i := 28) rfl)) Via.refl e169 f171 f170 (Or.inr ⟨(hw _ (List.mem_of_getElem? (i := 29) rfl)), rfl, hnm⟩) (hw _ (List.mem_of_getElem? (i := 14) rfl)) (ty := .byte) (v' := (.int (nar .byte (0 : Int32)))) (by decide) rfl (fits_nar_byte _) (g := (mkF m 48 #[.val (.ref a), .val (.ref ar), .val (.int (0 : Int32)), .val (.int (2 : Int32)), .val .null, .val (.ref b168)] [(.int (0 : Int32)), (.ref a)])) rfl rfl (hb hby d16_48)
  refine Run.pre st172 ?_
  have Fw172 := f171.same W172
  have K172 : Keep h0 h172 [a] := K168.wr W172 (Or.inl (by simp))
  have N172 := Fr.snoc X172 N169 g_a
  show Run p e below s _ _ _ (T172.setTop (mkF m 51 #[.val (.ref a), .val (.ref ar), .val (.int (0 : Int32)), .val (.int (2 : Int32)), .val .null, .val (.ref b168)] []))
  refine Run.pre (fun _ k => XS.aloadN X172.here hx rfl (hb hby d16_51) rfl rfl k) ?_
  show Run p e below s _ _ _ (T172.setTop (mkF m 52 #[.val (.ref a), .val (.ref ar), .val (.int (0 : Int32)), .val (.int (2 : Int32)), .val .null, .val (.ref b168)] [(.ref a)]))
  refine Run.pre (fun _ k => XS.aload X172.here hx rfl (hb hby d16_52) rfl rfl k) ?_
  show Run p e below s _ _ _ (T172.setTop (mkF m 54 #[.val (.ref a), .val (.ref ar), .val (.int (0 : Int32)), .val (.int (2 : Int32)), .val .null, .val (.ref b168)] [(.ref b168), (.ref a)]))
  have f173 := (f170.wr W172)
  have f174 := ((FV.keep Kc168 nin0).other W172 (Or.inr (slot_ne (Or.inr (hw _ (List.mem_of_getElem? (i := 27) rfl))) (Or.inr (hw _ (List.mem_of_getElem? (i := 29) rfl))) (by decide) (t := (.array .byte)) (t' := .byte) (by decide) (by decide))))
  obtain ⟨T175, h175, X175, e175, W175, st175⟩ := putF X172 hx hZ hown (host := "") (Or.inl (hw _ (List.mem_of_getElem? (i := 26) rfl))) Via.refl e172 f174 f173 (Or.inr ⟨(hw _ (List.mem_of_getElem? (i := 27) rfl)), rfl, hnm⟩) (hw _ (List.mem_of_getElem? (i := 14) rfl)) (ty := (.array .byte)) (by decide) rfl rfl (g := (mkF m 54 #[.val (.ref a), .val (.ref ar), .val (.int (0 : Int32)), .val (.int (2 : Int32)), .val .null, .val (.ref b168)] [(.ref b168), (.ref a)])) rfl rfl (hb hby d16_54)
  refine Run.pre st175 ?_
  have Fw175 := f174.same W175
  have K175 : Keep h0 h175 [a] := K172.wr W175 (Or.inl (by simp))
  have N175 := Fr.snoc X175 N172 g_a
  show Run p e below s _ _ _ (T175.setTop (mkF m 57 #[.val (.ref a), .val (.ref ar), .val (.int (0 : Int32)), .val (.int (2 : Int32)), .val .null, .val (.ref b168)] []))
  have f176 := (Fw172.other W175 (Or.inr (slot_ne (Or.inr (hw _ (List.mem_of_getElem? (i := 29) rfl))) (Or.inr (hw _ (List.mem_of_getElem? (i := 27) rfl))) (by decide) (t := .byte) (t' := (.array .byte)) (by decide) (by decide))))
  have f177 := ((vb168.other W172 (Ne.symm (Nat.ne_of_lt (Nat.lt_of_lt_of_le E_a.lt sz168)))).other W175 (Ne.symm (Nat.ne_of_lt (Nat.lt_of_lt_of_le E_a.lt sz168))))
  exact Run.retV hK hS (by first | exact Nat.le_refl _ | (rw [e175]; exact (Nat.le_trans (Nat.le_trans (Nat.le_of_eq (congrArg Array.size e169)) (Keep.of_wr W172).1) (Keep.of_wr W175).1))) X175 hx hret hlk (hb hby d16_57) (by first | (rw [e175]; exact ⟨b168, k168, rfl, N175, K175, sz_b168, f176, Fw175, f177⟩) | exact ⟨b168, k168, rfl, N175, K175, sz_b168, f176, Fw175, f177⟩) (by decide) (by decide)
theorem d15_0 : decode jdk_42_method_3_code 0 = .ok (.aload_n 0, 1) := by decide +kernel
theorem d15_1 : decode jdk_42_method_3_code 1 = .ok (.aload_n 1, 1) := by decide +kernel
theorem d15_2 : decode jdk_42_method_3_code 2 = .ok (.iconst 0, 1) := by decide +kernel
theorem d15_3 : decode jdk_42_method_3_code 3 = .ok (.aload_n 1, 1) := by decide +kernel
theorem d15_4 : decode jdk_42_method_3_code 4 = .ok (.arraylength, 1) := by decide +kernel
theorem d15_5 : decode jdk_42_method_3_code 5 = .ok (.aconst_null, 1) := by decide +kernel
theorem pd_8 : parseMethodDescriptor "([CIILjava/lang/Void;)V" = some ⟨[(.array .char), .int, .int, (.object "java/lang/Void")], none⟩ := by decide +kernel
theorem d15_6 : decode jdk_42_method_3_code 6 = .ok (.invokespecial 27, 3) := by decide +kernel
theorem d15_9 : decode jdk_42_method_3_code 9 = .ok (.return_, 1) := by decide +kernel
theorem pn_15 : plainName "java/lang/String" = true := by first | (simp [plainName, overriddenIn]; done) | decide +kernel
set_option maxRecDepth 65536 in
set_option maxHeartbeats 40000000 in
theorem rmI_2 (l : Launch) (Z : State) (a0 : Array Value) (hw : ∀ d ∈ tables_1, d.before a0 Z = true) (a : Addr) (ar : Addr) (kc : ClassId) (c0 : Int32) (c1 : Int32) (cs : Int32) (h0 : Heap) (n0 : Nat) (Z0 : n0 ≤ h0.size) (OL : Old Z n0 h0) (SC : Sta Z Z.heap "java/lang/String" "COMPACT_STRINGS" "Z" (.int cs)) (hcs : ¬ cs = 0) (AC : Arv Z h0 ar kc .char 2 [(.int c0), (.int c1)] (.int 0)) (E_a : Exa Z h0 a "java/lang/String") (FV : Fld Z h0 a "java/lang/String" "value" "[B" .null) (FCo : Fld Z h0 a "java/lang/String" "coder" "B" (.int 0)) (g_a : n0 ≤ a) (nar_ : ar ≠ a) (q0 : ¬ (255 : Int32) < c0) (q1 : ¬ (255 : Int32) < c1) :
    Con l (⟨"java/lang/String", "<init>", "([C)V"⟩ : MethodName) jdk_42_method_3_code 2 none ({ frames := 3, cells := 1, slots := 2, locals := 52 } : Room) Z #[(.ref a), (.ref ar)] h0 (fun _ => True) (fun v h L vm => ∃ b : Addr, ∃ k : ClassId, v = none ∧ Fr n0 L ∧ Keep h0 h [a] ∧ h0.size ≤ b ∧ Fld Z h a "java/lang/String" "coder" "B" (.int 0) ∧ Fld Z h a "java/lang/String" "value" "[B" (.ref b) ∧ Arv Z h b k .byte 2 [(.int (nar .byte (c0.toInt8.toInt32))), (.int (nar .byte (c1.toInt8.toInt32)))] (.int 0)) := by
  refine Con.mk (plainFor_of_name pn_15) (fun m => show entryFrame m #[(.ref a), (.ref ar)] 2 = mkF m 0 #[.val (.ref a), .val (.ref ar)] [] by first | (simp [entryFrame, mkF, argsToLocals, Value.category]; done) | rfl) ?_
  intro p e s m below meth c s₁ vm0 hx hby hml hown hnm hret hlk hZ X0 e0 hS hs0 hP0 hK
  have N0 := Fr.nil n0
  show Run p e below s _ _ _ (s₁.setTop (mkF m 0 #[.val (.ref a), .val (.ref ar)] []))
  refine Run.pre (fun _ k => XS.aloadN X0.here hx rfl (hb hby d15_0) rfl rfl k) ?_
  show Run p e below s _ _ _ (s₁.setTop (mkF m 1 #[.val (.ref a), .val (.ref ar)] [(.ref a)]))
  refine Run.pre (fun _ k => XS.aloadN X0.here hx rfl (hb hby d15_1) rfl rfl k) ?_
  show Run p e below s _ _ _ (s₁.setTop (mkF m 2 #[.val (.ref a), .val (.ref ar)] [(.ref ar), (.ref a)]))
  refine Run.pre (fun _ k => XS.iconst X0.here hx rfl (hb hby d15_2) k) ?_
  show Run p e below s _ _ _ (s₁.setTop (mkF m 3 #[.val (.ref a), .val (.ref ar)] [(.int (0 : Int32)), (.ref ar), (.ref a)]))
  refine Run.pre (fun _ k => XS.aloadN X0.here hx rfl (hb hby d15_3) rfl rfl k) ?_
  show Run p e below s _ _ _ (s₁.setTop (mkF m 4 #[.val (.ref a), .val (.ref ar)] [(.ref ar), (.int (0 : Int32)), (.ref ar), (.ref a)]))
  obtain ⟨c178, Ar178, -, S178, N178, -, -⟩ := id AC
  refine Run.pre (X0.arraylength hx (by rw [e0]; exact Ar178.1) (State.isArrayOf_alike hZ.alike Ar178.2.1) (g := (mkF m 4 #[.val (.ref a), .val (.ref ar)] [(.ref ar), (.int (0 : Int32)), (.ref ar), (.ref a)])) rfl rfl (hb hby d15_4)) ?_
  rw [len_of S178 N178]
  show Run p e below s _ _ _ (s₁.setTop (mkF m 5 #[.val (.ref a), .val (.ref ar)] [(.int (2 : Int32)), (.int (0 : Int32)), (.ref ar), (.ref a)]))
  refine Run.pre (fun _ k => XS.aconstNull X0.here hx rfl (hb hby d15_5) k) ?_
  show Run p e below s _ _ _ (s₁.setTop (mkF m 6 #[.val (.ref a), .val (.ref ar)] [.null, (.int (2 : Int32)), (.int (0 : Int32)), (.ref ar), (.ref a)]))
  refine Run.callI hK hS (by first | exact Nat.le_refl _ | (rw [e0]; exact (Nat.zero_le _))) X0 hx hZ (y := (⟨"java/lang/String", "<init>", "([CIILjava/lang/Void;)V"⟩ : MethodName)) rfl hown (hw _ (List.mem_of_getElem? (i := 113) rfl)) (hw _ (List.mem_of_getElem? (i := 114) rfl)) (hw _ (List.mem_of_getElem? (i := 115) rfl)) (hw _ (List.mem_of_getElem? (i := 6) rfl)) (by decide) (a := a) (W := 0) (rmI4_2 l Z a0 hw a ar kc c0 c1 cs h0 n0 (Nat.le_trans Z0 (Keep.refl h0 [a]).1) OL SC hcs AC E_a FV FCo g_a nar_ q0 q1) e0 (by decide) (by decide) (by decide) (by decide) (fun _ _ => trivial) (g := (mkF m 6 #[.val (.ref a), .val (.ref ar)] [.null, (.int (2 : Int32)), (.int (0 : Int32)), (.ref ar), (.ref a)])) rfl (by rw [hml]; rfl) (argsL := [(.ref ar), (.int (0 : Int32)), (.int (2 : Int32)), .null]) (rest := []) (lenOf pd_8 rfl) rfl (by show 2 * 0 + _ ≤ _; exact Nat.le_of_eq rfl) (hb hby d15_6) ?_
  intro v179 T179 L179 X179 hS hZ hown hV179 hQ179
  obtain ⟨b179, k179, rfl, Nq179, Kc179, sz179, fc179, fv179, vb179⟩ := hQ179
  have N179 := Fr.app N0 Nq179
  have K179 : Keep h0 T179.heap [a] := (Keep.refl h0 [a]).trans Kc179 (allS (Or.inl (by simp)) all0)
  have sz_b179 : h0.size ≤ b179 := Nat.le_trans (Keep.refl h0 [a]).1 sz179
  have gn_b179 : n0 ≤ b179 := Nat.le_trans Z0 sz_b179
  show Run p e below s _ _ _ (T179.setTop (mkF m 9 #[.val (.ref a), .val (.ref ar)] []))
  exact Run.retV hK hS (Nat.le_refl _) X179 hx hret hlk (hb hby d15_9) ⟨b179, k179, rfl, N179, K179, sz_b179, fc179, fv179, vb179⟩ (by decide) (by decide)
theorem own_strAtoms {Z : State} {a0 : Array Value} (hw : ∀ d ∈ tables_1, d.before a0 Z = true) : ∀ a ∈ Bundle.stringAtoms, a.before a0 Z = true := by
  intro d hd
  simp only [Bundle.stringAtoms, Bundle.sN, List.mem_cons, List.not_mem_nil, or_false] at hd
  rcases hd with rfl | rfl | rfl | rfl | rfl | rfl | rfl
  · exact (hw _ (List.mem_of_getElem? (i := 6) rfl))
  · exact (hw _ (List.mem_of_getElem? (i := 14) rfl))
  · exact (hw _ (List.mem_of_getElem? (i := 18) rfl))
  · exact (hw _ (List.mem_of_getElem? (i := 27) rfl))
  · exact (hw _ (List.mem_of_getElem? (i := 29) rfl))
  · exact (hw _ (List.mem_of_getElem? (i := 127) rfl))
  · exact (hw _ (List.mem_of_getElem? (i := 128) rfl))
theorem d16_8 : decode jdk_42_method_149_code 8 = .ok (.aload_n 0, 1) := by decide +kernel
theorem d16_9 : decode jdk_42_method_149_code 9 = .ok (.ldc 7, 2) := by decide +kernel
theorem d16_11 : decode jdk_42_method_149_code 11 = .ok (.getfield 9, 3) := by decide +kernel
theorem d16_14 : decode jdk_42_method_149_code 14 = .ok (.putfield 9, 3) := by decide +kernel
theorem d16_17 : decode jdk_42_method_149_code 17 = .ok (.aload_n 0, 1) := by decide +kernel
theorem d16_18 : decode jdk_42_method_149_code 18 = .ok (.ldc 7, 2) := by decide +kernel
theorem d16_20 : decode jdk_42_method_149_code 20 = .ok (.getfield 15, 3) := by decide +kernel
theorem d16_23 : decode jdk_42_method_149_code 23 = .ok (.putfield 15, 3) := by decide +kernel
theorem d16_26 : decode jdk_42_method_149_code 26 = .ok (.return_, 1) := by decide +kernel
set_option maxRecDepth 65536 in
set_option maxHeartbeats 40000000 in
theorem rmI4_0 (l : Launch) (Z : State) (a0 : Array Value) (hw : ∀ d ∈ tables_1, d.before a0 Z = true) (a : Addr) (ar : Addr) (h0 : Heap) (n0 : Nat) (Z0 : n0 ≤ h0.size) (OL : Old Z n0 h0) (E_a : Exa Z h0 a "java/lang/String") (FV : Fld Z h0 a "java/lang/String" "value" "[B" .null) (FCo : Fld Z h0 a "java/lang/String" "coder" "B" (.int 0)) (g_a : n0 ≤ a) (hH : Jvm.Lit.constHeld Z "java/lang/String" 7) (hcw : Jvm.Lit.compactW.before a0 Z = true) :
    Con l (⟨"java/lang/String", "<init>", "([CIILjava/lang/Void;)V"⟩ : MethodName) jdk_42_method_149_code 6 none ({ frames := 1, cells := 2, slots := 4, locals := 12 } : Room) Z #[(.ref a), (.ref ar), (.int (0 : Int32)), (.int (0 : Int32)), .null] h0 (fun vm => IB Z vm []) (fun v h L vm => ∃ b : Addr, ∃ k : ClassId, v = none ∧ Fr n0 L ∧ Keep h0 h [a] ∧ b ≠ a ∧ Fld Z h a "java/lang/String" "coder" "B" (.int 0) ∧ Fld Z h a "java/lang/String" "value" "[B" (.ref b) ∧ Arv Z h b k .byte 0 [] (.int 0)) := by
  refine Con.mk (plainFor_of_name pn_16) (fun m => show entryFrame m #[(.ref a), (.ref ar), (.int (0 : Int32)), (.int (0 : Int32)), .null] 6 = mkF m 0 #[.val (.ref a), .val (.ref ar), .val (.int (0 : Int32)), .val (.int (0 : Int32)), .val .null, .unset] [] by first | (simp [entryFrame, mkF, argsToLocals, Value.category]; done) | rfl) ?_
  intro p e s m below meth c s₁ vm0 hx hby hml hown hnm hret hlk hZ X0 e0 hS hs0 hP0 hK
  have N0 := Fr.nil n0
  show Run p e below s _ _ _ (s₁.setTop (mkF m 0 #[.val (.ref a), .val (.ref ar), .val (.int (0 : Int32)), .val (.int (0 : Int32)), .val .null, .unset] []))
  refine Run.pre (fun _ k => XS.aloadN X0.here hx rfl (hb hby d16_0) rfl rfl k) ?_
  show Run p e below s _ _ _ (s₁.setTop (mkF m 1 #[.val (.ref a), .val (.ref ar), .val (.int (0 : Int32)), .val (.int (0 : Int32)), .val .null, .unset] [(.ref a)]))
  obtain ⟨T180, X180, e180, st180⟩ := initO X0 hx hZ hown (hw _ (List.mem_of_getElem? (i := 23) rfl)) (hw _ (List.mem_of_getElem? (i := 24) rfl)) (hw _ (List.mem_of_getElem? (i := 25) rfl)) e0 (g := (mkF m 1 #[.val (.ref a), .val (.ref ar), .val (.int (0 : Int32)), .val (.int (0 : Int32)), .val .null, .unset] [(.ref a)])) rfl (by rw [hml]; rfl) rfl (hb hby d16_1) (by decide) (W := 0) (by show 2 * 0 + _ ≤ _; exact Nat.le_of_eq rfl) (by decide)
  refine Run.pre st180 ?_
  show Run p e below s _ _ _ (T180.setTop (mkF m 4 #[.val (.ref a), .val (.ref ar), .val (.int (0 : Int32)), .val (.int (0 : Int32)), .val .null, .unset] []))
  refine Run.pre (fun _ k => XS.iloadN X180.here hx rfl (hb hby d16_4) rfl  k) ?_
  show Run p e below s _ _ _ (T180.setTop (mkF m 5 #[.val (.ref a), .val (.ref ar), .val (.int (0 : Int32)), .val (.int (0 : Int32)), .val .null, .unset] [(.int (0 : Int32))]))
  refine Run.pre (fun _ k => XS.ifNo X180.here hx rfl (hb hby d16_5) rfl ((if0 _ _).trans (teq ((by decide) : (0 : Int32) = (0 : Int32))).2) k) ?_
  show Run p e below s _ _ _ (T180.setTop (mkF m 8 #[.val (.ref a), .val (.ref ar), .val (.int (0 : Int32)), .val (.int (0 : Int32)), .val .null, .unset] []))
  refine Run.pre (fun _ k => XS.aloadN X180.here hx rfl (hb hby d16_8) rfl rfl k) ?_
  show Run p e below s _ _ _ (T180.setTop (mkF m 9 #[.val (.ref a), .val (.ref ar), .val (.int (0 : Int32)), .val (.int (0 : Int32)), .val .null, .unset] [(.ref a)]))
  obtain ⟨al, T9, h9, k9, bl, kl, X9, e9, E9, hS, hk9, hZ, hown, El, Cl, Vl, Bl, -, -, I9, Lt9, st9⟩ := ldcSVL (s := s) X180 hx hZ hown (hw _ (List.mem_of_getElem? (i := 126) rfl)) (own_strAtoms hw) e180 hS (Nat.zero_le _) (Fr.nil _) (fun b cl q => by rw [hs0]; exact OL.2.2 b cl q) hP0 (by simp) hH hcw (vs := []) (z := 0) ⟨by simp, rfl⟩ (by decide) rfl (g := (mkF m 9 #[.val (.ref a), .val (.ref ar), .val (.int (0 : Int32)), .val (.int (0 : Int32)), .val .null, .unset] [(.ref a)])) rfl (hb hby d16_9) (n := 0) (by decide) (by decide) (by decide) (by decide)
  refine Run.pre st9 ?_
  have K9 : Keep h0 h9 [a] := (Keep.refl h0 [a]).ext E9
  have f181 := (FV.ext E9)
  have nala : al ≠ a := Vl.ne f181 (by simp)
  have f182 := (E_a.ext E9)
  have nbla : bl ≠ a := own_neArv f182 (hw _ (List.mem_of_getElem? (i := 14) rfl)) Bl
  show Run p e below s _ _ _ (T9.setTop (mkF m 11 #[.val (.ref a), .val (.ref ar), .val (.int (0 : Int32)), .val (.int (0 : Int32)), .val .null, .unset] [(.ref al), (.ref a)]))
  obtain ⟨T183, X183, e183, st183⟩ := getF X9 hx hZ hown (host := "") (Or.inl (hw _ (List.mem_of_getElem? (i := 26) rfl))) Via.refl e9 Vl (g := (mkF m 11 #[.val (.ref a), .val (.ref ar), .val (.int (0 : Int32)), .val (.int (0 : Int32)), .val .null, .unset] [(.ref al), (.ref a)])) rfl rfl (hb hby d16_11)
  refine Run.pre st183 ?_
  show Run p e below s _ _ _ (T183.setTop (mkF m 14 #[.val (.ref a), .val (.ref ar), .val (.int (0 : Int32)), .val (.int (0 : Int32)), .val .null, .unset] [(.ref bl), (.ref a)]))
  obtain ⟨T184, h184, X184, e184, W184, st184⟩ := putF X183 hx hZ hown (host := "") (Or.inl (hw _ (List.mem_of_getElem? (i := 26) rfl))) Via.refl e183 f181 f182 (Or.inr ⟨(hw _ (List.mem_of_getElem? (i := 27) rfl)), rfl, hnm⟩) (hw _ (List.mem_of_getElem? (i := 14) rfl)) (ty := (.array .byte)) (by decide) rfl rfl (g := (mkF m 14 #[.val (.ref a), .val (.ref ar), .val (.int (0 : Int32)), .val (.int (0 : Int32)), .val .null, .unset] [(.ref bl), (.ref a)])) rfl rfl (hb hby d16_14)
  refine Run.pre st184 ?_
  have Fw184 := f181.same W184
  have K184 : Keep h0 h184 [a] := K9.wr W184 (Or.inl (by simp))
  have N184 := Fr.snoc X184 N0 g_a
  show Run p e below s _ _ _ (T184.setTop (mkF m 17 #[.val (.ref a), .val (.ref ar), .val (.int (0 : Int32)), .val (.int (0 : Int32)), .val .null, .unset] []))
  refine Run.pre (fun _ k => XS.aloadN X184.here hx rfl (hb hby d16_17) rfl rfl k) ?_
  show Run p e below s _ _ _ (T184.setTop (mkF m 18 #[.val (.ref a), .val (.ref ar), .val (.int (0 : Int32)), .val (.int (0 : Int32)), .val .null, .unset] [(.ref a)]))
  refine Run.pre (ldcAgain (s := s) (vm0 := T9.vm) X184 hx hZ hown (hw _ (List.mem_of_getElem? (i := 126) rfl)) (a := al) Lt9 (g := (mkF m 18 #[.val (.ref a), .val (.ref ar), .val (.int (0 : Int32)), .val (.int (0 : Int32)), .val .null, .unset] [(.ref a)])) rfl (hb hby d16_18)) ?_
  show Run p e below s _ _ _ (T184.setTop (mkF m 20 #[.val (.ref a), .val (.ref ar), .val (.int (0 : Int32)), .val (.int (0 : Int32)), .val .null, .unset] [(.ref al), (.ref a)]))
  have f185 := (Cl.other W184 (Or.inl nala))
  obtain ⟨T186, X186, e186, st186⟩ := getF X184 hx hZ hown (host := "") (Or.inl (hw _ (List.mem_of_getElem? (i := 28) rfl))) Via.refl e184 f185 (g := (mkF m 20 #[.val (.ref a), .val (.ref ar), .val (.int (0 : Int32)), .val (.int (0 : Int32)), .val .null, .unset] [(.ref al), (.ref a)])) rfl rfl (hb hby d16_20)
  refine Run.pre st186 ?_
  show Run p e below s _ _ _ (T186.setTop (mkF m 23 #[.val (.ref a), .val (.ref ar), .val (.int (0 : Int32)), .val (.int (0 : Int32)), .val .null, .unset] [(.int (0 : Int32)), (.ref a)]))
  have f187 := (f182.wr W184)
  have f188 := ((FCo.ext E9).other W184 (Or.inr (slot_ne (Or.inr (hw _ (List.mem_of_getElem? (i := 29) rfl))) (Or.inr (hw _ (List.mem_of_getElem? (i := 27) rfl))) (by decide) (t := .byte) (t' := (.array .byte)) (by decide) (by decide))))
  obtain ⟨T189, h189, X189, e189, W189, st189⟩ := putFN X186 hx hZ hown (hw _ (List.mem_of_getElem? (i := 28) rfl)) Via.refl e186 f188 f187 (Or.inr ⟨(hw _ (List.mem_of_getElem? (i := 29) rfl)), rfl, hnm⟩) (hw _ (List.mem_of_getElem? (i := 14) rfl)) (ty := .byte) (v' := (.int (nar .byte (0 : Int32)))) (by decide) rfl (fits_nar_byte _) (g := (mkF m 23 #[.val (.ref a), .val (.ref ar), .val (.int (0 : Int32)), .val (.int (0 : Int32)), .val .null, .unset] [(.int (0 : Int32)), (.ref a)])) rfl rfl (hb hby d16_23)
  refine Run.pre st189 ?_
  have Fw189 := f188.same W189
  have K189 : Keep h0 h189 [a] := K184.wr W189 (Or.inl (by simp))
  have N189 := Fr.snoc X189 N184 g_a
  show Run p e below s _ _ _ (T189.setTop (mkF m 26 #[.val (.ref a), .val (.ref ar), .val (.int (0 : Int32)), .val (.int (0 : Int32)), .val .null, .unset] []))
  have f190 := (Fw184.other W189 (Or.inr (slot_ne (Or.inr (hw _ (List.mem_of_getElem? (i := 27) rfl))) (Or.inr (hw _ (List.mem_of_getElem? (i := 29) rfl))) (by decide) (t := (.array .byte)) (t' := .byte) (by decide) (by decide))))
  have f191 := ((Bl.other W184 nbla).other W189 nbla)
  exact Run.retV hK hS (by first | exact Nat.le_refl _ | (rw [e189]; exact (Nat.le_trans (Nat.le_trans hk9 (Keep.of_wr W184).1) (Keep.of_wr W189).1))) X189 hx hret hlk (hb hby d16_26) (by first | (rw [e189]; exact ⟨bl, kl, rfl, N189, K189, nbla, Fw189, f190, f191⟩) | exact ⟨bl, kl, rfl, N189, K189, nbla, Fw189, f190, f191⟩) (by decide) (by decide)
set_option maxRecDepth 65536 in
set_option maxHeartbeats 40000000 in
theorem rmI_0 (l : Launch) (Z : State) (a0 : Array Value) (hw : ∀ d ∈ tables_1, d.before a0 Z = true) (a : Addr) (ar : Addr) (kc : ClassId) (h0 : Heap) (n0 : Nat) (Z0 : n0 ≤ h0.size) (OL : Old Z n0 h0) (E_a : Exa Z h0 a "java/lang/String") (FV : Fld Z h0 a "java/lang/String" "value" "[B" .null) (FCo : Fld Z h0 a "java/lang/String" "coder" "B" (.int 0)) (g_a : n0 ≤ a) (hH : Jvm.Lit.constHeld Z "java/lang/String" 7) (hcw : Jvm.Lit.compactW.before a0 Z = true) (AC : Arv Z h0 ar kc .char 0 [] (.int 0)) :
    Con l (⟨"java/lang/String", "<init>", "([C)V"⟩ : MethodName) jdk_42_method_3_code 2 none ({ frames := 2, cells := 2, slots := 4, locals := 29 } : Room) Z #[(.ref a), (.ref ar)] h0 (fun vm => IB Z vm []) (fun v h L vm => ∃ b : Addr, ∃ k : ClassId, v = none ∧ Fr n0 L ∧ Keep h0 h [a] ∧ b ≠ a ∧ Fld Z h a "java/lang/String" "coder" "B" (.int 0) ∧ Fld Z h a "java/lang/String" "value" "[B" (.ref b) ∧ Arv Z h b k .byte 0 [] (.int 0)) := by
  refine Con.mk (plainFor_of_name pn_15) (fun m => show entryFrame m #[(.ref a), (.ref ar)] 2 = mkF m 0 #[.val (.ref a), .val (.ref ar)] [] by first | (simp [entryFrame, mkF, argsToLocals, Value.category]; done) | rfl) ?_
  intro p e s m below meth c s₁ vm0 hx hby hml hown hnm hret hlk hZ X0 e0 hS hs0 hP0 hK
  have N0 := Fr.nil n0
  show Run p e below s _ _ _ (s₁.setTop (mkF m 0 #[.val (.ref a), .val (.ref ar)] []))
  refine Run.pre (fun _ k => XS.aloadN X0.here hx rfl (hb hby d15_0) rfl rfl k) ?_
  show Run p e below s _ _ _ (s₁.setTop (mkF m 1 #[.val (.ref a), .val (.ref ar)] [(.ref a)]))
  refine Run.pre (fun _ k => XS.aloadN X0.here hx rfl (hb hby d15_1) rfl rfl k) ?_
  show Run p e below s _ _ _ (s₁.setTop (mkF m 2 #[.val (.ref a), .val (.ref ar)] [(.ref ar), (.ref a)]))
  refine Run.pre (fun _ k => XS.iconst X0.here hx rfl (hb hby d15_2) k) ?_
  show Run p e below s _ _ _ (s₁.setTop (mkF m 3 #[.val (.ref a), .val (.ref ar)] [(.int (0 : Int32)), (.ref ar), (.ref a)]))
  refine Run.pre (fun _ k => XS.aloadN X0.here hx rfl (hb hby d15_3) rfl rfl k) ?_
  show Run p e below s _ _ _ (s₁.setTop (mkF m 4 #[.val (.ref a), .val (.ref ar)] [(.ref ar), (.int (0 : Int32)), (.ref ar), (.ref a)]))
  obtain ⟨c192, Ar192, -, S192, N192, -, -⟩ := id AC
  refine Run.pre (X0.arraylength hx (by rw [e0]; exact Ar192.1) (State.isArrayOf_alike hZ.alike Ar192.2.1) (g := (mkF m 4 #[.val (.ref a), .val (.ref ar)] [(.ref ar), (.int (0 : Int32)), (.ref ar), (.ref a)])) rfl rfl (hb hby d15_4)) ?_
  rw [len_of S192 N192]
  show Run p e below s _ _ _ (s₁.setTop (mkF m 5 #[.val (.ref a), .val (.ref ar)] [(.int (0 : Int32)), (.int (0 : Int32)), (.ref ar), (.ref a)]))
  refine Run.pre (fun _ k => XS.aconstNull X0.here hx rfl (hb hby d15_5) k) ?_
  show Run p e below s _ _ _ (s₁.setTop (mkF m 6 #[.val (.ref a), .val (.ref ar)] [.null, (.int (0 : Int32)), (.int (0 : Int32)), (.ref ar), (.ref a)]))
  refine Run.callI hK hS (by first | exact Nat.le_refl _ | (rw [e0]; exact (Nat.zero_le _))) X0 hx hZ (y := (⟨"java/lang/String", "<init>", "([CIILjava/lang/Void;)V"⟩ : MethodName)) rfl hown (hw _ (List.mem_of_getElem? (i := 113) rfl)) (hw _ (List.mem_of_getElem? (i := 114) rfl)) (hw _ (List.mem_of_getElem? (i := 115) rfl)) (hw _ (List.mem_of_getElem? (i := 6) rfl)) (by decide) (a := a) (W := 0) (rmI4_0 l Z a0 hw a ar h0 n0 (Nat.le_trans Z0 (Keep.refl h0 [a]).1) OL E_a FV FCo g_a hH hcw) e0 (by decide) (by decide) (by decide) (by decide) (fun _ q => own_ibStays hP0 q) (g := (mkF m 6 #[.val (.ref a), .val (.ref ar)] [.null, (.int (0 : Int32)), (.int (0 : Int32)), (.ref ar), (.ref a)])) rfl (by rw [hml]; rfl) (argsL := [(.ref ar), (.int (0 : Int32)), (.int (0 : Int32)), .null]) (rest := []) (lenOf pd_8 rfl) rfl (by show 2 * 0 + _ ≤ _; exact Nat.le_of_eq rfl) (hb hby d15_6) ?_
  intro v193 T193 L193 X193 hS hZ hown hV193 hQ193
  obtain ⟨b193, k193, rfl, Nq193, Kc193, nb193, fc193, fv193, vb193⟩ := hQ193
  have N193 := Fr.app N0 Nq193
  have K193 : Keep h0 T193.heap [a] := (Keep.refl h0 [a]).trans Kc193 (allS (Or.inl (by simp)) all0)
  show Run p e below s _ _ _ (T193.setTop (mkF m 9 #[.val (.ref a), .val (.ref ar)] []))
  exact Run.retV hK hS (Nat.le_refl _) X193 hx hret hlk (hb hby d15_9) ⟨b193, k193, rfl, N193, K193, nb193, fc193, fv193, vb193⟩ (by decide) (by decide)
theorem d1_0 : decode method_2_code 0 = .ok (.iload_n 0, 1) := by decide +kernel
theorem d1_1 : decode method_2_code 1 = .ok (.sipush 255, 3) := by decide +kernel
theorem d1_4 : decode method_2_code 4 = .ok (.iand, 1) := by decide +kernel
theorem d1_5 : decode method_2_code 5 = .ok (.i2c, 1) := by decide +kernel
theorem d1_6 : decode method_2_code 6 = .ok (.istore_n 3, 1) := by decide +kernel
theorem d1_7 : decode method_2_code 7 = .ok (.iload_n 1, 1) := by decide +kernel
theorem d1_8 : decode method_2_code 8 = .ok (.sipush 255, 3) := by decide +kernel
theorem d1_11 : decode method_2_code 11 = .ok (.iand, 1) := by decide +kernel
theorem d1_12 : decode method_2_code 12 = .ok (.i2c, 1) := by decide +kernel
theorem d1_13 : decode method_2_code 13 = .ok (.istore 4, 2) := by decide +kernel
theorem d1_15 : decode method_2_code 15 = .ok (.iload_n 2, 1) := by decide +kernel
theorem d1_16 : decode method_2_code 16 = .ok (.iconst 3, 1) := by decide +kernel
theorem d1_17 : decode method_2_code 17 = .ok (.iand, 1) := by decide +kernel
theorem d1_18 : decode method_2_code 18 = .ok (.istore 5, 2) := by decide +kernel
theorem d1_20 : decode method_2_code 20 = .ok (.iload 5, 2) := by decide +kernel
theorem d1_22 : decode method_2_code 22 = .ok (.ifCond .ne 5, 3) := by decide +kernel
theorem d1_25 : decode method_2_code 25 = .ok (.aconst_null, 1) := by decide +kernel
theorem d1_26 : decode method_2_code 26 = .ok (.areturn, 1) := by decide +kernel
theorem d1_27 : decode method_2_code 27 = .ok (.iload 5, 2) := by decide +kernel
theorem d1_29 : decode method_2_code 29 = .ok (.iconst 1, 1) := by decide +kernel
theorem d1_30 : decode method_2_code 30 = .ok (.if_icmp .ne 14, 3) := by decide +kernel
theorem d1_33 : decode method_2_code 33 = .ok (.new 7, 3) := by decide +kernel
theorem d1_36 : decode method_2_code 36 = .ok (.dup, 1) := by decide +kernel
theorem d1_37 : decode method_2_code 37 = .ok (.iconst 0, 1) := by decide +kernel
theorem d1_38 : decode method_2_code 38 = .ok (.newarray .char, 2) := by decide +kernel
theorem pd_9 : parseMethodDescriptor "([C)V" = some ⟨[(.array .char)], none⟩ := by decide +kernel
theorem d1_40 : decode method_2_code 40 = .ok (.invokespecial 9, 3) := by decide +kernel
theorem d1_43 : decode method_2_code 43 = .ok (.areturn, 1) := by decide +kernel
theorem d1_44 : decode method_2_code 44 = .ok (.iload 5, 2) := by decide +kernel
theorem d1_46 : decode method_2_code 46 = .ok (.iconst 2, 1) := by decide +kernel
theorem d1_47 : decode method_2_code 47 = .ok (.if_icmp .ne 8, 3) := by decide +kernel
theorem d1_50 : decode method_2_code 50 = .ok (.iload_n 3, 1) := by decide +kernel
theorem pd_10 : parseMethodDescriptor "(C)Ljava/lang/String;" = some ⟨[.char], some (.object "java/lang/String")⟩ := by decide +kernel
theorem d1_51 : decode method_2_code 51 = .ok (.invokestatic 12, 3) := by decide +kernel
theorem d1_54 : decode method_2_code 54 = .ok (.areturn, 1) := by decide +kernel
theorem d1_55 : decode method_2_code 55 = .ok (.iconst 2, 1) := by decide +kernel
theorem d1_56 : decode method_2_code 56 = .ok (.newarray .char, 2) := by decide +kernel
theorem d1_58 : decode method_2_code 58 = .ok (.astore 6, 2) := by decide +kernel
theorem d1_60 : decode method_2_code 60 = .ok (.aload 6, 2) := by decide +kernel
theorem d1_62 : decode method_2_code 62 = .ok (.iconst 0, 1) := by decide +kernel
theorem d1_63 : decode method_2_code 63 = .ok (.iload_n 3, 1) := by decide +kernel
theorem d1_64 : decode method_2_code 64 = .ok (.castore, 1) := by decide +kernel
theorem d1_65 : decode method_2_code 65 = .ok (.aload 6, 2) := by decide +kernel
theorem d1_67 : decode method_2_code 67 = .ok (.iconst 1, 1) := by decide +kernel
theorem d1_68 : decode method_2_code 68 = .ok (.iload 4, 2) := by decide +kernel
theorem d1_70 : decode method_2_code 70 = .ok (.castore, 1) := by decide +kernel
theorem d1_71 : decode method_2_code 71 = .ok (.new 7, 3) := by decide +kernel
theorem d1_74 : decode method_2_code 74 = .ok (.dup, 1) := by decide +kernel
theorem d1_75 : decode method_2_code 75 = .ok (.aload 6, 2) := by decide +kernel
theorem d1_77 : decode method_2_code 77 = .ok (.invokespecial 9, 3) := by decide +kernel
theorem d1_80 : decode method_2_code 80 = .ok (.areturn, 1) := by decide +kernel
theorem pn_1 : plainName "com/example/hyra/hyra/service/RefusedExceptionConflictPinLaw" = true := by first | (simp [plainName, overriddenIn]; done) | decide +kernel
set_option maxRecDepth 65536 in
set_option maxHeartbeats 40000000 in
theorem rmDr (l : Launch) (Z : State) (a0 : Array Value) (hw : ∀ d ∈ tables_1, d.before a0 Z = true) (ia : Int32) (ib : Int32) (sl : Int32) (cs : Int32) (h0 : Heap) (n0 : Nat) (Z0 : n0 ≤ h0.size) (OL : Old Z n0 h0) (SC : Sta Z Z.heap "java/lang/String" "COMPACT_STRINGS" "Z" (.int cs)) (hcs : ¬ cs = 0) (hH : Jvm.Lit.constHeld Z "java/lang/String" 7) (hcw : Jvm.Lit.compactW.before a0 Z = true) :
    Con l (⟨"com/example/hyra/hyra/service/RefusedExceptionConflictPinLaw", "draw", "(III)Ljava/lang/String;"⟩ : MethodName) method_2_code 7 (some (.object "java/lang/String")) ({ frames := 4, cells := 4, slots := 8, locals := 66 } : Room) Z #[(.int ia), (.int ib), (.int sl)] h0 (fun vm => IB Z vm []) (fun v h L vm => ∃ o : Value, v = some o ∧ Fr n0 L ∧ o.isRef = true ∧ Keep h0 h []) := by
  refine Con.mk (plainFor_of_name pn_1) (fun m => show entryFrame m #[(.int ia), (.int ib), (.int sl)] 7 = mkF m 0 #[.val (.int ia), .val (.int ib), .val (.int sl), .unset, .unset, .unset, .unset] [] by first | (simp [entryFrame, mkF, argsToLocals, Value.category]; done) | rfl) ?_
  intro p e s m below meth c s₁ vm0 hx hby hml hown hnm hret hlk hZ X0 e0 hS hs0 hP0 hK
  have N0 := Fr.nil n0
  show Run p e below s _ _ _ (s₁.setTop (mkF m 0 #[.val (.int ia), .val (.int ib), .val (.int sl), .unset, .unset, .unset, .unset] []))
  refine Run.pre (fun _ k => XS.iloadN X0.here hx rfl (hb hby d1_0) rfl  k) ?_
  show Run p e below s _ _ _ (s₁.setTop (mkF m 1 #[.val (.int ia), .val (.int ib), .val (.int sl), .unset, .unset, .unset, .unset] [(.int ia)]))
  refine Run.pre (fun _ k => XS.sipush X0.here hx rfl (hb hby d1_1) k) ?_
  show Run p e below s _ _ _ (s₁.setTop (mkF m 4 #[.val (.int ia), .val (.int ib), .val (.int sl), .unset, .unset, .unset, .unset] [(.int (255 : Int32)), (.int ia)]))
  refine Run.pre (fun _ k => XS.iand X0.here hx rfl (hb hby d1_4) rfl k) ?_
  show Run p e below s _ _ _ (s₁.setTop (mkF m 5 #[.val (.int ia), .val (.int ib), .val (.int sl), .unset, .unset, .unset, .unset] [(.int (ia &&& (255 : Int32)))]))
  refine Run.pre (fun _ k => XS.i2c X0.here hx rfl (hb hby d1_5) rfl k) ?_
  show Run p e below s _ _ _ (s₁.setTop (mkF m 6 #[.val (.int ia), .val (.int ib), .val (.int sl), .unset, .unset, .unset, .unset] [(.int ((ia &&& (255 : Int32)).toUInt32.toUInt16.toUInt32.toInt32))]))
  refine Run.pre (fun _ k => XS.istoreN X0.here hx rfl (hb hby d1_6) rfl (l' := #[.val (.int ia), .val (.int ib), .val (.int sl), .val (.int ((ia &&& (255 : Int32)).toUInt32.toUInt16.toUInt32.toInt32)), .unset, .unset, .unset]) rfl k) ?_
  show Run p e below s _ _ _ (s₁.setTop (mkF m 7 #[.val (.int ia), .val (.int ib), .val (.int sl), .val (.int ((ia &&& (255 : Int32)).toUInt32.toUInt16.toUInt32.toInt32)), .unset, .unset, .unset] []))
  refine Run.pre (fun _ k => XS.iloadN X0.here hx rfl (hb hby d1_7) rfl  k) ?_
  show Run p e below s _ _ _ (s₁.setTop (mkF m 8 #[.val (.int ia), .val (.int ib), .val (.int sl), .val (.int ((ia &&& (255 : Int32)).toUInt32.toUInt16.toUInt32.toInt32)), .unset, .unset, .unset] [(.int ib)]))
  refine Run.pre (fun _ k => XS.sipush X0.here hx rfl (hb hby d1_8) k) ?_
  show Run p e below s _ _ _ (s₁.setTop (mkF m 11 #[.val (.int ia), .val (.int ib), .val (.int sl), .val (.int ((ia &&& (255 : Int32)).toUInt32.toUInt16.toUInt32.toInt32)), .unset, .unset, .unset] [(.int (255 : Int32)), (.int ib)]))
  refine Run.pre (fun _ k => XS.iand X0.here hx rfl (hb hby d1_11) rfl k) ?_
  show Run p e below s _ _ _ (s₁.setTop (mkF m 12 #[.val (.int ia), .val (.int ib), .val (.int sl), .val (.int ((ia &&& (255 : Int32)).toUInt32.toUInt16.toUInt32.toInt32)), .unset, .unset, .unset] [(.int (ib &&& (255 : Int32)))]))
  refine Run.pre (fun _ k => XS.i2c X0.here hx rfl (hb hby d1_12) rfl k) ?_
  show Run p e below s _ _ _ (s₁.setTop (mkF m 13 #[.val (.int ia), .val (.int ib), .val (.int sl), .val (.int ((ia &&& (255 : Int32)).toUInt32.toUInt16.toUInt32.toInt32)), .unset, .unset, .unset] [(.int ((ib &&& (255 : Int32)).toUInt32.toUInt16.toUInt32.toInt32))]))
  refine Run.pre (fun _ k => XS.istore X0.here hx rfl (hb hby d1_13) rfl (l' := #[.val (.int ia), .val (.int ib), .val (.int sl), .val (.int ((ia &&& (255 : Int32)).toUInt32.toUInt16.toUInt32.toInt32)), .val (.int ((ib &&& (255 : Int32)).toUInt32.toUInt16.toUInt32.toInt32)), .unset, .unset]) rfl k) ?_
  show Run p e below s _ _ _ (s₁.setTop (mkF m 15 #[.val (.int ia), .val (.int ib), .val (.int sl), .val (.int ((ia &&& (255 : Int32)).toUInt32.toUInt16.toUInt32.toInt32)), .val (.int ((ib &&& (255 : Int32)).toUInt32.toUInt16.toUInt32.toInt32)), .unset, .unset] []))
  refine Run.pre (fun _ k => XS.iloadN X0.here hx rfl (hb hby d1_15) rfl  k) ?_
  show Run p e below s _ _ _ (s₁.setTop (mkF m 16 #[.val (.int ia), .val (.int ib), .val (.int sl), .val (.int ((ia &&& (255 : Int32)).toUInt32.toUInt16.toUInt32.toInt32)), .val (.int ((ib &&& (255 : Int32)).toUInt32.toUInt16.toUInt32.toInt32)), .unset, .unset] [(.int sl)]))
  refine Run.pre (fun _ k => XS.iconst X0.here hx rfl (hb hby d1_16) k) ?_
  show Run p e below s _ _ _ (s₁.setTop (mkF m 17 #[.val (.int ia), .val (.int ib), .val (.int sl), .val (.int ((ia &&& (255 : Int32)).toUInt32.toUInt16.toUInt32.toInt32)), .val (.int ((ib &&& (255 : Int32)).toUInt32.toUInt16.toUInt32.toInt32)), .unset, .unset] [(.int (3 : Int32)), (.int sl)]))
  refine Run.pre (fun _ k => XS.iand X0.here hx rfl (hb hby d1_17) rfl k) ?_
  show Run p e below s _ _ _ (s₁.setTop (mkF m 18 #[.val (.int ia), .val (.int ib), .val (.int sl), .val (.int ((ia &&& (255 : Int32)).toUInt32.toUInt16.toUInt32.toInt32)), .val (.int ((ib &&& (255 : Int32)).toUInt32.toUInt16.toUInt32.toInt32)), .unset, .unset] [(.int (sl &&& (3 : Int32)))]))
  refine Run.pre (fun _ k => XS.istore X0.here hx rfl (hb hby d1_18) rfl (l' := #[.val (.int ia), .val (.int ib), .val (.int sl), .val (.int ((ia &&& (255 : Int32)).toUInt32.toUInt16.toUInt32.toInt32)), .val (.int ((ib &&& (255 : Int32)).toUInt32.toUInt16.toUInt32.toInt32)), .val (.int (sl &&& (3 : Int32))), .unset]) rfl k) ?_
  show Run p e below s _ _ _ (s₁.setTop (mkF m 20 #[.val (.int ia), .val (.int ib), .val (.int sl), .val (.int ((ia &&& (255 : Int32)).toUInt32.toUInt16.toUInt32.toInt32)), .val (.int ((ib &&& (255 : Int32)).toUInt32.toUInt16.toUInt32.toInt32)), .val (.int (sl &&& (3 : Int32))), .unset] []))
  refine Run.pre (fun _ k => XS.iload X0.here hx rfl (hb hby d1_20) rfl  k) ?_
  show Run p e below s _ _ _ (s₁.setTop (mkF m 22 #[.val (.int ia), .val (.int ib), .val (.int sl), .val (.int ((ia &&& (255 : Int32)).toUInt32.toUInt16.toUInt32.toInt32)), .val (.int ((ib &&& (255 : Int32)).toUInt32.toUInt16.toUInt32.toInt32)), .val (.int (sl &&& (3 : Int32))), .unset] [(.int (sl &&& (3 : Int32)))]))
  by_cases hc194 : (sl &&& (3 : Int32)) = (0 : Int32)
  · skip
    refine Run.pre (fun _ k => XS.ifNo X0.here hx rfl (hb hby d1_22) rfl ((if0 _ _).trans (teq (hc194 : (sl &&& (3 : Int32)) = (0 : Int32))).2) k) ?_
    show Run p e below s _ _ _ (s₁.setTop (mkF m 25 #[.val (.int ia), .val (.int ib), .val (.int sl), .val (.int ((ia &&& (255 : Int32)).toUInt32.toUInt16.toUInt32.toInt32)), .val (.int ((ib &&& (255 : Int32)).toUInt32.toUInt16.toUInt32.toInt32)), .val (.int (sl &&& (3 : Int32))), .unset] []))
    refine Run.pre (fun _ k => XS.aconstNull X0.here hx rfl (hb hby d1_25) k) ?_
    show Run p e below s _ _ _ (s₁.setTop (mkF m 26 #[.val (.int ia), .val (.int ib), .val (.int sl), .val (.int ((ia &&& (255 : Int32)).toUInt32.toUInt16.toUInt32.toInt32)), .val (.int ((ib &&& (255 : Int32)).toUInt32.toUInt16.toUInt32.toInt32)), .val (.int (sl &&& (3 : Int32))), .unset] [.null]))
    exact Run.retA hK hS (by first | exact Nat.le_refl _ | (rw [e0]; exact (Nat.zero_le _))) X0 hx hret rfl rfl hlk (hb hby d1_26) (by first | (rw [e0]; exact ⟨.null, rfl, N0, rfl, (Keep.refl h0 [])⟩) | exact ⟨.null, rfl, N0, rfl, (Keep.refl h0 [])⟩) (by decide) (by decide)
  · skip
    refine Run.pre (fun _ k => XS.ifYes X0.here hx rfl (pc0 := 22) (pc' := 27) rfl (hb hby d1_22) rfl ((if0 _ _).trans (feq (hc194 : ¬ ((sl &&& (3 : Int32)) = (0 : Int32)))).2) (by decide) (by decide) k) ?_
    show Run p e below s _ _ _ (s₁.setTop (mkF m 27 #[.val (.int ia), .val (.int ib), .val (.int sl), .val (.int ((ia &&& (255 : Int32)).toUInt32.toUInt16.toUInt32.toInt32)), .val (.int ((ib &&& (255 : Int32)).toUInt32.toUInt16.toUInt32.toInt32)), .val (.int (sl &&& (3 : Int32))), .unset] []))
    refine Run.pre (fun _ k => XS.iload X0.here hx rfl (hb hby d1_27) rfl  k) ?_
    show Run p e below s _ _ _ (s₁.setTop (mkF m 29 #[.val (.int ia), .val (.int ib), .val (.int sl), .val (.int ((ia &&& (255 : Int32)).toUInt32.toUInt16.toUInt32.toInt32)), .val (.int ((ib &&& (255 : Int32)).toUInt32.toUInt16.toUInt32.toInt32)), .val (.int (sl &&& (3 : Int32))), .unset] [(.int (sl &&& (3 : Int32)))]))
    refine Run.pre (fun _ k => XS.iconst X0.here hx rfl (hb hby d1_29) k) ?_
    show Run p e below s _ _ _ (s₁.setTop (mkF m 30 #[.val (.int ia), .val (.int ib), .val (.int sl), .val (.int ((ia &&& (255 : Int32)).toUInt32.toUInt16.toUInt32.toInt32)), .val (.int ((ib &&& (255 : Int32)).toUInt32.toUInt16.toUInt32.toInt32)), .val (.int (sl &&& (3 : Int32))), .unset] [(.int (1 : Int32)), (.int (sl &&& (3 : Int32)))]))
    by_cases hc195 : (sl &&& (3 : Int32)) = (1 : Int32)
    · skip
      refine Run.pre (fun _ k => XS.icmpNo X0.here hx rfl (hb hby d1_30) rfl (teq (hc195 : (sl &&& (3 : Int32)) = (1 : Int32))).2 k) ?_
      show Run p e below s _ _ _ (s₁.setTop (mkF m 33 #[.val (.int ia), .val (.int ib), .val (.int sl), .val (.int ((ia &&& (255 : Int32)).toUInt32.toUInt16.toUInt32.toInt32)), .val (.int ((ib &&& (255 : Int32)).toUInt32.toUInt16.toUInt32.toInt32)), .val (.int (sl &&& (3 : Int32))), .unset] []))
      obtain ⟨T196, h196, X196, e196, E196, A196, D196, U196, st196⟩ := newO X0 hx hZ hown (hw _ (List.mem_of_getElem? (i := 109) rfl)) (hw _ (List.mem_of_getElem? (i := 14) rfl)) (hw _ (List.mem_of_getElem? (i := 6) rfl)) e0 (g := (mkF m 33 #[.val (.int ia), .val (.int ib), .val (.int sl), .val (.int ((ia &&& (255 : Int32)).toUInt32.toUInt16.toUInt32.toInt32)), .val (.int ((ib &&& (255 : Int32)).toUInt32.toUInt16.toUInt32.toInt32)), .val (.int (sl &&& (3 : Int32))), .unset] [])) rfl (hb hby d1_33) (by decide) (by decide)
      obtain ⟨b196, g196⟩ : ∃ z, z = h0.size := ⟨_, rfl⟩
      rw [← g196] at A196 D196 U196 st196
      refine Run.pre st196 ?_
      have U_b196 : Unt h196 b196 := U196
      have gn_b196 : n0 ≤ b196 := Nat.le_trans (Nat.le_trans Z0 (Keep.refl h0 []).1) (Nat.le_of_eq g196.symm)
      have sz_b196 : h0.size ≤ b196 := Nat.le_trans (Keep.refl h0 []).1 (Nat.le_of_eq g196.symm)
      have K196 : Keep h0 h196 [] := (Keep.refl h0 []).ext E196
      have F_value_b196 : Fld Z h196 b196 "java/lang/String" "value" "[B" .null := D196 (Or.inr (hw _ (List.mem_of_getElem? (i := 27) rfl))) (ty := (.array .byte)) (by decide)
      have F_coder_b196 : Fld Z h196 b196 "java/lang/String" "coder" "B" (.int (0 : Int32)) := D196 (Or.inr (hw _ (List.mem_of_getElem? (i := 29) rfl))) (ty := .byte) (by decide)
      show Run p e below s _ _ _ (T196.setTop (mkF m 36 #[.val (.int ia), .val (.int ib), .val (.int sl), .val (.int ((ia &&& (255 : Int32)).toUInt32.toUInt16.toUInt32.toInt32)), .val (.int ((ib &&& (255 : Int32)).toUInt32.toUInt16.toUInt32.toInt32)), .val (.int (sl &&& (3 : Int32))), .unset] [(.ref b196)]))
      refine Run.pre (fun _ k => XS.dup X196.here hx rfl (hb hby d1_36) rfl rfl k) ?_
      show Run p e below s _ _ _ (T196.setTop (mkF m 37 #[.val (.int ia), .val (.int ib), .val (.int sl), .val (.int ((ia &&& (255 : Int32)).toUInt32.toUInt16.toUInt32.toInt32)), .val (.int ((ib &&& (255 : Int32)).toUInt32.toUInt16.toUInt32.toInt32)), .val (.int (sl &&& (3 : Int32))), .unset] [(.ref b196), (.ref b196)]))
      refine Run.pre (fun _ k => XS.iconst X196.here hx rfl (hb hby d1_37) k) ?_
      show Run p e below s _ _ _ (T196.setTop (mkF m 38 #[.val (.int ia), .val (.int ib), .val (.int sl), .val (.int ((ia &&& (255 : Int32)).toUInt32.toUInt16.toUInt32.toInt32)), .val (.int ((ib &&& (255 : Int32)).toUInt32.toUInt16.toUInt32.toInt32)), .val (.int (sl &&& (3 : Int32))), .unset] [(.int (0 : Int32)), (.ref b196), (.ref b196)]))
      obtain ⟨T197, h197, k197, X197, e197, E197, A197, st197⟩ := newP X196 hx hZ (hw _ (List.mem_of_getElem? (i := 108) rfl)) e196 (g := (mkF m 38 #[.val (.int ia), .val (.int ib), .val (.int sl), .val (.int ((ia &&& (255 : Int32)).toUInt32.toUInt16.toUInt32.toInt32)), .val (.int ((ib &&& (255 : Int32)).toUInt32.toUInt16.toUInt32.toInt32)), .val (.int (sl &&& (3 : Int32))), .unset] [(.int (0 : Int32)), (.ref b196), (.ref b196)])) rfl (hb hby d1_38) rfl (by decide) (cap := 0) (by decide) (by decide) (by decide) (by decide)
      obtain ⟨b197, g197⟩ : ∃ z, z = h196.size := ⟨_, rfl⟩
      rw [← g197] at A197 st197
      refine Run.pre st197 ?_
      have V_b197 : Arv Z h197 b197 k197 .char (0 : Int32) [] (.int (0 : Int32)) := Arv.new A197 (by decide)
      have gn_b197 : n0 ≤ b197 := Nat.le_trans (Nat.le_trans Z0 K196.1) (Nat.le_of_eq g197.symm)
      have sz_b197 : h0.size ≤ b197 := Nat.le_trans K196.1 (Nat.le_of_eq g197.symm)
      have K197 : Keep h0 h197 [] := K196.ext E197
      show Run p e below s _ _ _ (T197.setTop (mkF m 40 #[.val (.int ia), .val (.int ib), .val (.int sl), .val (.int ((ia &&& (255 : Int32)).toUInt32.toUInt16.toUInt32.toInt32)), .val (.int ((ib &&& (255 : Int32)).toUInt32.toUInt16.toUInt32.toInt32)), .val (.int (sl &&& (3 : Int32))), .unset] [(.ref b197), (.ref b196), (.ref b196)]))
      have f198 := ((OL.ext E196).ext E197)
      have f199 := (A196.ext E197)
      have f200 := (F_value_b196.ext E197)
      have f201 := (F_coder_b196.ext E197)
      refine Run.callI hK hS (by first | exact Nat.le_refl _ | (rw [e197]; exact (Nat.le_trans (Nat.le_trans (Nat.zero_le _) E196.1) E197.1))) X197 hx hZ (y := (⟨"java/lang/String", "<init>", "([C)V"⟩ : MethodName)) rfl hown (hw _ (List.mem_of_getElem? (i := 110) rfl)) (hw _ (List.mem_of_getElem? (i := 111) rfl)) (hw _ (List.mem_of_getElem? (i := 112) rfl)) (hw _ (List.mem_of_getElem? (i := 6) rfl)) (by decide) (a := b196) (W := 1) (rmI_0 l Z a0 hw b196 b197 k197 h197 n0 (Nat.le_trans Z0 K197.1) f198 f199 f200 f201 gn_b196 hH hcw V_b197) e197 (by decide) (by decide) (by decide) (by decide) (fun _ q => own_ibStays hP0 q) (g := (mkF m 40 #[.val (.int ia), .val (.int ib), .val (.int sl), .val (.int ((ia &&& (255 : Int32)).toUInt32.toUInt16.toUInt32.toInt32)), .val (.int ((ib &&& (255 : Int32)).toUInt32.toUInt16.toUInt32.toInt32)), .val (.int (sl &&& (3 : Int32))), .unset] [(.ref b197), (.ref b196), (.ref b196)])) rfl (by rw [hml]; rfl) (argsL := [(.ref b197)]) (rest := [(.ref b196)]) (lenOf pd_9 rfl) rfl (by show 2 * 0 + _ ≤ _; exact Nat.le_of_eq rfl) (hb hby d1_40) ?_
      intro v202 T202 L202 X202 hS hZ hown hV202 hQ202
      obtain ⟨b202, k202, rfl, Nq202, Kc202, nb202, fc202, fv202, vb202⟩ := hQ202
      have N202 := Fr.app N0 Nq202
      have K202 : Keep h0 T202.heap [] := K197.trans Kc202 (allS (Or.inr sz_b196) all0)
      show Run p e below s _ _ _ (T202.setTop (mkF m 43 #[.val (.int ia), .val (.int ib), .val (.int sl), .val (.int ((ia &&& (255 : Int32)).toUInt32.toUInt16.toUInt32.toInt32)), .val (.int ((ib &&& (255 : Int32)).toUInt32.toUInt16.toUInt32.toInt32)), .val (.int (sl &&& (3 : Int32))), .unset] [(.ref b196)]))
      exact Run.retA hK hS (Nat.le_refl _) X202 hx hret rfl rfl hlk (hb hby d1_43) ⟨(.ref b196), rfl, N202, rfl, K202⟩ (by decide) (by decide)
    · skip
      refine Run.pre (fun _ k => XS.icmpYes X0.here hx rfl (pc0 := 30) (pc' := 44) rfl (hb hby d1_30) rfl (feq (hc195 : ¬ ((sl &&& (3 : Int32)) = (1 : Int32)))).2 (by decide) (by decide) k) ?_
      show Run p e below s _ _ _ (s₁.setTop (mkF m 44 #[.val (.int ia), .val (.int ib), .val (.int sl), .val (.int ((ia &&& (255 : Int32)).toUInt32.toUInt16.toUInt32.toInt32)), .val (.int ((ib &&& (255 : Int32)).toUInt32.toUInt16.toUInt32.toInt32)), .val (.int (sl &&& (3 : Int32))), .unset] []))
      refine Run.pre (fun _ k => XS.iload X0.here hx rfl (hb hby d1_44) rfl  k) ?_
      show Run p e below s _ _ _ (s₁.setTop (mkF m 46 #[.val (.int ia), .val (.int ib), .val (.int sl), .val (.int ((ia &&& (255 : Int32)).toUInt32.toUInt16.toUInt32.toInt32)), .val (.int ((ib &&& (255 : Int32)).toUInt32.toUInt16.toUInt32.toInt32)), .val (.int (sl &&& (3 : Int32))), .unset] [(.int (sl &&& (3 : Int32)))]))
      refine Run.pre (fun _ k => XS.iconst X0.here hx rfl (hb hby d1_46) k) ?_
      show Run p e below s _ _ _ (s₁.setTop (mkF m 47 #[.val (.int ia), .val (.int ib), .val (.int sl), .val (.int ((ia &&& (255 : Int32)).toUInt32.toUInt16.toUInt32.toInt32)), .val (.int ((ib &&& (255 : Int32)).toUInt32.toUInt16.toUInt32.toInt32)), .val (.int (sl &&& (3 : Int32))), .unset] [(.int (2 : Int32)), (.int (sl &&& (3 : Int32)))]))
      by_cases hc203 : (sl &&& (3 : Int32)) = (2 : Int32)
      · skip
        refine Run.pre (fun _ k => XS.icmpNo X0.here hx rfl (hb hby d1_47) rfl (teq (hc203 : (sl &&& (3 : Int32)) = (2 : Int32))).2 k) ?_
        show Run p e below s _ _ _ (s₁.setTop (mkF m 50 #[.val (.int ia), .val (.int ib), .val (.int sl), .val (.int ((ia &&& (255 : Int32)).toUInt32.toUInt16.toUInt32.toInt32)), .val (.int ((ib &&& (255 : Int32)).toUInt32.toUInt16.toUInt32.toInt32)), .val (.int (sl &&& (3 : Int32))), .unset] []))
        refine Run.pre (fun _ k => XS.iloadN X0.here hx rfl (hb hby d1_50) rfl  k) ?_
        show Run p e below s _ _ _ (s₁.setTop (mkF m 51 #[.val (.int ia), .val (.int ib), .val (.int sl), .val (.int ((ia &&& (255 : Int32)).toUInt32.toUInt16.toUInt32.toInt32)), .val (.int ((ib &&& (255 : Int32)).toUInt32.toUInt16.toUInt32.toInt32)), .val (.int (sl &&& (3 : Int32))), .unset] [(.int ((ia &&& (255 : Int32)).toUInt32.toUInt16.toUInt32.toInt32))]))
        refine Run.callS hK hS (by first | exact Nat.le_refl _ | (rw [e0]; exact (Nat.zero_le _))) X0 hx hZ (y := (⟨"java/lang/String", "valueOf", "(C)Ljava/lang/String;"⟩ : MethodName)) hown (hw _ (List.mem_of_getElem? (i := 4) rfl)) (hw _ (List.mem_of_getElem? (i := 5) rfl)) (hw _ (List.mem_of_getElem? (i := 6) rfl)) (hw _ (List.mem_of_getElem? (i := 7) rfl)) (by decide) (W := 0) (rmVo l Z a0 hw ((ia &&& (255 : Int32)).toUInt32.toUInt16.toUInt32.toInt32) cs h0 n0 (Nat.le_trans Z0 (Keep.refl h0 []).1) OL SC hcs (own_and255' _)) e0 (by decide) (by decide) (by decide) (by decide) (fun _ _ => trivial) (g := (mkF m 51 #[.val (.int ia), .val (.int ib), .val (.int sl), .val (.int ((ia &&& (255 : Int32)).toUInt32.toUInt16.toUInt32.toInt32)), .val (.int ((ib &&& (255 : Int32)).toUInt32.toUInt16.toUInt32.toInt32)), .val (.int (sl &&& (3 : Int32))), .unset] [(.int ((ia &&& (255 : Int32)).toUInt32.toUInt16.toUInt32.toInt32))])) rfl (by rw [hml]; rfl) (argsL := [(.int ((ia &&& (255 : Int32)).toUInt32.toUInt16.toUInt32.toInt32))]) (rest := []) (lenOf pd_10 rfl) rfl (by show 2 * 0 + _ ≤ _; exact Nat.le_of_eq rfl) (hb hby d1_51) ?_
        intro v204 T204 L204 X204 hS hZ hown hV204 hQ204
        obtain ⟨o204, rfl, Nq204, Kc204⟩ := hQ204
        have N204 := Fr.app N0 Nq204
        have K204 : Keep h0 T204.heap [] := (Keep.refl h0 []).trans Kc204 all0
        show Run p e below s _ _ _ (T204.setTop (mkF m 54 #[.val (.int ia), .val (.int ib), .val (.int sl), .val (.int ((ia &&& (255 : Int32)).toUInt32.toUInt16.toUInt32.toInt32)), .val (.int ((ib &&& (255 : Int32)).toUInt32.toUInt16.toUInt32.toInt32)), .val (.int (sl &&& (3 : Int32))), .unset] [(.ref o204)]))
        exact Run.retA hK hS (Nat.le_refl _) X204 hx hret rfl rfl hlk (hb hby d1_54) ⟨(.ref o204), rfl, N204, rfl, K204⟩ (by decide) (by decide)
      · skip
        refine Run.pre (fun _ k => XS.icmpYes X0.here hx rfl (pc0 := 47) (pc' := 55) rfl (hb hby d1_47) rfl (feq (hc203 : ¬ ((sl &&& (3 : Int32)) = (2 : Int32)))).2 (by decide) (by decide) k) ?_
        show Run p e below s _ _ _ (s₁.setTop (mkF m 55 #[.val (.int ia), .val (.int ib), .val (.int sl), .val (.int ((ia &&& (255 : Int32)).toUInt32.toUInt16.toUInt32.toInt32)), .val (.int ((ib &&& (255 : Int32)).toUInt32.toUInt16.toUInt32.toInt32)), .val (.int (sl &&& (3 : Int32))), .unset] []))
        refine Run.pre (fun _ k => XS.iconst X0.here hx rfl (hb hby d1_55) k) ?_
        show Run p e below s _ _ _ (s₁.setTop (mkF m 56 #[.val (.int ia), .val (.int ib), .val (.int sl), .val (.int ((ia &&& (255 : Int32)).toUInt32.toUInt16.toUInt32.toInt32)), .val (.int ((ib &&& (255 : Int32)).toUInt32.toUInt16.toUInt32.toInt32)), .val (.int (sl &&& (3 : Int32))), .unset] [(.int (2 : Int32))]))
        obtain ⟨T205, h205, k205, X205, e205, E205, A205, st205⟩ := newP X0 hx hZ (hw _ (List.mem_of_getElem? (i := 108) rfl)) e0 (g := (mkF m 56 #[.val (.int ia), .val (.int ib), .val (.int sl), .val (.int ((ia &&& (255 : Int32)).toUInt32.toUInt16.toUInt32.toInt32)), .val (.int ((ib &&& (255 : Int32)).toUInt32.toUInt16.toUInt32.toInt32)), .val (.int (sl &&& (3 : Int32))), .unset] [(.int (2 : Int32))])) rfl (hb hby d1_56) rfl (by decide) (cap := 2) (by decide) (by decide) (by decide) (by decide)
        obtain ⟨b205, g205⟩ : ∃ z, z = h0.size := ⟨_, rfl⟩
        rw [← g205] at A205 st205
        refine Run.pre st205 ?_
        have V_b205 : Arv Z h205 b205 k205 .char (2 : Int32) [(.int (0 : Int32)), (.int (0 : Int32))] (.int (0 : Int32)) := (Arv.new A205 (by decide)).pad (pad_rep [] (.int (0 : Int32)) 2)
        have gn_b205 : n0 ≤ b205 := Nat.le_trans (Nat.le_trans Z0 (Keep.refl h0 []).1) (Nat.le_of_eq g205.symm)
        have sz_b205 : h0.size ≤ b205 := Nat.le_trans (Keep.refl h0 []).1 (Nat.le_of_eq g205.symm)
        have K205 : Keep h0 h205 [] := (Keep.refl h0 []).ext E205
        show Run p e below s _ _ _ (T205.setTop (mkF m 58 #[.val (.int ia), .val (.int ib), .val (.int sl), .val (.int ((ia &&& (255 : Int32)).toUInt32.toUInt16.toUInt32.toInt32)), .val (.int ((ib &&& (255 : Int32)).toUInt32.toUInt16.toUInt32.toInt32)), .val (.int (sl &&& (3 : Int32))), .unset] [(.ref b205)]))
        refine Run.pre (fun _ k => XS.astore X205.here hx rfl (hb hby d1_58) rfl rfl (l' := #[.val (.int ia), .val (.int ib), .val (.int sl), .val (.int ((ia &&& (255 : Int32)).toUInt32.toUInt16.toUInt32.toInt32)), .val (.int ((ib &&& (255 : Int32)).toUInt32.toUInt16.toUInt32.toInt32)), .val (.int (sl &&& (3 : Int32))), .val (.ref b205)]) rfl k) ?_
        show Run p e below s _ _ _ (T205.setTop (mkF m 60 #[.val (.int ia), .val (.int ib), .val (.int sl), .val (.int ((ia &&& (255 : Int32)).toUInt32.toUInt16.toUInt32.toInt32)), .val (.int ((ib &&& (255 : Int32)).toUInt32.toUInt16.toUInt32.toInt32)), .val (.int (sl &&& (3 : Int32))), .val (.ref b205)] []))
        refine Run.pre (fun _ k => XS.aload X205.here hx rfl (hb hby d1_60) rfl rfl k) ?_
        show Run p e below s _ _ _ (T205.setTop (mkF m 62 #[.val (.int ia), .val (.int ib), .val (.int sl), .val (.int ((ia &&& (255 : Int32)).toUInt32.toUInt16.toUInt32.toInt32)), .val (.int ((ib &&& (255 : Int32)).toUInt32.toUInt16.toUInt32.toInt32)), .val (.int (sl &&& (3 : Int32))), .val (.ref b205)] [(.ref b205)]))
        refine Run.pre (fun _ k => XS.iconst X205.here hx rfl (hb hby d1_62) k) ?_
        show Run p e below s _ _ _ (T205.setTop (mkF m 63 #[.val (.int ia), .val (.int ib), .val (.int sl), .val (.int ((ia &&& (255 : Int32)).toUInt32.toUInt16.toUInt32.toInt32)), .val (.int ((ib &&& (255 : Int32)).toUInt32.toUInt16.toUInt32.toInt32)), .val (.int (sl &&& (3 : Int32))), .val (.ref b205)] [(.int (0 : Int32)), (.ref b205)]))
        refine Run.pre (fun _ k => XS.iloadN X205.here hx rfl (hb hby d1_63) rfl  k) ?_
        show Run p e below s _ _ _ (T205.setTop (mkF m 64 #[.val (.int ia), .val (.int ib), .val (.int sl), .val (.int ((ia &&& (255 : Int32)).toUInt32.toUInt16.toUInt32.toInt32)), .val (.int ((ib &&& (255 : Int32)).toUInt32.toUInt16.toUInt32.toInt32)), .val (.int (sl &&& (3 : Int32))), .val (.ref b205)] [(.int ((ia &&& (255 : Int32)).toUInt32.toUInt16.toUInt32.toInt32)), (.int (0 : Int32)), (.ref b205)]))
        obtain ⟨c206, Ar206, q206, S206, N206, H206, G206⟩ := id V_b205
        have hin206 : ¬ ((0 : Int32) < 0 ∨ c206.slots.size ≤ ((0 : Int32)).toNatClampNeg) := inb_of S206 ⟨by decide, by decide⟩
        obtain ⟨T207, h207, X207, e207, W207, st207⟩ := stC X205 hx hZ e205 Ar206 (j := (0 : Int32)) hin206 (g := (mkF m 64 #[.val (.int ia), .val (.int ib), .val (.int sl), .val (.int ((ia &&& (255 : Int32)).toUInt32.toUInt16.toUInt32.toInt32)), .val (.int ((ib &&& (255 : Int32)).toUInt32.toUInt16.toUInt32.toInt32)), .val (.int (sl &&& (3 : Int32))), .val (.ref b205)] [(.int ((ia &&& (255 : Int32)).toUInt32.toUInt16.toUInt32.toInt32)), (.int (0 : Int32)), (.ref b205)])) rfl rfl (hb hby d1_64)
        refine Run.pre st207 ?_
        have V_b205_207 : Arv Z h207 b205 k205 .char (2 : Int32) [(.int (nar .char ((ia &&& (255 : Int32)).toUInt32.toUInt16.toUInt32.toInt32))), (.int (0 : Int32))] (.int (0 : Int32)) := Arv.set Ar206 q206 S206 N206 H206 G206 (fits_nar_char _) W207 0 rfl (Nat.le_of_ble_eq_true rfl)
        have K207 : Keep h0 h207 [] := K205.wr W207 (Or.inr sz_b205)
        have N207 := Fr.snoc X207 N0 gn_b205
        show Run p e below s _ _ _ (T207.setTop (mkF m 65 #[.val (.int ia), .val (.int ib), .val (.int sl), .val (.int ((ia &&& (255 : Int32)).toUInt32.toUInt16.toUInt32.toInt32)), .val (.int ((ib &&& (255 : Int32)).toUInt32.toUInt16.toUInt32.toInt32)), .val (.int (sl &&& (3 : Int32))), .val (.ref b205)] []))
        refine Run.pre (fun _ k => XS.aload X207.here hx rfl (hb hby d1_65) rfl rfl k) ?_
        show Run p e below s _ _ _ (T207.setTop (mkF m 67 #[.val (.int ia), .val (.int ib), .val (.int sl), .val (.int ((ia &&& (255 : Int32)).toUInt32.toUInt16.toUInt32.toInt32)), .val (.int ((ib &&& (255 : Int32)).toUInt32.toUInt16.toUInt32.toInt32)), .val (.int (sl &&& (3 : Int32))), .val (.ref b205)] [(.ref b205)]))
        refine Run.pre (fun _ k => XS.iconst X207.here hx rfl (hb hby d1_67) k) ?_
        show Run p e below s _ _ _ (T207.setTop (mkF m 68 #[.val (.int ia), .val (.int ib), .val (.int sl), .val (.int ((ia &&& (255 : Int32)).toUInt32.toUInt16.toUInt32.toInt32)), .val (.int ((ib &&& (255 : Int32)).toUInt32.toUInt16.toUInt32.toInt32)), .val (.int (sl &&& (3 : Int32))), .val (.ref b205)] [(.int (1 : Int32)), (.ref b205)]))
        refine Run.pre (fun _ k => XS.iload X207.here hx rfl (hb hby d1_68) rfl  k) ?_
        show Run p e below s _ _ _ (T207.setTop (mkF m 70 #[.val (.int ia), .val (.int ib), .val (.int sl), .val (.int ((ia &&& (255 : Int32)).toUInt32.toUInt16.toUInt32.toInt32)), .val (.int ((ib &&& (255 : Int32)).toUInt32.toUInt16.toUInt32.toInt32)), .val (.int (sl &&& (3 : Int32))), .val (.ref b205)] [(.int ((ib &&& (255 : Int32)).toUInt32.toUInt16.toUInt32.toInt32)), (.int (1 : Int32)), (.ref b205)]))
        obtain ⟨c208, Ar208, q208, S208, N208, H208, G208⟩ := id V_b205_207
        have hin208 : ¬ ((1 : Int32) < 0 ∨ c208.slots.size ≤ ((1 : Int32)).toNatClampNeg) := inb_of S208 ⟨by decide, by decide⟩
        obtain ⟨T209, h209, X209, e209, W209, st209⟩ := stC X207 hx hZ e207 Ar208 (j := (1 : Int32)) hin208 (g := (mkF m 70 #[.val (.int ia), .val (.int ib), .val (.int sl), .val (.int ((ia &&& (255 : Int32)).toUInt32.toUInt16.toUInt32.toInt32)), .val (.int ((ib &&& (255 : Int32)).toUInt32.toUInt16.toUInt32.toInt32)), .val (.int (sl &&& (3 : Int32))), .val (.ref b205)] [(.int ((ib &&& (255 : Int32)).toUInt32.toUInt16.toUInt32.toInt32)), (.int (1 : Int32)), (.ref b205)])) rfl rfl (hb hby d1_70)
        refine Run.pre st209 ?_
        have V_b205_209 : Arv Z h209 b205 k205 .char (2 : Int32) [(.int (nar .char ((ia &&& (255 : Int32)).toUInt32.toUInt16.toUInt32.toInt32))), (.int (nar .char ((ib &&& (255 : Int32)).toUInt32.toUInt16.toUInt32.toInt32)))] (.int (0 : Int32)) := Arv.set Ar208 q208 S208 N208 H208 G208 (fits_nar_char _) W209 1 rfl (Nat.le_of_ble_eq_true rfl)
        have K209 : Keep h0 h209 [] := K207.wr W209 (Or.inr sz_b205)
        have N209 := Fr.snoc X209 N207 gn_b205
        show Run p e below s _ _ _ (T209.setTop (mkF m 71 #[.val (.int ia), .val (.int ib), .val (.int sl), .val (.int ((ia &&& (255 : Int32)).toUInt32.toUInt16.toUInt32.toInt32)), .val (.int ((ib &&& (255 : Int32)).toUInt32.toUInt16.toUInt32.toInt32)), .val (.int (sl &&& (3 : Int32))), .val (.ref b205)] []))
        obtain ⟨T210, h210, X210, e210, E210, A210, D210, U210, st210⟩ := newO X209 hx hZ hown (hw _ (List.mem_of_getElem? (i := 109) rfl)) (hw _ (List.mem_of_getElem? (i := 14) rfl)) (hw _ (List.mem_of_getElem? (i := 6) rfl)) e209 (g := (mkF m 71 #[.val (.int ia), .val (.int ib), .val (.int sl), .val (.int ((ia &&& (255 : Int32)).toUInt32.toUInt16.toUInt32.toInt32)), .val (.int ((ib &&& (255 : Int32)).toUInt32.toUInt16.toUInt32.toInt32)), .val (.int (sl &&& (3 : Int32))), .val (.ref b205)] [])) rfl (hb hby d1_71) (by decide) (by decide)
        obtain ⟨b210, g210⟩ : ∃ z, z = h209.size := ⟨_, rfl⟩
        rw [← g210] at A210 D210 U210 st210
        refine Run.pre st210 ?_
        have U_b210 : Unt h210 b210 := U210
        have gn_b210 : n0 ≤ b210 := Nat.le_trans (Nat.le_trans Z0 K209.1) (Nat.le_of_eq g210.symm)
        have sz_b210 : h0.size ≤ b210 := Nat.le_trans K209.1 (Nat.le_of_eq g210.symm)
        have K210 : Keep h0 h210 [] := K209.ext E210
        have F_value_b210 : Fld Z h210 b210 "java/lang/String" "value" "[B" .null := D210 (Or.inr (hw _ (List.mem_of_getElem? (i := 27) rfl))) (ty := (.array .byte)) (by decide)
        have F_coder_b210 : Fld Z h210 b210 "java/lang/String" "coder" "B" (.int (0 : Int32)) := D210 (Or.inr (hw _ (List.mem_of_getElem? (i := 29) rfl))) (ty := .byte) (by decide)
        show Run p e below s _ _ _ (T210.setTop (mkF m 74 #[.val (.int ia), .val (.int ib), .val (.int sl), .val (.int ((ia &&& (255 : Int32)).toUInt32.toUInt16.toUInt32.toInt32)), .val (.int ((ib &&& (255 : Int32)).toUInt32.toUInt16.toUInt32.toInt32)), .val (.int (sl &&& (3 : Int32))), .val (.ref b205)] [(.ref b210)]))
        refine Run.pre (fun _ k => XS.dup X210.here hx rfl (hb hby d1_74) rfl rfl k) ?_
        show Run p e below s _ _ _ (T210.setTop (mkF m 75 #[.val (.int ia), .val (.int ib), .val (.int sl), .val (.int ((ia &&& (255 : Int32)).toUInt32.toUInt16.toUInt32.toInt32)), .val (.int ((ib &&& (255 : Int32)).toUInt32.toUInt16.toUInt32.toInt32)), .val (.int (sl &&& (3 : Int32))), .val (.ref b205)] [(.ref b210), (.ref b210)]))
        refine Run.pre (fun _ k => XS.aload X210.here hx rfl (hb hby d1_75) rfl rfl k) ?_
        show Run p e below s _ _ _ (T210.setTop (mkF m 77 #[.val (.int ia), .val (.int ib), .val (.int sl), .val (.int ((ia &&& (255 : Int32)).toUInt32.toUInt16.toUInt32.toInt32)), .val (.int ((ib &&& (255 : Int32)).toUInt32.toUInt16.toUInt32.toInt32)), .val (.int (sl &&& (3 : Int32))), .val (.ref b205)] [(.ref b205), (.ref b210), (.ref b210)]))
        have f211 := ((((OL.ext E205).wr W207 gn_b205).wr W209 gn_b205).ext E210)
        have f212 := (V_b205_209.ext E210)
        refine Run.callI hK hS (by first | exact Nat.le_refl _ | (rw [e210]; exact (Nat.le_trans (Nat.le_trans (Nat.le_trans (Nat.le_trans (Nat.zero_le _) E205.1) (Keep.of_wr W207).1) (Keep.of_wr W209).1) E210.1))) X210 hx hZ (y := (⟨"java/lang/String", "<init>", "([C)V"⟩ : MethodName)) rfl hown (hw _ (List.mem_of_getElem? (i := 110) rfl)) (hw _ (List.mem_of_getElem? (i := 111) rfl)) (hw _ (List.mem_of_getElem? (i := 112) rfl)) (hw _ (List.mem_of_getElem? (i := 6) rfl)) (by decide) (a := b210) (W := 1) (rmI_2 l Z a0 hw b210 b205 k205 (nar .char ((ia &&& (255 : Int32)).toUInt32.toUInt16.toUInt32.toInt32)) (nar .char ((ib &&& (255 : Int32)).toUInt32.toUInt16.toUInt32.toInt32)) cs h210 n0 (Nat.le_trans Z0 K210.1) f211 SC hcs f212 A210 F_value_b210 F_coder_b210 gn_b210 (Nat.ne_of_lt (Nat.lt_of_lt_of_le V_b205_209.lt (Nat.le_of_eq g210.symm))) (own_and255 _) (own_and255 _)) e210 (by decide) (by decide) (by decide) (by decide) (fun _ _ => trivial) (g := (mkF m 77 #[.val (.int ia), .val (.int ib), .val (.int sl), .val (.int ((ia &&& (255 : Int32)).toUInt32.toUInt16.toUInt32.toInt32)), .val (.int ((ib &&& (255 : Int32)).toUInt32.toUInt16.toUInt32.toInt32)), .val (.int (sl &&& (3 : Int32))), .val (.ref b205)] [(.ref b205), (.ref b210), (.ref b210)])) rfl (by rw [hml]; rfl) (argsL := [(.ref b205)]) (rest := [(.ref b210)]) (lenOf pd_9 rfl) rfl (by show 2 * 0 + _ ≤ _; exact Nat.le_of_eq rfl) (hb hby d1_77) ?_
        intro v213 T213 L213 X213 hS hZ hown hV213 hQ213
        obtain ⟨b213, k213, rfl, Nq213, Kc213, sz213, fc213, fv213, vb213⟩ := hQ213
        have N213 := Fr.app N209 Nq213
        have K213 : Keep h0 T213.heap [] := K210.trans Kc213 (allS (Or.inr sz_b210) all0)
        have sz_b213 : h0.size ≤ b213 := Nat.le_trans K210.1 sz213
        have gn_b213 : n0 ≤ b213 := Nat.le_trans Z0 sz_b213
        show Run p e below s _ _ _ (T213.setTop (mkF m 80 #[.val (.int ia), .val (.int ib), .val (.int sl), .val (.int ((ia &&& (255 : Int32)).toUInt32.toUInt16.toUInt32.toInt32)), .val (.int ((ib &&& (255 : Int32)).toUInt32.toUInt16.toUInt32.toInt32)), .val (.int (sl &&& (3 : Int32))), .val (.ref b205)] [(.ref b210)]))
        exact Run.retA hK hS (Nat.le_refl _) X213 hx hret rfl rfl hlk (hb hby d1_80) ⟨(.ref b210), rfl, N213, rfl, K213⟩ (by decide) (by decide)
theorem pd_11 : parseMethodDescriptor "(III)Ljava/lang/String;" = some ⟨[.int, .int, .int], some (.object "java/lang/String")⟩ := by decide +kernel
theorem pd_12 : parseMethodDescriptor "(Ljava/lang/String;)Lcom/example/hyra/hyra/service/RefusedException;" = some ⟨[(.object "java/lang/String")], some (.object "com/example/hyra/hyra/service/RefusedException")⟩ := by decide +kernel
theorem pd_13 : parseMethodDescriptor "()Lcom/example/hyra/hyra/service/RefusedException$Reason;" = some ⟨[], some (.object "com/example/hyra/hyra/service/RefusedException$Reason")⟩ := by decide +kernel
theorem pn_0 : plainName "com/example/hyra/hyra/service/RefusedExceptionConflictPinLaw" = true := by first | (simp [plainName, overriddenIn]; done) | decide +kernel
set_option maxRecDepth 65536 in
set_option maxHeartbeats 40000000 in
theorem rm0 (l : Launch) (Z : State) (a0 : Array Value) (hw : ∀ d ∈ tables_1, d.before a0 Z = true) (ia : Int32) (ib : Int32) (sl : Int32) (cs : Int32) (su : Addr) (sn : Addr) (wc : Addr) (wi : Addr) (wn : Addr) (h0 : Heap) (n0 : Nat) (Z0 : n0 ≤ h0.size) (OL : Old Z n0 h0) (SC : Sta Z Z.heap "java/lang/String" "COMPACT_STRINGS" "Z" (.int cs)) (hcs : ¬ cs = 0) (hH : Jvm.Lit.constHeld Z "java/lang/String" 7) (hcw : Jvm.Lit.compactW.before a0 Z = true) (hl : l.stackTraces = true) (SU : Sta Z Z.heap "java/lang/Throwable" "UNASSIGNED_STACK" "[Ljava/lang/StackTraceElement;" (.ref su)) (SN : Sta Z Z.heap "java/lang/Throwable" "SUPPRESSED_SENTINEL" "Ljava/util/List;" (.ref sn)) (SR : Sta Z Z.heap "com/example/hyra/hyra/service/RefusedException$Reason" "CONFLICT" "Lcom/example/hyra/hyra/service/RefusedException$Reason;" (.ref wc)) (SI : Sta Z Z.heap "com/example/hyra/hyra/service/RefusedException$Reason" "INVALID" "Lcom/example/hyra/hyra/service/RefusedException$Reason;" (.ref wi)) (SF : Sta Z Z.heap "com/example/hyra/hyra/service/RefusedException$Reason" "NOT_FOUND" "Lcom/example/hyra/hyra/service/RefusedException$Reason;" (.ref wn)) (nci : wc ≠ wi) (ncn : wc ≠ wn) :
    Con l x code maxLocals ret room_1 Z #[(.int ia), (.int ib), (.int sl)] h0 (fun vm => IB Z vm []) (fun v h L vm => v = some (.int 1) ∧ Fr n0 L) := by
  refine Con.mk (plainFor_of_name pn_0) (fun m => show entryFrame m #[(.int ia), (.int ib), (.int sl)] maxLocals = mkF m 0 #[.val (.int ia), .val (.int ib), .val (.int sl), .unset, .unset, .unset] [] by first | (simp [entryFrame, mkF, argsToLocals, Value.category, maxLocals]; done) | rfl) ?_
  intro p e s m below meth c s₁ vm0 hx hby hml hown hnm hret hlk hZ X0 e0 hS hs0 hP0 hK
  have hml : c.maxLocals = 6 := hml
  have N0 := Fr.nil n0
  show Run p e below s _ _ _ (s₁.setTop (mkF m 0 #[.val (.int ia), .val (.int ib), .val (.int sl), .unset, .unset, .unset] []))
  refine Run.pre (fun _ k => XS.iloadN X0.here hx rfl (hb hby at_0) rfl  k) ?_
  show Run p e below s _ _ _ (s₁.setTop (mkF m 1 #[.val (.int ia), .val (.int ib), .val (.int sl), .unset, .unset, .unset] [(.int ia)]))
  refine Run.pre (fun _ k => XS.iloadN X0.here hx rfl (hb hby at_1) rfl  k) ?_
  show Run p e below s _ _ _ (s₁.setTop (mkF m 2 #[.val (.int ia), .val (.int ib), .val (.int sl), .unset, .unset, .unset] [(.int ib), (.int ia)]))
  refine Run.pre (fun _ k => XS.iloadN X0.here hx rfl (hb hby at_2) rfl  k) ?_
  show Run p e below s _ _ _ (s₁.setTop (mkF m 3 #[.val (.int ia), .val (.int ib), .val (.int sl), .unset, .unset, .unset] [(.int sl), (.int ib), (.int ia)]))
  refine Run.callS hK hS (by first | exact Nat.le_refl _ | (rw [e0]; exact (Nat.zero_le _))) X0 hx hZ (y := (⟨"com/example/hyra/hyra/service/RefusedExceptionConflictPinLaw", "draw", "(III)Ljava/lang/String;"⟩ : MethodName)) hown (hw _ (List.mem_of_getElem? (i := 0) rfl)) (hw _ (List.mem_of_getElem? (i := 1) rfl)) (hw _ (List.mem_of_getElem? (i := 2) rfl)) (hw _ (List.mem_of_getElem? (i := 3) rfl)) (by decide) (W := 0) (rmDr l Z a0 hw ia ib sl cs h0 n0 (Nat.le_trans Z0 (Keep.refl h0 []).1) OL SC hcs hH hcw) e0 (by decide) (by decide) (by decide) (by decide) (fun _ q => own_ibStays hP0 q) (g := (mkF m 3 #[.val (.int ia), .val (.int ib), .val (.int sl), .unset, .unset, .unset] [(.int sl), (.int ib), (.int ia)])) rfl (by rw [hml]; rfl) (argsL := [(.int ia), (.int ib), (.int sl)]) (rest := []) (lenOf pd_11 rfl) rfl (by show 2 * 0 + _ ≤ _; exact Nat.le_of_eq rfl) (hb hby at_3) ?_
  intro v214 T214 L214 X214 hS hZ hown hV214 hQ214
  obtain ⟨o214, rfl, Nq214, ir214, Kc214⟩ := hQ214
  have N214 := Fr.app N0 Nq214
  have K214 : Keep h0 T214.heap [] := (Keep.refl h0 []).trans Kc214 all0
  show Run p e below s _ _ _ (T214.setTop (mkF m 6 #[.val (.int ia), .val (.int ib), .val (.int sl), .unset, .unset, .unset] [o214]))
  refine Run.pre (fun _ k => XS.astoreN X214.here hx rfl (hb hby at_6) rfl ir214 (l' := #[.val (.int ia), .val (.int ib), .val (.int sl), .val o214, .unset, .unset]) (by rcases ref_cases ir214 with hq | ⟨_, hq⟩ <;> subst hq <;> rfl) k) ?_
  show Run p e below s _ _ _ (T214.setTop (mkF m 7 #[.val (.int ia), .val (.int ib), .val (.int sl), .val o214, .unset, .unset] []))
  refine Run.pre (fun _ k => XS.aloadN X214.here hx rfl (hb hby at_7) rfl ir214 k) ?_
  show Run p e below s _ _ _ (T214.setTop (mkF m 8 #[.val (.int ia), .val (.int ib), .val (.int sl), .val o214, .unset, .unset] [o214]))
  have f215 := (OL.keep Kc214 all0)
  refine Run.callS hK hS (Nat.le_refl _) X214 hx hZ (y := (⟨"com/example/hyra/hyra/service/RefusedException", "conflict", "(Ljava/lang/String;)Lcom/example/hyra/hyra/service/RefusedException;"⟩ : MethodName)) hown (hw _ (List.mem_of_getElem? (i := 30) rfl)) (hw _ (List.mem_of_getElem? (i := 31) rfl)) (hw _ (List.mem_of_getElem? (i := 32) rfl)) (hw _ (List.mem_of_getElem? (i := 33) rfl)) (by decide) (W := 0) (rmMk l Z a0 hw o214 su sn wc T214.heap n0 (Nat.le_trans Z0 K214.1) f215 hl ir214 SU SN SR) rfl (by decide) (by decide) (by decide) (by decide) (fun _ _ => trivial) (g := (mkF m 8 #[.val (.int ia), .val (.int ib), .val (.int sl), .val o214, .unset, .unset] [o214])) rfl (by rw [hml]; rfl) (argsL := [o214]) (rest := []) (lenOf pd_12 rfl) rfl (by show 2 * 0 + _ ≤ _; exact Nat.le_of_eq rfl) (hb hby at_8) ?_
  intro v216 T216 L216 X216 hS hZ hown hV216 hQ216
  obtain ⟨o216, rfl, Nq216, Kc216, sz216, eo216, ut216, fm216, fc216, fr216⟩ := hQ216
  have N216 := Fr.app N214 Nq216
  have K216 : Keep h0 T216.heap [] := K214.trans Kc216 all0
  have sz_o216 : h0.size ≤ o216 := Nat.le_trans K214.1 sz216
  have gn_o216 : n0 ≤ o216 := Nat.le_trans Z0 sz_o216
  show Run p e below s _ _ _ (T216.setTop (mkF m 11 #[.val (.int ia), .val (.int ib), .val (.int sl), .val o214, .unset, .unset] [(.ref o216)]))
  refine Run.pre (fun _ k => XS.astore X216.here hx rfl (hb hby at_11) rfl rfl (l' := #[.val (.int ia), .val (.int ib), .val (.int sl), .val o214, .val (.ref o216), .unset]) rfl k) ?_
  show Run p e below s _ _ _ (T216.setTop (mkF m 13 #[.val (.int ia), .val (.int ib), .val (.int sl), .val o214, .val (.ref o216), .unset] []))
  refine Run.pre (fun _ k => XS.aload X216.here hx rfl (hb hby at_13) rfl rfl k) ?_
  show Run p e below s _ _ _ (T216.setTop (mkF m 15 #[.val (.int ia), .val (.int ib), .val (.int sl), .val o214, .val (.ref o216), .unset] [(.ref o216)]))
  refine Run.pre (fun _ k => XS.ifnonnullYes X216.here hx rfl (pc0 := 15) (pc' := 20) rfl (hb hby at_15) rfl (by decide) (by decide) k) ?_
  show Run p e below s _ _ _ (T216.setTop (mkF m 20 #[.val (.int ia), .val (.int ib), .val (.int sl), .val o214, .val (.ref o216), .unset] []))
  refine Run.pre (fun _ k => XS.aload X216.here hx rfl (hb hby at_20) rfl rfl k) ?_
  show Run p e below s _ _ _ (T216.setTop (mkF m 22 #[.val (.int ia), .val (.int ib), .val (.int sl), .val o214, .val (.ref o216), .unset] [(.ref o216)]))
  refine Run.callV hK hS (Nat.le_refl _) X216 hx hZ (y := (⟨"com/example/hyra/hyra/service/RefusedException", "reason", "()Lcom/example/hyra/hyra/service/RefusedException$Reason;"⟩ : MethodName)) (z := (⟨"com/example/hyra/hyra/service/RefusedException", "reason", "()Lcom/example/hyra/hyra/service/RefusedException$Reason;"⟩ : MethodName)) hown (hw _ (List.mem_of_getElem? (i := 98) rfl)) (hw _ (List.mem_of_getElem? (i := 99) rfl)) (notFace_of_selects (args := #[]) (mvT hZ (hw _ (List.mem_of_getElem? (i := 101) rfl)))) (hw _ (List.mem_of_getElem? (i := 101) rfl)) (hw _ (List.mem_of_getElem? (i := 100) rfl)) (hw _ (List.mem_of_getElem? (i := 102) rfl)) (hw _ (List.mem_of_getElem? (i := 32) rfl)) (by decide) (b := o216) eo216 (W := 0) (rmRe l Z a0 hw o216 wc T216.heap n0 (Nat.le_trans Z0 K216.1) fr216) rfl (by decide) (by decide) (by decide) (by decide) (fun _ _ => trivial) (g := (mkF m 22 #[.val (.int ia), .val (.int ib), .val (.int sl), .val o214, .val (.ref o216), .unset] [(.ref o216)])) rfl (by rw [hml]; rfl) (argsL := []) (rest := []) (lenOf pd_13 rfl) rfl (by show 2 * 0 + _ ≤ _; exact Nat.le_of_eq rfl) (hb hby at_22) ?_
  intro v217 T217 L217 X217 hS hZ hown hV217 hQ217
  obtain ⟨rfl, Nq217, he217⟩ := hQ217
  have N217 := Fr.app N216 Nq217
  have e217 : T217.heap = T216.heap := he217
  show Run p e below s _ _ _ (T217.setTop (mkF m 25 #[.val (.int ia), .val (.int ib), .val (.int sl), .val o214, .val (.ref o216), .unset] [(.ref wc)]))
  refine Run.pre (fun _ k => XS.astore X217.here hx rfl (hb hby at_25) rfl rfl (l' := #[.val (.int ia), .val (.int ib), .val (.int sl), .val o214, .val (.ref o216), .val (.ref wc)]) rfl k) ?_
  show Run p e below s _ _ _ (T217.setTop (mkF m 27 #[.val (.int ia), .val (.int ib), .val (.int sl), .val o214, .val (.ref o216), .val (.ref wc)] []))
  refine Run.pre (fun _ k => XS.aload X217.here hx rfl (hb hby at_27) rfl rfl k) ?_
  show Run p e below s _ _ _ (T217.setTop (mkF m 29 #[.val (.int ia), .val (.int ib), .val (.int sl), .val o214, .val (.ref o216), .val (.ref wc)] [(.ref wc)]))
  have f218 := (f215.keep Kc216 all0)
  obtain ⟨T219, X219, e219, st219⟩ := getS2 X217 hx hZ hown (host := "") (Or.inl (hw _ (List.mem_of_getElem? (i := 103) rfl))) Via.refl e217 (SR.ext f218.2) (g := (mkF m 29 #[.val (.int ia), .val (.int ib), .val (.int sl), .val o214, .val (.ref o216), .val (.ref wc)] [(.ref wc)])) rfl (hb hby at_29)
  refine Run.pre st219 ?_
  show Run p e below s _ _ _ (T219.setTop (mkF m 32 #[.val (.int ia), .val (.int ib), .val (.int sl), .val o214, .val (.ref o216), .val (.ref wc)] [(.ref wc), (.ref wc)]))
  refine Run.pre (fun _ k => Jvm.RoadKit.acmp (g := (mkF m 32 #[.val (.int ia), .val (.int ib), .val (.int sl), .val o214, .val (.ref o216), .val (.ref wc)] [(.ref wc), (.ref wc)])) X219 hx rfl rfl rfl (pc0 := 32) (pc' := 35) (same := true) rfl (hb hby at_32) rfl (decide_eq_true rfl) (by decide) (by decide) k) ?_
  show Run p e below s _ _ _ (T219.setTop (mkF m 35 #[.val (.int ia), .val (.int ib), .val (.int sl), .val o214, .val (.ref o216), .val (.ref wc)] []))
  refine Run.pre (fun _ k => XS.aload X219.here hx rfl (hb hby at_35) rfl rfl k) ?_
  show Run p e below s _ _ _ (T219.setTop (mkF m 37 #[.val (.int ia), .val (.int ib), .val (.int sl), .val o214, .val (.ref o216), .val (.ref wc)] [(.ref wc)]))
  obtain ⟨T220, X220, e220, st220⟩ := getS2 X219 hx hZ hown (host := "") (Or.inl (hw _ (List.mem_of_getElem? (i := 104) rfl))) Via.refl e219 (SI.ext f218.2) (g := (mkF m 37 #[.val (.int ia), .val (.int ib), .val (.int sl), .val o214, .val (.ref o216), .val (.ref wc)] [(.ref wc)])) rfl (hb hby at_37)
  refine Run.pre st220 ?_
  show Run p e below s _ _ _ (T220.setTop (mkF m 40 #[.val (.int ia), .val (.int ib), .val (.int sl), .val o214, .val (.ref o216), .val (.ref wc)] [(.ref wi), (.ref wc)]))
  refine Run.pre (fun _ k => Jvm.RoadKit.acmp (g := (mkF m 40 #[.val (.int ia), .val (.int ib), .val (.int sl), .val o214, .val (.ref o216), .val (.ref wc)] [(.ref wi), (.ref wc)])) X220 hx rfl rfl rfl (pc0 := 40) (pc' := 43) (same := false) rfl (hb hby at_40) rfl (decide_eq_false fun q => nci (Value.ref.inj q)) (by decide) (by decide) k) ?_
  show Run p e below s _ _ _ (T220.setTop (mkF m 43 #[.val (.int ia), .val (.int ib), .val (.int sl), .val o214, .val (.ref o216), .val (.ref wc)] []))
  refine Run.pre (fun _ k => XS.aload X220.here hx rfl (hb hby at_43) rfl rfl k) ?_
  show Run p e below s _ _ _ (T220.setTop (mkF m 45 #[.val (.int ia), .val (.int ib), .val (.int sl), .val o214, .val (.ref o216), .val (.ref wc)] [(.ref wc)]))
  obtain ⟨T221, X221, e221, st221⟩ := getS2 X220 hx hZ hown (host := "") (Or.inl (hw _ (List.mem_of_getElem? (i := 106) rfl))) Via.refl e220 (SF.ext f218.2) (g := (mkF m 45 #[.val (.int ia), .val (.int ib), .val (.int sl), .val o214, .val (.ref o216), .val (.ref wc)] [(.ref wc)])) rfl (hb hby at_45)
  refine Run.pre st221 ?_
  show Run p e below s _ _ _ (T221.setTop (mkF m 48 #[.val (.int ia), .val (.int ib), .val (.int sl), .val o214, .val (.ref o216), .val (.ref wc)] [(.ref wn), (.ref wc)]))
  refine Run.pre (fun _ k => Jvm.RoadKit.acmp (g := (mkF m 48 #[.val (.int ia), .val (.int ib), .val (.int sl), .val o214, .val (.ref o216), .val (.ref wc)] [(.ref wn), (.ref wc)])) X221 hx rfl rfl rfl (pc0 := 48) (pc' := 51) (same := false) rfl (hb hby at_48) rfl (decide_eq_false fun q => ncn (Value.ref.inj q)) (by decide) (by decide) k) ?_
  show Run p e below s _ _ _ (T221.setTop (mkF m 51 #[.val (.int ia), .val (.int ib), .val (.int sl), .val o214, .val (.ref o216), .val (.ref wc)] []))
  refine Run.pre (fun _ k => XS.iconst X221.here hx rfl (hb hby at_51) k) ?_
  show Run p e below s _ _ _ (T221.setTop (mkF m 52 #[.val (.int ia), .val (.int ib), .val (.int sl), .val o214, .val (.ref o216), .val (.ref wc)] [(.int (1 : Int32))]))
  refine Run.pre (fun _ k => XS.goto X221.here hx rfl (pc0 := 52) (pc' := 56) rfl (hb hby at_52) (by decide) (by decide) k) ?_
  show Run p e below s _ _ _ (T221.setTop (mkF m 56 #[.val (.int ia), .val (.int ib), .val (.int sl), .val o214, .val (.ref o216), .val (.ref wc)] [(.int (1 : Int32))]))
  exact Run.retN hK hS (by first | exact Nat.le_refl _ | (rw [e221]; exact (Nat.le_of_eq (congrArg Array.size e217)))) X221 hx hret (t := .boolean) (by simp) hlk (hb hby at_56) (by first | (rw [e221]; exact ⟨rfl, N217⟩) | exact ⟨rfl, N217⟩) (by decide) (by decide)
theorem own_held {s : State} {tb : Tables} {e : Env} {args : Array Value} (h : Calls_1 tb e args s) : Jvm.Lit.constHeld s "java/lang/String" 7 := by
  obtain ⟨-, -, h1, -⟩ := h
  exact h1 ("java/lang/String", 7) (by simp [consts_1])
set_option maxRecDepth 65536 in
set_option maxHeartbeats 40000000 in
theorem comes_1 {Post : Tables → Env → Array Value → State → Outcome → State → Prop} (hpost : ∀ tb e args s v u, (limb_1_1.after args s (.returned v) u = true ∧ limb_1_2.after args s (.returned v) u = true ∧ True) → ReturnedEndW s (.returned v) u (Jvm.fieldLocs frame_1_writes args s ++ Jvm.arrayLocs frame_1_arrays args s ++ Jvm.staticLocs frame_1_statics s) 24 6656 → Post tb e args s (.returned v) u) :
    ArmFor flags0 classFile x code maxLocals ret World_1 tables_1 room_1 Calls_1 rest_1 Pre_1 Post := by
  intro l hfl _ _ p e ha hc hk s m args below hf hA hF happ hP
  obtain ⟨hcalls, hrest, hpre⟩ := hP
  obtain ⟨-, -, -, hnamed, -, -, -, hat⟩ := (Spec.applies_iff hf).mp happ
  obtain ⟨hg, hn⟩ := and_e (Cond.before_iff.mp (show (Jvm.Cond.and given_1 narrow_1).before args s = true from hpre))
  obtain ⟨g0, gr0⟩ := and_e hg
  obtain ⟨g1, gr1⟩ := and_e gr0
  obtain ⟨g2, gr2⟩ := and_e gr1
  obtain ⟨w0, w1, w2, rfl⟩ : ∃ w0 w1 w2 : Value, args = #[w0, w1, w2] := by
    have hs : args.size = 3 := by simpa [Cond.value, given_1] using g0
    obtain ⟨L⟩ := args
    match L, hs with
    | [w0, w1, w2], _ => exact ⟨w0, w1, w2, rfl⟩
  have hw := fun d (hd : d ∈ tables_1) => atoms_spec (ws := Jvm.Cond.code x code maxLocals ret :: tables_1) hat d (List.mem_cons_of_mem _ hd)
  have hfit : Fit s := own_fit hF
  obtain ⟨hsets, hown0⟩ := atoms_of _ (rest_1_c_eq ▸ (show rest_1_c.before _ s = true from hrest))
  have hr0 := Cond.before_iff.mp hown0
  obtain ⟨i0, ei0⟩ := is_v g1
  obtain rfl : w0 = (.int i0) := Option.some.inj ei0
  obtain ⟨i1, ei1⟩ := is_v g2
  obtain rfl : w1 = (.int i1) := Option.some.inj ei1
  obtain ⟨i2, ei2⟩ := is_v gr2
  obtain rfl : w2 = (.int i2) := Option.some.inj ei2
  obtain ⟨nn0, nnr0⟩ := and_e hn
  obtain ⟨nn1, nnr1⟩ := and_e nnr0
  obtain ⟨nn2, nnr2⟩ := and_e nnr1
  obtain ⟨nn3, nnr3⟩ := and_e nnr2
  obtain ⟨nn4, nnr4⟩ := and_e nnr3
  obtain ⟨w_CONFLICT, ev_CONFLICT⟩ := exa_v nn0
  have S_CONFLICT := Sta.start ev_CONFLICT (Or.inr ⟨(hw _ (List.mem_of_getElem? (i := 37) rfl)), (hw _ (List.mem_of_getElem? (i := 38) rfl))⟩)
  have E_CONFLICT := Exa.start ev_CONFLICT nn0
  obtain ⟨w_INVALID, ev_INVALID⟩ := exa_v nn1
  have S_INVALID := Sta.start ev_INVALID (Or.inr ⟨(hw _ (List.mem_of_getElem? (i := 37) rfl)), (hw _ (List.mem_of_getElem? (i := 105) rfl))⟩)
  have E_INVALID := Exa.start ev_INVALID nn1
  obtain ⟨w_NOT_FOUND, ev_NOT_FOUND⟩ := exa_v nn4
  have S_NOT_FOUND := Sta.start ev_NOT_FOUND (Or.inr ⟨(hw _ (List.mem_of_getElem? (i := 37) rfl)), (hw _ (List.mem_of_getElem? (i := 107) rfl))⟩)
  have E_NOT_FOUND := Exa.start ev_NOT_FOUND nn4
  have F_CONFLICT_ordinal := own_fldInt ev_CONFLICT nn2
  have F_INVALID_ordinal := own_fldInt ev_INVALID nn3
  have F_NOT_FOUND_ordinal := own_fldInt ev_NOT_FOUND nnr4
  obtain ⟨cs0, ecs⟩ := is_v (Cond.before_iff.mp (hsets _ (List.mem_of_getElem? (i := 1) rfl)))
  have S_C := Sta.start ecs (Or.inl (hsets _ (List.mem_of_getElem? (i := 0) rfl)))
  have hcs0 : ¬ cs0 = 0 := own_ne0 ecs (Cond.before_iff.mp (hsets _ (List.mem_of_getElem? (i := 2) rfl)))
  obtain ⟨su0, esu⟩ := arr_v (Cond.before_iff.mp (hsets _ (List.mem_of_getElem? (i := 17) rfl)))
  have S_U := Sta.start esu (Or.inl (hsets _ (List.mem_of_getElem? (i := 15) rfl)))
  obtain ⟨sn0, esn⟩ := exa_v (Cond.before_iff.mp (hsets _ (List.mem_of_getElem? (i := 22) rfl)))
  have S_N := Sta.start esn (Or.inl (hsets _ (List.mem_of_getElem? (i := 20) rfl)))
  have hKn : s.vm.MethodsKnown ∧ s.vm.FramesKnown below := ⟨MethodsKnown_of_tablesKnown hcalls.2.1, FramesKnown_of_framesKnown hcalls.1 hf⟩
  have hl : l.stackTraces = true := by
    show (!l.flags.contains noTraceFlag) = true
    rw [hfl]; first | decide | decide +kernel
  have hH := own_held hcalls
  obtain ⟨n, o, h1, h2, h3, _, L, rfl, ⟨rfl, N⟩, hq⟩ := rm0 l s _ hw i0 i1 i2 cs0 su0 sn0 w_CONFLICT w_INVALID w_NOT_FOUND s.heap s.heap.size (Nat.le_refl _) (Old.start s) S_C hcs0 hH (hsets _ (List.mem_of_getElem? (i := 2) rfl)) hl S_U S_N S_CONFLICT S_INVALID S_NOT_FOUND (F_CONFLICT_ordinal.ne F_INVALID_ordinal (by first | decide | simp)) (F_CONFLICT_ordinal.ne F_NOT_FOUND_ordinal (by first | decide | simp)) tables_1 p e ha hc hk s m _ below hf ((Spec.applies_iff_loose hf).mp happ).1 ⟨rfl, State.Warmed39.refl s, rfl, ⟨#[], by simp, by simp⟩⟩ hKn
  refine ⟨n, _, h1, h2, h3, hpost _ _ _ _ _ _ ⟨Cond.after_iff.mpr rfl, Cond.after_iff.mpr (eq_i res_at (Term.int_eval (1)) rfl), trivial⟩ ⟨hq.1, hq.2.1, hq.2.2.1, (hq.2.2.2.sift fun y hy => Or.inr (N y hy)).mono (by decide) (by decide)⟩⟩
theorem main_1_1 : Claimed_1_1 := comes_1 fun _ _ _ _ _ _ h hF => ⟨h.1, hF⟩
theorem main_1_2 : Claimed_1_2 := comes_1 fun _ _ _ _ _ _ h hF => ⟨h.2.1, hF⟩
end Jvm.Pilot.@@N@@
namespace Jvm.Pilot.@@N@@
open Jvm Jvm.ClassFile Sem Op Lib Jvm.Free Jvm.Stand Jvm.Pilot.@@N@@.Jvm.D
/-! MADE BY PROGRAM (witnessworld.py) out of the Statement's table words and the real class files: 38 classes; the members and pool entries that the words name. The judged class is class 1, her method 2. -/
namespace start1
open Jvm.ClassFile
def u (s : String) : CpInfo := .utf8 (stringToUtf16 s)
/-- a pool by its gaps: so many unusable entries, then the entry; so many at the end -/
def gap : Nat → List CpInfo → List CpInfo
  | 0, r => r
  | n + 1, r => .unusable :: gap n r
def poolList (es : List (Nat × CpInfo)) (last : Nat) : List CpInfo := es.foldr (fun e r => gap e.1 (e.2 :: r)) (gap last [])
def pool (es : List (Nat × CpInfo)) (last : Nat) : Array CpInfo := ⟨poolList es last⟩
def fileOf (pool : Array CpInfo) (this : Nat) (attrs : Array Attribute := #[]) (ms : Array MethodInfo := #[]) (fl : Nat := 33) (sup : Nat := 0) (ifs : Array Nat := #[]) (fds : Array FieldInfo := #[]) : ClassFile where
  minorVersion := 0
  majorVersion := 65
  constantPool := pool
  accessFlags := fl
  thisClass := this
  superClass := sup
  interfaces := ifs
  fields := fds
  methods := ms
  attributes := attrs
def plain (name : String) (sup : Option ClassId) : Class where
  name := name
  kind := .ordinary
  loader := none
  accessFlags := 33
  super := sup
  interfaces := #[]
  cf := none
  fields := #[]
  methods := #[]
  instanceTypes := #[]
  staticTypes := #[]
  resolved := #[]
  callSites := []
  init := .initialized
  statics := none
  mirror := none

def pool0 : Array CpInfo := pool [(5, u "<init>"), (0, u "()V"), (1, .class_ 10), (1, u "java/lang/Object")] 113

def k0c0 : Code := { maxStack := 0, maxLocals := 1, code := object_method_1_code, exceptionTable := #[], attributes := #[] }
def k0m0 : Method := { name := "<init>", desc := "()V", sig := { parameters := [], returnType := none }, accessFlags := 1, code := some k0c0 }
/-- java/lang/Object -/
def k0 : Class := { plain "java/lang/Object" none with
  accessFlags := 33
  interfaces := #[]
  cf := some (fileOf pool0 8 #[] #[{ accessFlags := 1, nameIndex := 5, descriptorIndex := 6, attributes := #[] }] 33 0 #[] #[])
  fields := #[]
  methods := #[k0m0]
  instanceTypes := #[]
  staticTypes := #[]
  resolved := Array.replicate 124 none
  statics := none }

def pool1 : Array CpInfo := pool [(2, .class_ 4), (1, u "java/lang/Object"), (0, u "<init>"), (0, u "()V"), (0, .class_ 8), (0, u "java/lang/String"), (0, .methodref 7 10), (0, .nameAndType 5 11), (0, u "([C)V"), (0, .methodref 7 13), (0, .nameAndType 14 15), (0, u "valueOf"), (0, u "(C)Ljava/lang/String;"), (0, .methodref 17 18), (0, .class_ 19), (0, .nameAndType 20 21), (0, u "com/example/hyra/hyra/service/RefusedExceptionConflictPinLaw"), (0, u "draw"), (0, u "(III)Ljava/lang/String;"), (0, .methodref 23 24), (0, .class_ 25), (0, .nameAndType 26 27), (0, u "com/example/hyra/hyra/service/RefusedException"), (0, u "conflict"), (0, u "(Ljava/lang/String;)Lcom/example/hyra/hyra/service/RefusedException;"), (0, .methodref 23 29), (0, .nameAndType 30 31), (0, u "reason"), (0, u "()Lcom/example/hyra/hyra/service/RefusedException$Reason;"), (0, .fieldref 33 34), (0, .class_ 35), (0, .nameAndType 36 37), (0, u "com/example/hyra/hyra/service/RefusedException$Reason"), (0, u "CONFLICT"), (0, u "Lcom/example/hyra/hyra/service/RefusedException$Reason;"), (0, .fieldref 33 39), (0, .nameAndType 40 37), (0, u "INVALID"), (0, .fieldref 33 42), (0, .nameAndType 43 37), (0, u "NOT_FOUND"), (3, u "law"), (0, u "(III)Z")] 4

def k1m0 : Method := { name := "<init>", desc := "()V", sig := { parameters := [], returnType := none }, accessFlags := 2, code := none }
def k1c1 : Code := { maxStack := 3, maxLocals := 7, code := method_2_code, exceptionTable := #[], attributes := #[] }
def k1m1 : Method := { name := "draw", desc := "(III)Ljava/lang/String;", sig := { parameters := [.int, .int, .int], returnType := some (.object "java/lang/String") }, accessFlags := 10, code := some k1c1 }
def k1c2 : Code := { maxStack := 3, maxLocals := 6, code := code, exceptionTable := #[], attributes := #[] }
def k1m2 : Method := { name := "law", desc := "(III)Z", sig := { parameters := [.int, .int, .int], returnType := some .boolean }, accessFlags := 9, code := some k1c2 }
/-- com/example/hyra/hyra/service/RefusedExceptionConflictPinLaw -/
def k1 : Class := { plain "com/example/hyra/hyra/service/RefusedExceptionConflictPinLaw" (some 0) with
  accessFlags := 49
  interfaces := #[]
  cf := some (fileOf pool1 17 #[] #[{ accessFlags := 2, nameIndex := 5, descriptorIndex := 6, attributes := #[] }, { accessFlags := 10, nameIndex := 20, descriptorIndex := 21, attributes := #[] }, { accessFlags := 9, nameIndex := 47, descriptorIndex := 48, attributes := #[] }] 49 2 #[] #[])
  fields := #[]
  methods := #[k1m0, k1m1, k1m2]
  instanceTypes := #[]
  staticTypes := #[]
  resolved := Array.replicate 53 none
  statics := none }

def pool2 : Array CpInfo := pool [(1, .class_ 2), (0, u "java/io/Serializable"), (0, .class_ 4), (0, u "java/lang/Object")] 2

/-- java/io/Serializable -/
def k2 : Class := { plain "java/io/Serializable" (some 0) with
  accessFlags := 1537
  interfaces := #[]
  cf := some (fileOf pool2 1 #[] #[] 1537 3 #[] #[])
  fields := #[]
  methods := #[]
  instanceTypes := #[]
  staticTypes := #[]
  resolved := Array.replicate 7 none
  statics := none }

def pool3 : Array CpInfo := pool [(1, .class_ 2), (0, u "java/lang/Comparable"), (0, .class_ 4), (0, u "java/lang/Object")] 7

/-- java/lang/Comparable -/
def k3 : Class := { plain "java/lang/Comparable" (some 0) with
  accessFlags := 1537
  interfaces := #[]
  cf := some (fileOf pool3 1 #[] #[] 1537 3 #[] #[])
  fields := #[]
  methods := #[]
  instanceTypes := #[]
  staticTypes := #[]
  resolved := Array.replicate 12 none
  statics := none }

def pool4 : Array CpInfo := pool [(2, .class_ 4), (1, u "java/lang/CharSequence"), (42, .class_ 48), (0, u "java/lang/CharSequence$1CodePointIterator"), (10, .class_ 60), (0, u "java/lang/CharSequence$1CharIterator"), (5, .class_ 67), (0, u "java/lang/Object")] 63

/-- java/lang/CharSequence -/
def k4 : Class := { plain "java/lang/CharSequence" (some 0) with
  accessFlags := 1537
  interfaces := #[]
  cf := some (fileOf pool4 2 #[.nestMembers #[47, 59]] #[] 1537 66 #[] #[])
  fields := #[]
  methods := #[]
  instanceTypes := #[]
  staticTypes := #[]
  resolved := Array.replicate 131 none
  statics := none }

def pool5 : Array CpInfo := pool [(1, .class_ 2), (0, u "java/lang/constant/Constable"), (0, .class_ 4), (0, u "java/lang/Object")] 6

/-- java/lang/constant/Constable -/
def k5 : Class := { plain "java/lang/constant/Constable" (some 0) with
  accessFlags := 1537
  interfaces := #[]
  cf := some (fileOf pool5 1 #[] #[] 1537 3 #[] #[])
  fields := #[]
  methods := #[]
  instanceTypes := #[]
  staticTypes := #[]
  resolved := Array.replicate 11 none
  statics := none }

def pool6 : Array CpInfo := pool [(1, .class_ 2), (0, u "java/lang/constant/ConstantDesc"), (0, .class_ 4), (0, u "java/lang/Object")] 32

/-- java/lang/constant/ConstantDesc -/
def k6 : Class := { plain "java/lang/constant/ConstantDesc" (some 0) with
  accessFlags := 1537
  interfaces := #[]
  cf := some (fileOf pool6 1 #[] #[] 1537 3 #[] #[])
  fields := #[]
  methods := #[]
  instanceTypes := #[]
  staticTypes := #[]
  resolved := Array.replicate 37 none
  statics := none }

def pool7 : Array CpInfo := pool [(1, .methodref 2 3), (0, .class_ 4), (0, .nameAndType 5 6), (0, u "java/lang/Object"), (0, u "<init>"), (0, u "()V"), (0, .string 8), (0, u ""), (0, .fieldref 10 11), (0, .class_ 12), (0, .nameAndType 13 14), (0, u "java/lang/String"), (0, u "value"), (0, u "[B"), (0, .fieldref 10 16), (0, .nameAndType 17 18), (0, u "coder"), (0, u "B"), (2, u "hash"), (0, u "I"), (2, u "hashIsZero"), (0, u "Z"), (0, .methodref 10 28), (0, .nameAndType 5 29), (0, u "([CIILjava/lang/Void;)V"), (8, .fieldref 10 39), (0, .nameAndType 40 26), (0, u "COMPACT_STRINGS"), (1, .class_ 44), (1, u "java/lang/StringUTF16"), (0, u "compress"), (1, .methodref 42 48), (0, .nameAndType 49 50), (0, u "coderFromArrayLen"), (0, u "([BI)B"), (2, u "toBytes"), (53, .class_ 109), (1, u "java/lang/StringLatin1"), (67, .methodref 42 178), (0, .nameAndType 45 179), (0, u "([CII)[B"), (29, .methodref 10 210), (0, .nameAndType 5 211), (0, u "([BB)V"), (157, u "(C)Z"), (205, .class_ 576), (0, u "java/lang/CharSequence"), (22, u "CASE_INSENSITIVE_ORDER"), (0, u "Ljava/util/Comparator;"), (181, u "valueOf"), (0, u "(C)Ljava/lang/String;"), (226, u "([C)V"), (4, .methodref 107 1016), (0, .nameAndType 1017 369), (0, u "canEncode"), (0, .methodref 107 1019), (0, .nameAndType 53 1020), (0, u "(C)[B"), (80, u "serialPersistentFields"), (0, u "[Ljava/io/ObjectStreamField;"), (0, .class_ 1104), (0, u "java/lang/String$CaseInsensitiveComparator"), (1, .class_ 1107), (0, u "java/io/Serializable"), (0, .class_ 1109), (0, u "java/lang/Comparable"), (0, .class_ 1111), (0, u "java/lang/constant/Constable"), (0, .class_ 1113), (0, u "java/lang/constant/ConstantDesc"), (2, u "serialVersionUID"), (0, u "J"), (3, u "REPL"), (0, u "C"), (2, u "LATIN1"), (1, u "UTF16")] 323

def k7m0 : Method := { name := "<init>", desc := "()V", sig := { parameters := [], returnType := none }, accessFlags := 1, code := none }
def k7c1 : Code := { maxStack := 5, maxLocals := 2, code := jdk_42_method_3_code, exceptionTable := #[], attributes := #[] }
def k7m1 : Method := { name := "<init>", desc := "([C)V", sig := { parameters := [(.array .char)], returnType := none }, accessFlags := 1, code := some k7c1 }
def k7c2 : Code := { maxStack := 4, maxLocals := 1, code := jdk_42_method_139_code, exceptionTable := #[], attributes := #[] }
def k7m2 : Method := { name := "valueOf", desc := "(C)Ljava/lang/String;", sig := { parameters := [.char], returnType := some (.object "java/lang/String") }, accessFlags := 9, code := some k7c2 }
def k7c3 : Code := { maxStack := 4, maxLocals := 6, code := jdk_42_method_149_code, exceptionTable := #[], attributes := #[] }
def k7m3 : Method := { name := "<init>", desc := "([CIILjava/lang/Void;)V", sig := { parameters := [(.array .char), .int, .int, (.object "java/lang/Void")], returnType := none }, accessFlags := 2, code := some k7c3 }
def k7c4 : Code := { maxStack := 2, maxLocals := 3, code := jdk_42_method_151_code, exceptionTable := #[], attributes := #[] }
def k7m4 : Method := { name := "<init>", desc := "([BB)V", sig := { parameters := [(.array .byte), .byte], returnType := none }, accessFlags := 0, code := some k7c4 }
/-- java/lang/String -/
def k7 : Class := { plain "java/lang/String" (some 0) with
  accessFlags := 49
  interfaces := #[2, 3, 4, 5, 6]
  cf := some (fileOf pool7 10 #[.nestMembers #[1103]] #[{ accessFlags := 1, nameIndex := 5, descriptorIndex := 6, attributes := #[] }, { accessFlags := 1, nameIndex := 5, descriptorIndex := 1010, attributes := #[] }, { accessFlags := 9, nameIndex := 782, descriptorIndex := 783, attributes := #[] }, { accessFlags := 2, nameIndex := 5, descriptorIndex := 29, attributes := #[] }, { accessFlags := 0, nameIndex := 5, descriptorIndex := 211, attributes := #[] }] 49 2 #[1106, 1108, 575, 1110, 1112] #[{ accessFlags := 18, nameIndex := 13, descriptorIndex := 14, attributes := #[] }, { accessFlags := 18, nameIndex := 17, descriptorIndex := 18, attributes := #[] }, { accessFlags := 2, nameIndex := 21, descriptorIndex := 22, attributes := #[] }, { accessFlags := 2, nameIndex := 25, descriptorIndex := 26, attributes := #[] }, { accessFlags := 26, nameIndex := 1116, descriptorIndex := 1117, attributes := #[] }, { accessFlags := 24, nameIndex := 40, descriptorIndex := 26, attributes := #[] }, { accessFlags := 26, nameIndex := 1101, descriptorIndex := 1102, attributes := #[] }, { accessFlags := 26, nameIndex := 1121, descriptorIndex := 1122, attributes := #[] }, { accessFlags := 25, nameIndex := 599, descriptorIndex := 600, attributes := #[] }, { accessFlags := 24, nameIndex := 1125, descriptorIndex := 18, attributes := #[] }, { accessFlags := 24, nameIndex := 1127, descriptorIndex := 18, attributes := #[] }])
  fields := #[{ name := "value", type := (.array .byte), accessFlags := 18, slot := 0, constantValue := 0 }, { name := "coder", type := .byte, accessFlags := 18, slot := 1, constantValue := 0 }, { name := "hash", type := .int, accessFlags := 2, slot := 2, constantValue := 0 }, { name := "hashIsZero", type := .boolean, accessFlags := 2, slot := 3, constantValue := 0 }, { name := "serialVersionUID", type := .long, accessFlags := 26, slot := 0, constantValue := 0 }, { name := "COMPACT_STRINGS", type := .boolean, accessFlags := 24, slot := 1, constantValue := 0 }, { name := "serialPersistentFields", type := (.array (.object "java/io/ObjectStreamField")), accessFlags := 26, slot := 2, constantValue := 0 }, { name := "REPL", type := .char, accessFlags := 26, slot := 3, constantValue := 0 }, { name := "CASE_INSENSITIVE_ORDER", type := (.object "java/util/Comparator"), accessFlags := 25, slot := 4, constantValue := 0 }, { name := "LATIN1", type := .byte, accessFlags := 24, slot := 5, constantValue := 0 }, { name := "UTF16", type := .byte, accessFlags := 24, slot := 6, constantValue := 0 }]
  methods := #[k7m0, k7m1, k7m2, k7m3, k7m4]
  instanceTypes := #[(.array .byte), .byte, .int, .boolean]
  staticTypes := #[.long, .boolean, (.array (.object "java/io/ObjectStreamField")), .char, (.object "java/util/Comparator"), .byte, .byte]
  resolved := Array.replicate 1451 none
  statics := some 0 }

def pool8 : Array CpInfo := pool [(4, .class_ 6), (1, u "java/lang/Object"), (0, u "<init>"), (0, u "()V"), (5, .class_ 16), (1, u "java/lang/StringLatin1"), (73, u "canEncode"), (14, u "(C)Z"), (15, u "$assertionsDisabled"), (0, u "Z"), (98, .class_ 223), (1, u "java/lang/StringLatin1$LinesSpliterator"), (156, u "toBytes"), (1, u "(C)[B"), (7, .class_ 391), (0, u "java/lang/StringLatin1$CharsSpliterator")] 3

def k8m0 : Method := { name := "<init>", desc := "()V", sig := { parameters := [], returnType := none }, accessFlags := 0, code := none }
def k8c1 : Code := { maxStack := 2, maxLocals := 1, code := jdk_43_method_3_code, exceptionTable := #[], attributes := #[] }
def k8m1 : Method := { name := "canEncode", desc := "(C)Z", sig := { parameters := [.char], returnType := some .boolean }, accessFlags := 9, code := some k8c1 }
def k8c2 : Code := { maxStack := 4, maxLocals := 1, code := jdk_43_method_46_code, exceptionTable := #[], attributes := #[] }
def k8m2 : Method := { name := "toBytes", desc := "(C)[B", sig := { parameters := [.char], returnType := some (.array .byte) }, accessFlags := 9, code := some k8c2 }
/-- java/lang/StringLatin1 -/
def k8 : Class := { plain "java/lang/StringLatin1" (some 0) with
  accessFlags := 48
  interfaces := #[]
  cf := some (fileOf pool8 14 #[.nestMembers #[390, 221]] #[{ accessFlags := 0, nameIndex := 7, descriptorIndex := 8, attributes := #[] }, { accessFlags := 9, nameIndex := 90, descriptorIndex := 105, attributes := #[] }, { accessFlags := 9, nameIndex := 380, descriptorIndex := 382, attributes := #[] }] 48 4 #[] #[{ accessFlags := 4120, nameIndex := 121, descriptorIndex := 122, attributes := #[] }])
  fields := #[{ name := "$assertionsDisabled", type := .boolean, accessFlags := 4120, slot := 0, constantValue := 0 }]
  methods := #[k8m0, k8m1, k8m2]
  instanceTypes := #[]
  staticTypes := #[.boolean]
  resolved := Array.replicate 395 none
  statics := none }

def pool9 : Array CpInfo := pool [(1, .methodref 2 3), (0, .class_ 4), (0, .nameAndType 5 6), (0, u "java/lang/Object"), (0, u "<init>"), (0, u "()V"), (0, .fieldref 8 9), (0, .class_ 10), (0, .nameAndType 11 12), (0, u "java/lang/Throwable"), (0, u "cause"), (0, u "Ljava/lang/Throwable;"), (0, .fieldref 8 14), (0, .nameAndType 15 16), (0, u "UNASSIGNED_STACK"), (0, u "[Ljava/lang/StackTraceElement;"), (0, .fieldref 8 18), (0, .nameAndType 19 16), (0, u "stackTrace"), (0, .fieldref 8 21), (0, .nameAndType 22 23), (0, u "SUPPRESSED_SENTINEL"), (0, u "Ljava/util/List;"), (0, .fieldref 8 25), (0, .nameAndType 26 23), (0, u "suppressedExceptions"), (0, .methodref 8 28), (0, .nameAndType 29 30), (0, u "fillInStackTrace"), (0, u "()Ljava/lang/Throwable;"), (0, .fieldref 8 32), (0, .nameAndType 33 34), (0, u "detailMessage"), (0, u "Ljava/lang/String;"), (58, .class_ 94), (0, u "java/lang/Throwable$WrappedPrintStream"), (6, .class_ 103), (1, u "java/lang/Throwable$PrintStreamOrWriter"), (61, u "$assertionsDisabled"), (0, u "Z"), (26, .class_ 194), (0, u "java/lang/Throwable$WrappedPrintWriter"), (3, .fieldref 8 199), (0, .nameAndType 200 201), (0, u "backtrace"), (0, u "Ljava/lang/Object;"), (0, .methodref 8 203), (0, .nameAndType 29 204), (0, u "(I)Ljava/lang/Throwable;"), (6, u "depth"), (0, u "I"), (10, u "(Ljava/lang/String;)V"), (45, .class_ 271), (1, u "java/lang/Throwable$SentinelHolder"), (32, u "EMPTY_THROWABLE_ARRAY"), (0, u "[Ljava/lang/Throwable;"), (12, .class_ 319), (0, u "java/io/Serializable"), (0, u "serialVersionUID"), (0, u "J"), (5, u "NULL_CAUSE_MESSAGE"), (0, u "SELF_SUPPRESSION_MESSAGE"), (0, u "CAUSE_CAPTION"), (0, u "SUPPRESSED_CAPTION")] 73

def k9c0 : Code := { maxStack := 2, maxLocals := 1, code := jdk_78_method_1_code, exceptionTable := #[], attributes := #[] }
def k9m0 : Method := { name := "<init>", desc := "()V", sig := { parameters := [], returnType := none }, accessFlags := 1, code := some k9c0 }
def k9c1 : Code := { maxStack := 2, maxLocals := 2, code := jdk_78_method_2_code, exceptionTable := #[], attributes := #[] }
def k9m1 : Method := { name := "<init>", desc := "(Ljava/lang/String;)V", sig := { parameters := [(.object "java/lang/String")], returnType := none }, accessFlags := 1, code := some k9c1 }
def k9c2 : Code := { maxStack := 2, maxLocals := 1, code := jdk_78_method_18_code, exceptionTable := #[], attributes := #[] }
def k9m2 : Method := { name := "fillInStackTrace", desc := "()Ljava/lang/Throwable;", sig := { parameters := [], returnType := some (.object "java/lang/Throwable") }, accessFlags := 33, code := some k9c2 }
def k9m3 : Method := { name := "fillInStackTrace", desc := "(I)Ljava/lang/Throwable;", sig := { parameters := [.int], returnType := some (.object "java/lang/Throwable") }, accessFlags := 258, code := none }
/-- java/lang/Throwable -/
def k9 : Class := { plain "java/lang/Throwable" (some 0) with
  accessFlags := 33
  interfaces := #[2]
  cf := some (fileOf pool9 8 #[.nestMembers #[193, 93, 101, 269]] #[{ accessFlags := 1, nameIndex := 5, descriptorIndex := 6, attributes := #[] }, { accessFlags := 1, nameIndex := 5, descriptorIndex := 223, attributes := #[] }, { accessFlags := 33, nameIndex := 29, descriptorIndex := 30, attributes := #[] }, { accessFlags := 258, nameIndex := 29, descriptorIndex := 204, attributes := #[] }] 33 2 #[318] #[{ accessFlags := 26, nameIndex := 320, descriptorIndex := 321, attributes := #[] }, { accessFlags := 130, nameIndex := 200, descriptorIndex := 201, attributes := #[] }, { accessFlags := 2, nameIndex := 33, descriptorIndex := 34, attributes := #[] }, { accessFlags := 26, nameIndex := 15, descriptorIndex := 16, attributes := #[] }, { accessFlags := 2, nameIndex := 11, descriptorIndex := 12, attributes := #[] }, { accessFlags := 2, nameIndex := 19, descriptorIndex := 16, attributes := #[] }, { accessFlags := 130, nameIndex := 211, descriptorIndex := 212, attributes := #[] }, { accessFlags := 26, nameIndex := 22, descriptorIndex := 23, attributes := #[] }, { accessFlags := 2, nameIndex := 26, descriptorIndex := 23, attributes := #[] }, { accessFlags := 26, nameIndex := 327, descriptorIndex := 34, attributes := #[] }, { accessFlags := 26, nameIndex := 328, descriptorIndex := 34, attributes := #[] }, { accessFlags := 26, nameIndex := 329, descriptorIndex := 34, attributes := #[] }, { accessFlags := 26, nameIndex := 330, descriptorIndex := 34, attributes := #[] }, { accessFlags := 26, nameIndex := 304, descriptorIndex := 305, attributes := #[] }, { accessFlags := 4120, nameIndex := 165, descriptorIndex := 166, attributes := #[] }])
  fields := #[{ name := "serialVersionUID", type := .long, accessFlags := 26, slot := 0, constantValue := 0 }, { name := "backtrace", type := (.object "java/lang/Object"), accessFlags := 130, slot := 0, constantValue := 0 }, { name := "detailMessage", type := (.object "java/lang/String"), accessFlags := 2, slot := 1, constantValue := 0 }, { name := "UNASSIGNED_STACK", type := (.array (.object "java/lang/StackTraceElement")), accessFlags := 26, slot := 1, constantValue := 0 }, { name := "cause", type := (.object "java/lang/Throwable"), accessFlags := 2, slot := 2, constantValue := 0 }, { name := "stackTrace", type := (.array (.object "java/lang/StackTraceElement")), accessFlags := 2, slot := 3, constantValue := 0 }, { name := "depth", type := .int, accessFlags := 130, slot := 4, constantValue := 0 }, { name := "SUPPRESSED_SENTINEL", type := (.object "java/util/List"), accessFlags := 26, slot := 2, constantValue := 0 }, { name := "suppressedExceptions", type := (.object "java/util/List"), accessFlags := 2, slot := 5, constantValue := 0 }, { name := "NULL_CAUSE_MESSAGE", type := (.object "java/lang/String"), accessFlags := 26, slot := 3, constantValue := 0 }, { name := "SELF_SUPPRESSION_MESSAGE", type := (.object "java/lang/String"), accessFlags := 26, slot := 4, constantValue := 0 }, { name := "CAUSE_CAPTION", type := (.object "java/lang/String"), accessFlags := 26, slot := 5, constantValue := 0 }, { name := "SUPPRESSED_CAPTION", type := (.object "java/lang/String"), accessFlags := 26, slot := 6, constantValue := 0 }, { name := "EMPTY_THROWABLE_ARRAY", type := (.array (.object "java/lang/Throwable")), accessFlags := 26, slot := 7, constantValue := 0 }, { name := "$assertionsDisabled", type := .boolean, accessFlags := 4120, slot := 8, constantValue := 0 }]
  methods := #[k9m0, k9m1, k9m2, k9m3]
  instanceTypes := #[(.object "java/lang/Object"), (.object "java/lang/String"), (.object "java/lang/Throwable"), (.array (.object "java/lang/StackTraceElement")), .int, (.object "java/util/List")]
  staticTypes := #[.long, (.array (.object "java/lang/StackTraceElement")), (.object "java/util/List"), (.object "java/lang/String"), (.object "java/lang/String"), (.object "java/lang/String"), (.object "java/lang/String"), (.array (.object "java/lang/Throwable")), .boolean]
  resolved := Array.replicate 404 none
  statics := some 1 }

def pool10 : Array CpInfo := pool [(2, .class_ 4), (1, u "java/lang/Throwable"), (0, u "<init>"), (0, u "()V"), (0, .methodref 2 8), (0, .nameAndType 5 9), (0, u "(Ljava/lang/String;)V"), (9, .class_ 20), (0, u "java/lang/Exception"), (0, u "serialVersionUID"), (0, u "J")] 17

def k10m0 : Method := { name := "<init>", desc := "()V", sig := { parameters := [], returnType := none }, accessFlags := 1, code := none }
def k10c1 : Code := { maxStack := 2, maxLocals := 2, code := jdk_59_method_2_code, exceptionTable := #[], attributes := #[] }
def k10m1 : Method := { name := "<init>", desc := "(Ljava/lang/String;)V", sig := { parameters := [(.object "java/lang/String")], returnType := none }, accessFlags := 1, code := some k10c1 }
/-- java/lang/Exception -/
def k10 : Class := { plain "java/lang/Exception" (some 9) with
  accessFlags := 33
  interfaces := #[]
  cf := some (fileOf pool10 19 #[] #[{ accessFlags := 1, nameIndex := 5, descriptorIndex := 6, attributes := #[] }, { accessFlags := 1, nameIndex := 5, descriptorIndex := 9, attributes := #[] }] 33 2 #[] #[{ accessFlags := 24, nameIndex := 21, descriptorIndex := 22, attributes := #[] }])
  fields := #[{ name := "serialVersionUID", type := .long, accessFlags := 24, slot := 0, constantValue := 0 }]
  methods := #[k10m0, k10m1]
  instanceTypes := #[(.object "java/lang/Object"), (.object "java/lang/String"), (.object "java/lang/Throwable"), (.array (.object "java/lang/StackTraceElement")), .int, (.object "java/util/List")]
  staticTypes := #[.long]
  resolved := Array.replicate 40 none
  statics := none }

def pool11 : Array CpInfo := pool [(2, .class_ 4), (1, u "java/lang/Exception"), (0, u "<init>"), (0, u "()V"), (0, .methodref 2 8), (0, .nameAndType 5 9), (0, u "(Ljava/lang/String;)V"), (9, .class_ 20), (0, u "java/lang/RuntimeException"), (0, u "serialVersionUID"), (0, u "J")] 17

def k11m0 : Method := { name := "<init>", desc := "()V", sig := { parameters := [], returnType := none }, accessFlags := 1, code := none }
def k11c1 : Code := { maxStack := 2, maxLocals := 2, code := jdk_58_method_2_code, exceptionTable := #[], attributes := #[] }
def k11m1 : Method := { name := "<init>", desc := "(Ljava/lang/String;)V", sig := { parameters := [(.object "java/lang/String")], returnType := none }, accessFlags := 1, code := some k11c1 }
/-- java/lang/RuntimeException -/
def k11 : Class := { plain "java/lang/RuntimeException" (some 10) with
  accessFlags := 33
  interfaces := #[]
  cf := some (fileOf pool11 19 #[] #[{ accessFlags := 1, nameIndex := 5, descriptorIndex := 6, attributes := #[] }, { accessFlags := 1, nameIndex := 5, descriptorIndex := 9, attributes := #[] }] 33 2 #[] #[{ accessFlags := 24, nameIndex := 21, descriptorIndex := 22, attributes := #[] }])
  fields := #[{ name := "serialVersionUID", type := .long, accessFlags := 24, slot := 0, constantValue := 0 }]
  methods := #[k11m0, k11m1]
  instanceTypes := #[(.object "java/lang/Object"), (.object "java/lang/String"), (.object "java/lang/Throwable"), (.array (.object "java/lang/StackTraceElement")), .int, (.object "java/util/List")]
  staticTypes := #[.long]
  resolved := Array.replicate 40 none
  statics := none }

def pool12 : Array CpInfo := pool [(1, .methodref 2 3), (0, .class_ 4), (0, .nameAndType 5 6), (0, u "java/lang/RuntimeException"), (0, u "<init>"), (0, u "(Ljava/lang/String;)V"), (0, .fieldref 8 9), (0, .class_ 10), (0, .nameAndType 11 12), (0, u "com/example/hyra/hyra/service/RefusedException"), (0, u "reason"), (0, u "Lcom/example/hyra/hyra/service/RefusedException$Reason;"), (1, .class_ 16), (1, u "com/example/hyra/hyra/service/RefusedException$Reason"), (1, .methodref 8 19), (0, .nameAndType 5 20), (0, u "(Lcom/example/hyra/hyra/service/RefusedException$Reason;Ljava/lang/String;)V"), (0, .fieldref 14 22), (0, .nameAndType 23 12), (0, u "CONFLICT"), (3, u "serialVersionUID"), (0, u "J"), (6, u "(Ljava/lang/String;)Lcom/example/hyra/hyra/service/RefusedException;"), (0, u "conflict"), (1, u "()Lcom/example/hyra/hyra/service/RefusedException$Reason;")] 5

def k12c0 : Code := { maxStack := 2, maxLocals := 3, code := prog_14_method_1_code, exceptionTable := #[], attributes := #[] }
def k12m0 : Method := { name := "<init>", desc := "(Lcom/example/hyra/hyra/service/RefusedException$Reason;Ljava/lang/String;)V", sig := { parameters := [(.object "com/example/hyra/hyra/service/RefusedException$Reason"), (.object "java/lang/String")], returnType := none }, accessFlags := 2, code := some k12c0 }
def k12c1 : Code := { maxStack := 4, maxLocals := 1, code := prog_14_method_3_code, exceptionTable := #[], attributes := #[] }
def k12m1 : Method := { name := "conflict", desc := "(Ljava/lang/String;)Lcom/example/hyra/hyra/service/RefusedException;", sig := { parameters := [(.object "java/lang/String")], returnType := some (.object "com/example/hyra/hyra/service/RefusedException") }, accessFlags := 9, code := some k12c1 }
def k12c2 : Code := { maxStack := 1, maxLocals := 1, code := prog_14_method_5_code, exceptionTable := #[], attributes := #[] }
def k12m2 : Method := { name := "reason", desc := "()Lcom/example/hyra/hyra/service/RefusedException$Reason;", sig := { parameters := [], returnType := some (.object "com/example/hyra/hyra/service/RefusedException$Reason") }, accessFlags := 1, code := some k12c2 }
/-- com/example/hyra/hyra/service/RefusedException -/
def k12 : Class := { plain "com/example/hyra/hyra/service/RefusedException" (some 11) with
  accessFlags := 49
  interfaces := #[]
  cf := some (fileOf pool12 8 #[.nestMembers #[14]] #[{ accessFlags := 2, nameIndex := 5, descriptorIndex := 20, attributes := #[] }, { accessFlags := 9, nameIndex := 36, descriptorIndex := 35, attributes := #[] }, { accessFlags := 1, nameIndex := 11, descriptorIndex := 38, attributes := #[] }] 49 2 #[] #[{ accessFlags := 26, nameIndex := 27, descriptorIndex := 28, attributes := #[] }, { accessFlags := 18, nameIndex := 11, descriptorIndex := 12, attributes := #[] }])
  fields := #[{ name := "serialVersionUID", type := .long, accessFlags := 26, slot := 0, constantValue := 0 }, { name := "reason", type := (.object "com/example/hyra/hyra/service/RefusedException$Reason"), accessFlags := 18, slot := 6, constantValue := 0 }]
  methods := #[k12m0, k12m1, k12m2]
  instanceTypes := #[(.object "java/lang/Object"), (.object "java/lang/String"), (.object "java/lang/Throwable"), (.array (.object "java/lang/StackTraceElement")), .int, (.object "java/util/List"), (.object "com/example/hyra/hyra/service/RefusedException$Reason")]
  staticTypes := #[.long]
  resolved := Array.replicate 44 none
  statics := none }

def pool13 : Array CpInfo := pool [(2, .class_ 4), (1, u "java/lang/Enum"), (0, u "name"), (0, u "Ljava/lang/String;"), (2, u "ordinal"), (0, u "I"), (1, .class_ 14), (1, u "java/lang/Object"), (4, u "hash"), (86, .class_ 108), (1, u "java/lang/Enum$EnumDesc"), (2, .class_ 112), (0, u "java/lang/constant/Constable"), (0, .class_ 114), (0, u "java/lang/Comparable"), (0, .class_ 116), (0, u "java/io/Serializable")] 87

/-- java/lang/Enum -/
def k13 : Class := { plain "java/lang/Enum" (some 0) with
  accessFlags := 1057
  interfaces := #[5, 3, 2]
  cf := some (fileOf pool13 2 #[.nestMembers #[106]] #[] 1057 12 #[111, 113, 115] #[{ accessFlags := 18, nameIndex := 5, descriptorIndex := 6, attributes := #[] }, { accessFlags := 18, nameIndex := 9, descriptorIndex := 10, attributes := #[] }, { accessFlags := 2, nameIndex := 19, descriptorIndex := 10, attributes := #[] }])
  fields := #[{ name := "name", type := (.object "java/lang/String"), accessFlags := 18, slot := 0, constantValue := 0 }, { name := "ordinal", type := .int, accessFlags := 18, slot := 1, constantValue := 0 }, { name := "hash", type := .int, accessFlags := 2, slot := 2, constantValue := 0 }]
  methods := #[]
  instanceTypes := #[(.object "java/lang/String"), .int, .int]
  staticTypes := #[]
  resolved := Array.replicate 204 none
  statics := none }

def pool14 : Array CpInfo := pool [(1, .class_ 2), (0, u "com/example/hyra/hyra/service/RefusedException$Reason"), (2, u "INVALID"), (0, u "Lcom/example/hyra/hyra/service/RefusedException$Reason;"), (2, u "CONFLICT"), (2, u "NOT_FOUND"), (2, u "$VALUES"), (0, u "[Lcom/example/hyra/hyra/service/RefusedException$Reason;"), (6, .class_ 25), (1, u "java/lang/Enum"), (26, .class_ 53), (0, u "com/example/hyra/hyra/service/RefusedException")] 2

/-- com/example/hyra/hyra/service/RefusedException$Reason -/
def k14 : Class := { plain "com/example/hyra/hyra/service/RefusedException$Reason" (some 13) with
  accessFlags := 16433
  interfaces := #[]
  cf := some (fileOf pool14 1 #[.nestHost 52] #[] 16433 23 #[] #[{ accessFlags := 16409, nameIndex := 5, descriptorIndex := 6, attributes := #[] }, { accessFlags := 16409, nameIndex := 9, descriptorIndex := 6, attributes := #[] }, { accessFlags := 16409, nameIndex := 12, descriptorIndex := 6, attributes := #[] }, { accessFlags := 4122, nameIndex := 15, descriptorIndex := 16, attributes := #[] }])
  fields := #[{ name := "INVALID", type := (.object "com/example/hyra/hyra/service/RefusedException$Reason"), accessFlags := 16409, slot := 0, constantValue := 0 }, { name := "CONFLICT", type := (.object "com/example/hyra/hyra/service/RefusedException$Reason"), accessFlags := 16409, slot := 1, constantValue := 0 }, { name := "NOT_FOUND", type := (.object "com/example/hyra/hyra/service/RefusedException$Reason"), accessFlags := 16409, slot := 2, constantValue := 0 }, { name := "$VALUES", type := (.array (.object "com/example/hyra/hyra/service/RefusedException$Reason")), accessFlags := 4122, slot := 3, constantValue := 0 }]
  methods := #[]
  instanceTypes := #[(.object "java/lang/String"), .int, .int]
  staticTypes := #[(.object "com/example/hyra/hyra/service/RefusedException$Reason"), (.object "com/example/hyra/hyra/service/RefusedException$Reason"), (.object "com/example/hyra/hyra/service/RefusedException$Reason"), (.array (.object "com/example/hyra/hyra/service/RefusedException$Reason"))]
  resolved := Array.replicate 56 none
  statics := some 2 }

def pool15 : Array CpInfo := pool [(6, .class_ 8), (1, u "java/lang/Object"), (0, u "<init>"), (0, u "()V"), (1, .class_ 14), (1, u "java/lang/StringUTF16"), (31, u "$assertionsDisabled"), (0, u "Z"), (13, u "HI_BYTE_SHIFT"), (0, u "I"), (2, u "LO_BYTE_SHIFT"), (49, .methodref 12 116), (0, .nameAndType 117 118), (0, u "compress"), (0, u "([CI[BII)I"), (3, u "([CII)[B"), (138, u "coderFromArrayLen"), (0, u "([BI)B"), (106, .class_ 371), (1, u "java/lang/StringUTF16$LinesSpliterator"), (58, u "MAX_LENGTH"), (196, .class_ 628), (0, u "java/lang/StringUTF16$CodePointsSpliterator"), (0, .class_ 630), (0, u "java/lang/StringUTF16$CharsSpliterator")] 4

def k15m0 : Method := { name := "<init>", desc := "()V", sig := { parameters := [], returnType := none }, accessFlags := 0, code := none }
def k15c1 : Code := { maxStack := 2, maxLocals := 2, code := jdk_52_method_15_code, exceptionTable := #[], attributes := #[] }
def k15m1 : Method := { name := "coderFromArrayLen", desc := "([BI)B", sig := { parameters := [(.array .byte), .int], returnType := some .byte }, accessFlags := 8, code := some k15c1 }
def k15c2 : Code := { maxStack := 5, maxLocals := 6, code := jdk_52_method_16_code, exceptionTable := #[], attributes := #[] }
def k15m2 : Method := { name := "compress", desc := "([CII)[B", sig := { parameters := [(.array .char), .int, .int], returnType := some (.array .byte) }, accessFlags := 9, code := some k15c2 }
def k15c3 : Code := { maxStack := 3, maxLocals := 7, code := jdk_52_method_21_code, exceptionTable := #[], attributes := #[] }
def k15m3 : Method := { name := "compress", desc := "([CI[BII)I", sig := { parameters := [(.array .char), .int, (.array .byte), .int, .int], returnType := some .int }, accessFlags := 9, code := some k15c3 }
/-- java/lang/StringUTF16 -/
def k15 : Class := { plain "java/lang/StringUTF16" (some 0) with
  accessFlags := 48
  interfaces := #[]
  cf := some (fileOf pool15 12 #[.nestMembers #[627, 629, 369]] #[{ accessFlags := 0, nameIndex := 9, descriptorIndex := 10, attributes := #[] }, { accessFlags := 8, nameIndex := 261, descriptorIndex := 262, attributes := #[] }, { accessFlags := 9, nameIndex := 117, descriptorIndex := 122, attributes := #[] }, { accessFlags := 9, nameIndex := 117, descriptorIndex := 118, attributes := #[] }] 48 6 #[] #[{ accessFlags := 26, nameIndex := 61, descriptorIndex := 62, attributes := #[] }, { accessFlags := 26, nameIndex := 65, descriptorIndex := 62, attributes := #[] }, { accessFlags := 24, nameIndex := 430, descriptorIndex := 62, attributes := #[] }, { accessFlags := 4120, nameIndex := 46, descriptorIndex := 47, attributes := #[] }])
  fields := #[{ name := "HI_BYTE_SHIFT", type := .int, accessFlags := 26, slot := 0, constantValue := 0 }, { name := "LO_BYTE_SHIFT", type := .int, accessFlags := 26, slot := 1, constantValue := 0 }, { name := "MAX_LENGTH", type := .int, accessFlags := 24, slot := 2, constantValue := 0 }, { name := "$assertionsDisabled", type := .boolean, accessFlags := 4120, slot := 3, constantValue := 0 }]
  methods := #[k15m0, k15m1, k15m2, k15m3]
  instanceTypes := #[]
  staticTypes := #[.int, .int, .int, .boolean]
  resolved := Array.replicate 635 none
  statics := none }

def pool16 : Array CpInfo := pool [(2, .class_ 4), (1, u "java/lang/Object"), (0, u "<init>"), (0, u "()V"), (17, .class_ 26), (1, u "jdk/internal/util/Preconditions"), (28, .class_ 56), (0, u "jdk/internal/util/Preconditions$4"), (57, .class_ 115), (0, u "jdk/internal/util/Preconditions$1"), (7, u "SIOOBE_FORMATTER"), (0, u "Ljava/util/function/BiFunction;"), (0, .class_ 126), (0, u "jdk/internal/util/Preconditions$2"), (3, u "AIOOBE_FORMATTER"), (0, .class_ 132), (0, u "jdk/internal/util/Preconditions$3"), (3, u "IOOBE_FORMATTER")] 57

def k16m0 : Method := { name := "<init>", desc := "()V", sig := { parameters := [], returnType := none }, accessFlags := 1, code := none }
/-- jdk/internal/util/Preconditions -/
def k16 : Class := { plain "jdk/internal/util/Preconditions" (some 0) with
  accessFlags := 33
  interfaces := #[]
  cf := some (fileOf pool16 24 #[.nestMembers #[55, 131, 125, 114]] #[{ accessFlags := 1, nameIndex := 5, descriptorIndex := 6, attributes := #[] }] 33 2 #[] #[{ accessFlags := 25, nameIndex := 123, descriptorIndex := 124, attributes := #[] }, { accessFlags := 25, nameIndex := 130, descriptorIndex := 124, attributes := #[] }, { accessFlags := 25, nameIndex := 136, descriptorIndex := 124, attributes := #[] }])
  fields := #[{ name := "SIOOBE_FORMATTER", type := (.object "java/util/function/BiFunction"), accessFlags := 25, slot := 0, constantValue := 0 }, { name := "AIOOBE_FORMATTER", type := (.object "java/util/function/BiFunction"), accessFlags := 25, slot := 1, constantValue := 0 }, { name := "IOOBE_FORMATTER", type := (.object "java/util/function/BiFunction"), accessFlags := 25, slot := 2, constantValue := 0 }]
  methods := #[k16m0]
  instanceTypes := #[]
  staticTypes := #[(.object "java/util/function/BiFunction"), (.object "java/util/function/BiFunction"), (.object "java/util/function/BiFunction")]
  resolved := Array.replicate 194 none
  statics := some 3 }

def pool17 : Array CpInfo := pool [(9, u "<init>"), (6, .class_ 18), (1, u "java/lang/Object"), (0, u "()V"), (1, .class_ 23), (1, u "jdk/internal/util/ArraysSupport"), (0, u "LOG2_ARRAY_LONG_INDEX_SCALE"), (0, u "I"), (2, u "U"), (0, u "Ljdk/internal/misc/Unsafe;"), (8, u "BIG_ENDIAN"), (0, u "Z"), (8, u "LOG2_BYTE_BIT_SIZE"), (4, u "LOG2_ARRAY_INT_INDEX_SCALE"), (54, u "JLA"), (0, u "Ljdk/internal/access/JavaLangAccess;"), (11, u "LOG2_ARRAY_BOOLEAN_INDEX_SCALE"), (9, u "LOG2_ARRAY_BYTE_INDEX_SCALE"), (5, u "LOG2_ARRAY_CHAR_INDEX_SCALE"), (5, u "LOG2_ARRAY_SHORT_INDEX_SCALE"), (18, u "LOG2_ARRAY_FLOAT_INDEX_SCALE"), (24, u "LOG2_ARRAY_DOUBLE_INDEX_SCALE"), (89, u "T_BOOLEAN"), (2, u "T_CHAR"), (1, u "T_FLOAT"), (1, u "T_DOUBLE"), (1, u "T_BYTE"), (1, u "T_SHORT"), (1, u "T_INT"), (1, u "T_LONG"), (1, u "SOFT_MAX_ARRAY_LENGTH")] 83

def k17m0 : Method := { name := "<init>", desc := "()V", sig := { parameters := [], returnType := none }, accessFlags := 2, code := none }
/-- jdk/internal/util/ArraysSupport -/
def k17 : Class := { plain "jdk/internal/util/ArraysSupport" (some 0) with
  accessFlags := 33
  interfaces := #[]
  cf := some (fileOf pool17 21 #[] #[{ accessFlags := 2, nameIndex := 9, descriptorIndex := 19, attributes := #[] }] 33 16 #[] #[{ accessFlags := 24, nameIndex := 28, descriptorIndex := 29, attributes := #[] }, { accessFlags := 26, nameIndex := 38, descriptorIndex := 39, attributes := #[] }, { accessFlags := 25, nameIndex := 121, descriptorIndex := 25, attributes := #[] }, { accessFlags := 25, nameIndex := 131, descriptorIndex := 25, attributes := #[] }, { accessFlags := 25, nameIndex := 137, descriptorIndex := 25, attributes := #[] }, { accessFlags := 25, nameIndex := 143, descriptorIndex := 25, attributes := #[] }, { accessFlags := 25, nameIndex := 53, descriptorIndex := 25, attributes := #[] }, { accessFlags := 25, nameIndex := 24, descriptorIndex := 25, attributes := #[] }, { accessFlags := 25, nameIndex := 162, descriptorIndex := 25, attributes := #[] }, { accessFlags := 25, nameIndex := 187, descriptorIndex := 25, attributes := #[] }, { accessFlags := 26, nameIndex := 48, descriptorIndex := 25, attributes := #[] }, { accessFlags := 25, nameIndex := 277, descriptorIndex := 25, attributes := #[] }, { accessFlags := 25, nameIndex := 280, descriptorIndex := 25, attributes := #[] }, { accessFlags := 25, nameIndex := 282, descriptorIndex := 25, attributes := #[] }, { accessFlags := 25, nameIndex := 284, descriptorIndex := 25, attributes := #[] }, { accessFlags := 25, nameIndex := 286, descriptorIndex := 25, attributes := #[] }, { accessFlags := 25, nameIndex := 288, descriptorIndex := 25, attributes := #[] }, { accessFlags := 25, nameIndex := 290, descriptorIndex := 25, attributes := #[] }, { accessFlags := 25, nameIndex := 292, descriptorIndex := 25, attributes := #[] }, { accessFlags := 26, nameIndex := 108, descriptorIndex := 109, attributes := #[] }, { accessFlags := 25, nameIndex := 294, descriptorIndex := 25, attributes := #[] }])
  fields := #[{ name := "U", type := (.object "jdk/internal/misc/Unsafe"), accessFlags := 24, slot := 0, constantValue := 0 }, { name := "BIG_ENDIAN", type := .boolean, accessFlags := 26, slot := 1, constantValue := 0 }, { name := "LOG2_ARRAY_BOOLEAN_INDEX_SCALE", type := .int, accessFlags := 25, slot := 2, constantValue := 0 }, { name := "LOG2_ARRAY_BYTE_INDEX_SCALE", type := .int, accessFlags := 25, slot := 3, constantValue := 0 }, { name := "LOG2_ARRAY_CHAR_INDEX_SCALE", type := .int, accessFlags := 25, slot := 4, constantValue := 0 }, { name := "LOG2_ARRAY_SHORT_INDEX_SCALE", type := .int, accessFlags := 25, slot := 5, constantValue := 0 }, { name := "LOG2_ARRAY_INT_INDEX_SCALE", type := .int, accessFlags := 25, slot := 6, constantValue := 0 }, { name := "LOG2_ARRAY_LONG_INDEX_SCALE", type := .int, accessFlags := 25, slot := 7, constantValue := 0 }, { name := "LOG2_ARRAY_FLOAT_INDEX_SCALE", type := .int, accessFlags := 25, slot := 8, constantValue := 0 }, { name := "LOG2_ARRAY_DOUBLE_INDEX_SCALE", type := .int, accessFlags := 25, slot := 9, constantValue := 0 }, { name := "LOG2_BYTE_BIT_SIZE", type := .int, accessFlags := 26, slot := 10, constantValue := 0 }, { name := "T_BOOLEAN", type := .int, accessFlags := 25, slot := 11, constantValue := 0 }, { name := "T_CHAR", type := .int, accessFlags := 25, slot := 12, constantValue := 0 }, { name := "T_FLOAT", type := .int, accessFlags := 25, slot := 13, constantValue := 0 }, { name := "T_DOUBLE", type := .int, accessFlags := 25, slot := 14, constantValue := 0 }, { name := "T_BYTE", type := .int, accessFlags := 25, slot := 15, constantValue := 0 }, { name := "T_SHORT", type := .int, accessFlags := 25, slot := 16, constantValue := 0 }, { name := "T_INT", type := .int, accessFlags := 25, slot := 17, constantValue := 0 }, { name := "T_LONG", type := .int, accessFlags := 25, slot := 18, constantValue := 0 }, { name := "JLA", type := (.object "jdk/internal/access/JavaLangAccess"), accessFlags := 26, slot := 19, constantValue := 0 }, { name := "SOFT_MAX_ARRAY_LENGTH", type := .int, accessFlags := 25, slot := 20, constantValue := 0 }]
  methods := #[k17m0]
  instanceTypes := #[]
  staticTypes := #[(.object "jdk/internal/misc/Unsafe"), .boolean, .int, .int, .int, .int, .int, .int, .int, .int, .int, .int, .int, .int, .int, .int, .int, .int, .int, (.object "jdk/internal/access/JavaLangAccess"), .int]
  resolved := Array.replicate 378 none
  statics := none }

def pool18 : Array CpInfo := pool [(2, .class_ 4), (1, u "java/lang/Object"), (0, u "<init>"), (0, u "()V"), (12, .class_ 20), (0, u "java/util/Collections"), (63, u "r"), (0, u "Ljava/util/Random;"), (80, .class_ 167), (0, u "java/util/Collections$UnmodifiableCollection"), (6, .class_ 175), (0, u "java/util/Collections$UnmodifiableSequencedCollection"), (6, .class_ 183), (0, u "java/util/Collections$UnmodifiableSet"), (6, .class_ 191), (0, u "java/util/Collections$UnmodifiableSequencedSet"), (6, .class_ 199), (0, u "java/util/Collections$UnmodifiableSortedSet"), (6, .class_ 207), (0, u "java/util/Collections$UnmodifiableNavigableSet"), (4, .class_ 213), (0, u "java/util/Collections$UnmodifiableList"), (1, .class_ 216), (0, u "java/util/Collections$UnmodifiableRandomAccessList"), (6, .class_ 224), (0, u "java/util/Collections$UnmodifiableMap"), (6, .class_ 232), (0, u "java/util/Collections$UnmodifiableSequencedMap"), (4, .class_ 238), (0, u "java/util/Collections$UnmodifiableSortedMap"), (6, .class_ 246), (0, u "java/util/Collections$UnmodifiableNavigableMap"), (3, .class_ 251), (0, u "java/util/Collections$SynchronizedCollection"), (4, .class_ 257), (0, u "java/util/Collections$SynchronizedSet"), (4, .class_ 263), (0, u "java/util/Collections$SynchronizedSortedSet"), (1, .class_ 266), (0, u "java/util/Collections$SynchronizedNavigableSet"), (1, .class_ 269), (0, u "java/util/Collections$SynchronizedRandomAccessList"), (1, .class_ 272), (0, u "java/util/Collections$SynchronizedList"), (5, .class_ 279), (0, u "java/util/Collections$SynchronizedMap"), (1, .class_ 282), (0, u "java/util/Collections$SynchronizedSortedMap"), (1, .class_ 285), (0, u "java/util/Collections$SynchronizedNavigableMap"), (1, .class_ 288), (0, u "java/util/Collections$CheckedCollection"), (11, .class_ 301), (0, u "java/util/Collections$CheckedQueue"), (3, .class_ 306), (0, u "java/util/Collections$CheckedSet"), (3, .class_ 311), (0, u "java/util/Collections$CheckedSortedSet"), (3, .class_ 316), (0, u "java/util/Collections$CheckedNavigableSet"), (3, .class_ 321), (0, u "java/util/Collections$CheckedRandomAccessList"), (3, .class_ 326), (0, u "java/util/Collections$CheckedList"), (1, .class_ 329), (0, u "java/util/Collections$CheckedMap"), (3, .class_ 334), (0, u "java/util/Collections$CheckedSortedMap"), (3, .class_ 339), (0, u "java/util/Collections$CheckedNavigableMap"), (4, .class_ 346), (1, u "java/util/Collections$EmptyIterator"), (3, .class_ 352), (1, u "java/util/Collections$EmptyListIterator"), (2, .class_ 357), (1, u "java/util/Collections$EmptyEnumeration"), (4, u "EMPTY_SET"), (0, u "Ljava/util/Set;"), (6, u "EMPTY_LIST"), (0, u "Ljava/util/List;"), (2, u "EMPTY_MAP"), (0, u "Ljava/util/Map;"), (4, .class_ 381), (0, u "java/util/Collections$SingletonSet"), (2, .class_ 385), (0, u "java/util/Collections$1"), (1, .class_ 388), (0, u "java/util/Collections$2"), (1, .class_ 391), (0, u "java/util/Collections$SingletonList"), (1, .class_ 394), (0, u "java/util/Collections$SingletonMap"), (22, .class_ 418), (0, u "java/util/Collections$CopiesList"), (4, .class_ 425), (1, u "java/util/Collections$ReverseComparator"), (8, .class_ 435), (0, u "java/util/Collections$ReverseComparator2"), (6, .class_ 443), (0, u "java/util/Collections$3"), (25, .class_ 470), (0, u "java/util/Collections$SetFromMap"), (2, .class_ 474), (0, u "java/util/Collections$SequencedSetFromMap"), (3, .class_ 479), (0, u "java/util/Collections$AsLIFOQueue"), (11, .class_ 492), (0, u "java/util/Collections$EmptySet"), (1, .class_ 495), (0, u "java/util/Collections$EmptyList"), (1, .class_ 498), (0, u "java/util/Collections$EmptyMap"), (1, u "BINARYSEARCH_THRESHOLD"), (0, u "I"), (2, u "REVERSE_THRESHOLD"), (1, u "SHUFFLE_THRESHOLD"), (1, u "FILL_THRESHOLD"), (1, u "ROTATE_THRESHOLD"), (1, u "COPY_THRESHOLD"), (1, u "REPLACEALL_THRESHOLD"), (1, u "INDEXOFSUBLIST_THRESHOLD"), (333, .class_ 851), (0, u "java/util/Collections$CheckedMap$CheckedEntrySet"), (0, .class_ 853), (0, u "java/util/Collections$CheckedMap$CheckedEntrySet$CheckedEntry"), (0, .class_ 855), (0, u "java/util/Collections$CheckedMap$CheckedEntrySet$1"), (0, .class_ 857), (0, u "java/util/Collections$CheckedList$1"), (0, .class_ 859), (0, u "java/util/Collections$CheckedCollection$1"), (0, .class_ 861), (0, u "java/util/Collections$UnmodifiableNavigableMap$EmptyNavigableMap"), (0, .class_ 863), (0, u "java/util/Collections$UnmodifiableMap$UnmodifiableEntrySet"), (0, .class_ 865), (0, u "java/util/Collections$UnmodifiableMap$UnmodifiableEntrySet$UnmodifiableEntry"), (0, .class_ 867), (0, u "java/util/Collections$UnmodifiableMap$UnmodifiableEntrySet$UnmodifiableEntrySetSpliterator"), (0, .class_ 869), (0, u "java/util/Collections$UnmodifiableMap$UnmodifiableEntrySet$1"), (0, .class_ 871), (0, u "java/util/Collections$UnmodifiableList$1"), (0, .class_ 873), (0, u "java/util/Collections$UnmodifiableNavigableSet$EmptyNavigableSet"), (0, .class_ 875), (0, u "java/util/Collections$UnmodifiableCollection$1")] 57

def k18m0 : Method := { name := "<init>", desc := "()V", sig := { parameters := [], returnType := none }, accessFlags := 2, code := none }
/-- java/util/Collections -/
def k18 : Class := { plain "java/util/Collections" (some 0) with
  accessFlags := 33
  interfaces := #[]
  cf := some (fileOf pool18 19 #[.nestMembers #[478, 473, 469, 434, 423, 417, 393, 390, 380, 497, 494, 491, 355, 350, 344, 338, 333, 328, 850, 852, 854, 320, 325, 856, 315, 310, 305, 300, 287, 858, 284, 281, 278, 268, 271, 265, 262, 256, 250, 245, 860, 237, 231, 223, 862, 864, 866, 868, 215, 212, 870, 206, 872, 198, 190, 182, 174, 166, 874, 442, 387, 384]] #[{ accessFlags := 2, nameIndex := 5, descriptorIndex := 6, attributes := #[] }] 33 2 #[] #[{ accessFlags := 26, nameIndex := 500, descriptorIndex := 501, attributes := #[] }, { accessFlags := 26, nameIndex := 504, descriptorIndex := 501, attributes := #[] }, { accessFlags := 26, nameIndex := 506, descriptorIndex := 501, attributes := #[] }, { accessFlags := 26, nameIndex := 508, descriptorIndex := 501, attributes := #[] }, { accessFlags := 26, nameIndex := 510, descriptorIndex := 501, attributes := #[] }, { accessFlags := 26, nameIndex := 512, descriptorIndex := 501, attributes := #[] }, { accessFlags := 26, nameIndex := 514, descriptorIndex := 501, attributes := #[] }, { accessFlags := 26, nameIndex := 516, descriptorIndex := 501, attributes := #[] }, { accessFlags := 10, nameIndex := 84, descriptorIndex := 85, attributes := #[] }, { accessFlags := 25, nameIndex := 362, descriptorIndex := 363, attributes := #[] }, { accessFlags := 25, nameIndex := 370, descriptorIndex := 371, attributes := #[] }, { accessFlags := 25, nameIndex := 374, descriptorIndex := 375, attributes := #[] }])
  fields := #[{ name := "BINARYSEARCH_THRESHOLD", type := .int, accessFlags := 26, slot := 0, constantValue := 0 }, { name := "REVERSE_THRESHOLD", type := .int, accessFlags := 26, slot := 1, constantValue := 0 }, { name := "SHUFFLE_THRESHOLD", type := .int, accessFlags := 26, slot := 2, constantValue := 0 }, { name := "FILL_THRESHOLD", type := .int, accessFlags := 26, slot := 3, constantValue := 0 }, { name := "ROTATE_THRESHOLD", type := .int, accessFlags := 26, slot := 4, constantValue := 0 }, { name := "COPY_THRESHOLD", type := .int, accessFlags := 26, slot := 5, constantValue := 0 }, { name := "REPLACEALL_THRESHOLD", type := .int, accessFlags := 26, slot := 6, constantValue := 0 }, { name := "INDEXOFSUBLIST_THRESHOLD", type := .int, accessFlags := 26, slot := 7, constantValue := 0 }, { name := "r", type := (.object "java/util/Random"), accessFlags := 10, slot := 8, constantValue := 0 }, { name := "EMPTY_SET", type := (.object "java/util/Set"), accessFlags := 25, slot := 9, constantValue := 0 }, { name := "EMPTY_LIST", type := (.object "java/util/List"), accessFlags := 25, slot := 10, constantValue := 0 }, { name := "EMPTY_MAP", type := (.object "java/util/Map"), accessFlags := 25, slot := 11, constantValue := 0 }]
  methods := #[k18m0]
  instanceTypes := #[]
  staticTypes := #[.int, .int, .int, .int, .int, .int, .int, .int, (.object "java/util/Random"), (.object "java/util/Set"), (.object "java/util/List"), (.object "java/util/Map")]
  resolved := Array.replicate 933 none
  statics := some 4 }

def pool19 : Array CpInfo := pool [(8, .class_ 10), (1, u "java/lang/Iterable"), (24, .class_ 36), (0, u "java/lang/Object")] 25

/-- java/lang/Iterable -/
def k19 : Class := { plain "java/lang/Iterable" (some 0) with
  accessFlags := 1537
  interfaces := #[]
  cf := some (fileOf pool19 8 #[] #[] 1537 35 #[] #[])
  fields := #[]
  methods := #[]
  instanceTypes := #[]
  staticTypes := #[]
  resolved := Array.replicate 62 none
  statics := none }

def pool20 : Array CpInfo := pool [(10, .class_ 12), (1, u "java/util/Collection"), (47, .class_ 61), (0, u "java/lang/Object"), (0, .class_ 63), (0, u "java/lang/Iterable")] 51

/-- java/util/Collection -/
def k20 : Class := { plain "java/util/Collection" (some 0) with
  accessFlags := 1537
  interfaces := #[19]
  cf := some (fileOf pool20 10 #[] #[] 1537 60 #[62] #[])
  fields := #[]
  methods := #[]
  instanceTypes := #[]
  staticTypes := #[]
  resolved := Array.replicate 115 none
  statics := none }

def pool21 : Array CpInfo := pool [(2, .class_ 4), (1, u "java/lang/Object"), (0, u "<init>"), (0, u "()V"), (1, .class_ 10), (1, u "java/util/AbstractCollection"), (66, .class_ 78), (0, u "java/util/Collection")] 81

def k21m0 : Method := { name := "<init>", desc := "()V", sig := { parameters := [], returnType := none }, accessFlags := 4, code := none }
/-- java/util/AbstractCollection -/
def k21 : Class := { plain "java/util/AbstractCollection" (some 0) with
  accessFlags := 1057
  interfaces := #[20]
  cf := some (fileOf pool21 8 #[] #[{ accessFlags := 4, nameIndex := 5, descriptorIndex := 6, attributes := #[] }] 1057 2 #[77] #[])
  fields := #[]
  methods := #[k21m0]
  instanceTypes := #[]
  staticTypes := #[]
  resolved := Array.replicate 160 none
  statics := none }

def pool22 : Array CpInfo := pool [(8, .class_ 10), (1, u "java/util/SequencedCollection"), (15, .class_ 27), (0, u "java/lang/Object"), (0, .class_ 29), (0, u "java/util/Collection")] 27

/-- java/util/SequencedCollection -/
def k22 : Class := { plain "java/util/SequencedCollection" (some 0) with
  accessFlags := 1537
  interfaces := #[20]
  cf := some (fileOf pool22 8 #[] #[] 1537 26 #[28] #[])
  fields := #[]
  methods := #[]
  instanceTypes := #[]
  staticTypes := #[]
  resolved := Array.replicate 57 none
  statics := none }

def pool23 : Array CpInfo := pool [(8, .class_ 10), (1, u "java/util/List"), (92, .class_ 104), (0, u "java/lang/Object"), (15, .class_ 121), (0, u "java/util/SequencedCollection")] 129

/-- java/util/List -/
def k23 : Class := { plain "java/util/List" (some 0) with
  accessFlags := 1537
  interfaces := #[22]
  cf := some (fileOf pool23 8 #[] #[] 1537 103 #[120] #[])
  fields := #[]
  methods := #[]
  instanceTypes := #[]
  staticTypes := #[]
  resolved := Array.replicate 251 none
  statics := none }

def pool24 : Array CpInfo := pool [(2, .class_ 4), (1, u "java/util/AbstractCollection"), (0, u "<init>"), (0, u "()V"), (1, .class_ 10), (1, u "java/util/AbstractList"), (0, u "modCount"), (0, u "I"), (64, .class_ 78), (0, u "java/util/AbstractList$Itr"), (3, .class_ 83), (0, u "java/util/AbstractList$ListItr"), (9, .class_ 94), (0, u "java/util/AbstractList$RandomAccessSubList"), (3, .class_ 99), (0, u "java/util/AbstractList$SubList"), (33, .class_ 134), (0, u "java/util/List"), (73, .class_ 209), (0, u "java/util/AbstractList$SubList$1"), (0, .class_ 211), (0, u "java/util/AbstractList$RandomAccessSpliterator")] 6

def k24m0 : Method := { name := "<init>", desc := "()V", sig := { parameters := [], returnType := none }, accessFlags := 4, code := none }
/-- java/util/AbstractList -/
def k24 : Class := { plain "java/util/AbstractList" (some 21) with
  accessFlags := 1057
  interfaces := #[23]
  cf := some (fileOf pool24 8 #[.nestMembers #[93, 98, 208, 210, 82, 77]] #[{ accessFlags := 4, nameIndex := 5, descriptorIndex := 6, attributes := #[] }] 1057 2 #[133] #[{ accessFlags := 132, nameIndex := 11, descriptorIndex := 12, attributes := #[] }])
  fields := #[{ name := "modCount", type := .int, accessFlags := 132, slot := 0, constantValue := 0 }]
  methods := #[k24m0]
  instanceTypes := #[.int]
  staticTypes := #[]
  resolved := Array.replicate 218 none
  statics := none }

def pool25 : Array CpInfo := pool [(1, .class_ 2), (0, u "java/util/RandomAccess"), (0, .class_ 4), (0, u "java/lang/Object")] 2

/-- java/util/RandomAccess -/
def k25 : Class := { plain "java/util/RandomAccess" (some 0) with
  accessFlags := 1537
  interfaces := #[]
  cf := some (fileOf pool25 1 #[] #[] 1537 3 #[] #[])
  fields := #[]
  methods := #[]
  instanceTypes := #[]
  staticTypes := #[]
  resolved := Array.replicate 7 none
  statics := none }

def pool26 : Array CpInfo := pool [(2, .class_ 4), (1, u "java/util/AbstractList"), (0, u "<init>"), (0, u "()V"), (1, .class_ 10), (1, u "java/util/Collections"), (54, .class_ 66), (0, u "java/util/Collections$EmptyList"), (0, .class_ 68), (0, u "java/util/RandomAccess"), (0, .class_ 70), (0, u "java/io/Serializable"), (0, u "serialVersionUID"), (0, u "J")] 77

def k26m0 : Method := { name := "<init>", desc := "()V", sig := { parameters := [], returnType := none }, accessFlags := 2, code := none }
/-- java/util/Collections$EmptyList -/
def k26 : Class := { plain "java/util/Collections$EmptyList" (some 24) with
  accessFlags := 32
  interfaces := #[25, 2]
  cf := some (fileOf pool26 65 #[.nestHost 8] #[{ accessFlags := 2, nameIndex := 5, descriptorIndex := 6, attributes := #[] }] 32 2 #[67, 69] #[{ accessFlags := 26, nameIndex := 71, descriptorIndex := 72, attributes := #[] }])
  fields := #[{ name := "serialVersionUID", type := .long, accessFlags := 26, slot := 0, constantValue := 0 }]
  methods := #[k26m0]
  instanceTypes := #[.int]
  staticTypes := #[.long]
  resolved := Array.replicate 150 none
  statics := none }

def pool27 : Array CpInfo := pool [(2, .class_ 4), (1, u "java/lang/StackTraceElement"), (0, u "<init>"), (2, .class_ 10), (1, u "java/lang/Object"), (0, u "()V"), (2, u "format"), (0, u "B"), (2, u "classLoaderName"), (0, u "Ljava/lang/String;"), (2, u "moduleName"), (2, u "moduleVersion"), (12, u "declaringClass"), (4, u "methodName"), (2, u "fileName"), (2, u "lineNumber"), (0, u "I"), (65, u "declaringClassObject"), (0, u "Ljava/lang/Class;"), (33, .class_ 153), (1, u "java/lang/StackTraceElement$HashedModules"), (17, .class_ 172), (0, u "java/io/Serializable"), (0, u "NATIVE_METHOD"), (1, u "UNKNOWN_SOURCE"), (2, u "BUILTIN_CLASS_LOADER"), (1, u "JDK_NON_UPGRADEABLE_MODULE"), (1, u "serialVersionUID"), (0, u "J")] 51

def k27m0 : Method := { name := "<init>", desc := "()V", sig := { parameters := [], returnType := none }, accessFlags := 2, code := none }
/-- java/lang/StackTraceElement -/
def k27 : Class := { plain "java/lang/StackTraceElement" (some 0) with
  accessFlags := 49
  interfaces := #[2]
  cf := some (fileOf pool27 2 #[.nestMembers #[151]] #[{ accessFlags := 2, nameIndex := 5, descriptorIndex := 11, attributes := #[] }] 49 8 #[171] #[{ accessFlags := 26, nameIndex := 173, descriptorIndex := 19, attributes := #[] }, { accessFlags := 26, nameIndex := 175, descriptorIndex := 19, attributes := #[] }, { accessFlags := 130, nameIndex := 116, descriptorIndex := 117, attributes := #[] }, { accessFlags := 2, nameIndex := 18, descriptorIndex := 19, attributes := #[] }, { accessFlags := 2, nameIndex := 22, descriptorIndex := 19, attributes := #[] }, { accessFlags := 2, nameIndex := 25, descriptorIndex := 19, attributes := #[] }, { accessFlags := 2, nameIndex := 38, descriptorIndex := 19, attributes := #[] }, { accessFlags := 2, nameIndex := 43, descriptorIndex := 19, attributes := #[] }, { accessFlags := 2, nameIndex := 46, descriptorIndex := 19, attributes := #[] }, { accessFlags := 2, nameIndex := 49, descriptorIndex := 50, attributes := #[] }, { accessFlags := 2, nameIndex := 14, descriptorIndex := 15, attributes := #[] }, { accessFlags := 26, nameIndex := 178, descriptorIndex := 15, attributes := #[] }, { accessFlags := 26, nameIndex := 180, descriptorIndex := 15, attributes := #[] }, { accessFlags := 26, nameIndex := 182, descriptorIndex := 183, attributes := #[] }])
  fields := #[{ name := "NATIVE_METHOD", type := (.object "java/lang/String"), accessFlags := 26, slot := 0, constantValue := 0 }, { name := "UNKNOWN_SOURCE", type := (.object "java/lang/String"), accessFlags := 26, slot := 1, constantValue := 0 }, { name := "declaringClassObject", type := (.object "java/lang/Class"), accessFlags := 130, slot := 0, constantValue := 0 }, { name := "classLoaderName", type := (.object "java/lang/String"), accessFlags := 2, slot := 1, constantValue := 0 }, { name := "moduleName", type := (.object "java/lang/String"), accessFlags := 2, slot := 2, constantValue := 0 }, { name := "moduleVersion", type := (.object "java/lang/String"), accessFlags := 2, slot := 3, constantValue := 0 }, { name := "declaringClass", type := (.object "java/lang/String"), accessFlags := 2, slot := 4, constantValue := 0 }, { name := "methodName", type := (.object "java/lang/String"), accessFlags := 2, slot := 5, constantValue := 0 }, { name := "fileName", type := (.object "java/lang/String"), accessFlags := 2, slot := 6, constantValue := 0 }, { name := "lineNumber", type := .int, accessFlags := 2, slot := 7, constantValue := 0 }, { name := "format", type := .byte, accessFlags := 2, slot := 8, constantValue := 0 }, { name := "BUILTIN_CLASS_LOADER", type := .byte, accessFlags := 26, slot := 2, constantValue := 0 }, { name := "JDK_NON_UPGRADEABLE_MODULE", type := .byte, accessFlags := 26, slot := 3, constantValue := 0 }, { name := "serialVersionUID", type := .long, accessFlags := 26, slot := 4, constantValue := 0 }]
  methods := #[k27m0]
  instanceTypes := #[(.object "java/lang/Class"), (.object "java/lang/String"), (.object "java/lang/String"), (.object "java/lang/String"), (.object "java/lang/String"), (.object "java/lang/String"), (.object "java/lang/String"), .int, .byte]
  staticTypes := #[(.object "java/lang/String"), (.object "java/lang/String"), .byte, .byte, .long]
  resolved := Array.replicate 235 none
  statics := none }

def pool28 : Array CpInfo := pool [(1, u "java/lang/Cloneable"), (0, .class_ 1), (0, u "java/lang/Object"), (0, .class_ 3)] 3

/-- java/lang/Cloneable -/
def k28 : Class := { plain "java/lang/Cloneable" (some 0) with
  accessFlags := 1537
  interfaces := #[]
  cf := some (fileOf pool28 2 #[] #[] 1537 4 #[] #[])
  fields := #[]
  methods := #[]
  instanceTypes := #[]
  staticTypes := #[]
  resolved := Array.replicate 8 none
  statics := none }

/-- the primitive byte -/
def k29 : Class := { plain "byte" none with kind := .primitive 'B', accessFlags := 0x411 }
/-- [B -/
def k30 : Class := { plain "[B" (some 0) with kind := .array 29 .byte, interfaces := #[28, 2], accessFlags := 1041 }

/-- the primitive char -/
def k31 : Class := { plain "char" none with kind := .primitive 'C', accessFlags := 0x411 }
/-- [C -/
def k32 : Class := { plain "[C" (some 0) with kind := .array 31 .char, interfaces := #[28, 2], accessFlags := 1041 }

/-- the primitive int -/
def k33 : Class := { plain "int" none with kind := .primitive 'I', accessFlags := 0x411 }
/-- [I -/
def k34 : Class := { plain "[I" (some 0) with kind := .array 33 .int, interfaces := #[28, 2], accessFlags := 1041 }

/-- [Ljava/lang/Object; -/
def k35 : Class := { plain "[Ljava/lang/Object;" (some 0) with kind := .array 0 (.object "java/lang/Object"), interfaces := #[28, 2], accessFlags := 1041 }

/-- [Ljava/lang/StackTraceElement; -/
def k36 : Class := { plain "[Ljava/lang/StackTraceElement;" (some 0) with kind := .array 27 (.object "java/lang/StackTraceElement"), interfaces := #[28, 2], accessFlags := 1041 }

/-- [Ljava/lang/Throwable; -/
def k37 : Class := { plain "[Ljava/lang/Throwable;" (some 0) with kind := .array 9 (.object "java/lang/Throwable"), interfaces := #[28, 2], accessFlags := 1041 }

def heap : Heap := #[{ cls := 7, slots := #[.long 0, .int 1, .null, .int 0, .null, .int 0, .int 0], vm := .statics 7 },
  { cls := 9, slots := #[.long 0, .ref 8, .ref 9, .null, .null, .null, .null, .ref 10, .int 1], vm := .statics 9 },
  { cls := 14, slots := #[.ref 6, .ref 5, .ref 7, .null], vm := .statics 14 },
  { cls := 16, slots := #[.null, .null, .null], vm := .statics 16 },
  { cls := 18, slots := #[.int 0, .int 0, .int 0, .int 0, .int 0, .int 0, .int 0, .int 0, .null, .null, .ref 9, .null], vm := .statics 18 },
  { cls := 14, slots := #[.null, .int 1, .int 0], vm := .none },
  { cls := 14, slots := #[.null, .int 0, .int 0], vm := .none },
  { cls := 14, slots := #[.null, .int 2, .int 0], vm := .none },
  { cls := 36, slots := #[], vm := .none },
  { cls := 26, slots := #[.int 0], vm := .none },
  { cls := 37, slots := #[], vm := .none }]
def classes : Array Class := #[k0, k1, k2, k3, k4, k5, k6, k7, k8, k9, k10, k11, k12, k13, k14, k15, k16, k17, k18, k19, k20, k21, k22, k23, k24, k25, k26, k27, k28, k29, k30, k31, k32, k33, k34, k35, k36, k37]
def interned : List (Array UInt16 × Addr) := []
def slotsUsed : Nat := 45
def theMethod : MethodId := ⟨1, 2⟩
def args0 : Array Value := #[.int 5, .int 6, .int 2]
def aboutOver (below : List Frame) : State where
  vm := { classes := classes, interned := interned.toArray }
  heap := heap
  slotsUsed := slotsUsed
  threads := #[{ frames := .invoking theMethod args0 :: below }]
def below0 : List Frame := [.native { method := ⟨0, 0⟩, args := #[] }]
def about1 : State := aboutOver below0
def p0 : Program := .bare "" "" ""
def e0 : Env := launch0.env 0 0 0
theorem w_frames : about1.frames = Frame.invoking theMethod args0 :: below0 := rfl
set_option maxRecDepth 65536 in
theorem w_args : argsFit about1.vm theMethod args0 = true := by decide +kernel
set_option maxRecDepth 65536 in
theorem w_heap : heapFits about1 = true := by decide +kernel
set_option maxRecDepth 65536 in
theorem w_runnable : about1.curStatus? = some .runnable := by decide +kernel
set_option maxRecDepth 65536 in
theorem w_alone : about1.alone = true := by decide +kernel
set_option maxRecDepth 65536 in
theorem w_named : about1.methodNamed? x = some theMethod := by decide +kernel
set_option maxRecDepth 65536 in
theorem w_hears : about1.hears theMethod below0 = true := by decide +kernel
set_option maxRecDepth 65536 in
theorem w_ripe : about1.ripe theMethod args0 below0 = true := by decide +kernel
theorem w_running : about1.status = .running := rfl
set_option maxRecDepth 65536 in
theorem w_room : about1.hasRoom e0.platform room_1 = true :=
  launch0.hasRoom_least _ room_1 (by decide +kernel) (by decide +kernel) (by decide +kernel) (by decide +kernel) (by decide +kernel) (by decide +kernel)
theorem allAtoms_all (ts : List Jvm.Cond) (a : Array Jvm.Value) (st : Jvm.State) : (allAtoms ts).before a st = ts.all (fun c => c.before a st) := by
  induction ts with
  | nil => rfl
  | cons c t ih =>
    show (Jvm.Cond.and c (allAtoms t)).before a st = _
    rw [Jvm.Cond.before_and, ih, List.all_cons]
def words1 : List Jvm.Cond := Jvm.Cond.code x code maxLocals ret :: tables_1
/-- a 'code' word, met by the world's own term for the bytes: nothing is compared byte by byte -/
theorem code_word {y : MethodName} {bytes : ByteArray} {mx : Nat} {rt : Option FieldType} {a : Array Value} {s : State} {m : MethodId} {meth : Method} {c : Code} (h1 : s.methodNamed? y = some m) (h2 : s.vm.method? m = some meth) (h3 : meth.code = some c) (h4 : c.code = bytes)
    (h5 : (c.maxLocals == mx && c.exceptionTable.isEmpty && decide (c.maxStack ≤ mostOperands) && decide (meth.sig.returnType = rt) && !meth.locks && decide (parseMethodDescriptor y.desc = some meth.sig)) = true) : (Jvm.Cond.code y bytes mx rt).before a s = true := by
  simp only [Bool.and_eq_true, beq_iff_eq, Bool.not_eq_true', decide_eq_true_eq] at h5
  obtain ⟨⟨⟨⟨⟨g1, g2⟩, g3⟩, g4⟩, g5⟩, g6⟩ := h5
  simp [Cond.before, Cond.holds, Cond.value, h1, h2, h3, h4, g1, g2, g3, g4, g5, g6]
def isCode : Jvm.Cond → Bool
  | .code _ _ _ _ => true
  | _ => false
theorem all_split {L : List Jvm.Cond} {P : Jvm.Cond → Bool} (h1 : L.all (fun c => isCode c || P c) = true) (h2 : ∀ c ∈ L.filter isCode, P c = true) : L.all P = true := by
  refine List.all_eq_true.mpr fun c hc => ?_
  have h := List.all_eq_true.mp h1 c hc
  rcases Bool.eq_false_or_eq_true (isCode c) with hi | hi
  · exact h2 c (List.mem_filter.mpr ⟨hc, hi⟩)
  · simpa [hi] using h
set_option maxRecDepth 65536 in
theorem w_c0 : (Jvm.Cond.code x code maxLocals ret).before args0 about1 = true := code_word (m := ⟨1, 2⟩) (meth := k1m2) (c := k1c2) (by decide +kernel) rfl rfl rfl (by decide +kernel)
set_option maxRecDepth 65536 in
theorem w_c1 : (Jvm.Cond.code ({ cls := "com/example/hyra/hyra/service/RefusedExceptionConflictPinLaw", name := "draw", desc := "(III)Ljava/lang/String;" } : Jvm.MethodName) method_2_code (7 : Nat) (Option.some (Jvm.ClassFile.FieldType.object "java/lang/String"))).before args0 about1 = true := code_word (m := ⟨1, 1⟩) (meth := k1m1) (c := k1c1) (by decide +kernel) rfl rfl rfl (by decide +kernel)
set_option maxRecDepth 65536 in
theorem w_c2 : (Jvm.Cond.code ({ cls := "java/lang/String", name := "valueOf", desc := "(C)Ljava/lang/String;" } : Jvm.MethodName) jdk_42_method_139_code (1 : Nat) (Option.some (Jvm.ClassFile.FieldType.object "java/lang/String"))).before args0 about1 = true := code_word (m := ⟨7, 2⟩) (meth := k7m2) (c := k7c2) (by decide +kernel) rfl rfl rfl (by decide +kernel)
set_option maxRecDepth 65536 in
theorem w_c3 : (Jvm.Cond.code ({ cls := "java/lang/StringLatin1", name := "canEncode", desc := "(C)Z" } : Jvm.MethodName) jdk_43_method_3_code (1 : Nat) (Option.some Jvm.ClassFile.FieldType.boolean)).before args0 about1 = true := code_word (m := ⟨8, 1⟩) (meth := k8m1) (c := k8c1) (by decide +kernel) rfl rfl rfl (by decide +kernel)
set_option maxRecDepth 65536 in
theorem w_c4 : (Jvm.Cond.code ({ cls := "java/lang/StringLatin1", name := "toBytes", desc := "(C)[B" } : Jvm.MethodName) jdk_43_method_46_code (1 : Nat) (Option.some (Jvm.ClassFile.FieldType.array Jvm.ClassFile.FieldType.byte))).before args0 about1 = true := code_word (m := ⟨8, 2⟩) (meth := k8m2) (c := k8c2) (by decide +kernel) rfl rfl rfl (by decide +kernel)
set_option maxRecDepth 65536 in
theorem w_c5 : (Jvm.Cond.code ({ cls := "java/lang/String", name := "<init>", desc := "([BB)V" } : Jvm.MethodName) jdk_42_method_151_code (3 : Nat) (Option.none : Option Jvm.ClassFile.FieldType)).before args0 about1 = true := code_word (m := ⟨7, 4⟩) (meth := k7m4) (c := k7c4) (by decide +kernel) rfl rfl rfl (by decide +kernel)
set_option maxRecDepth 65536 in
theorem w_c6 : (Jvm.Cond.code ({ cls := "java/lang/Object", name := "<init>", desc := "()V" } : Jvm.MethodName) object_method_1_code (1 : Nat) (Option.none : Option Jvm.ClassFile.FieldType)).before args0 about1 = true := code_word (m := ⟨0, 0⟩) (meth := k0m0) (c := k0c0) (by decide +kernel) rfl rfl rfl (by decide +kernel)
set_option maxRecDepth 65536 in
theorem w_c7 : (Jvm.Cond.code ({ cls := "com/example/hyra/hyra/service/RefusedException", name := "conflict", desc := "(Ljava/lang/String;)Lcom/example/hyra/hyra/service/RefusedException;" } : Jvm.MethodName) prog_14_method_3_code (1 : Nat) (Option.some (Jvm.ClassFile.FieldType.object "com/example/hyra/hyra/service/RefusedException"))).before args0 about1 = true := code_word (m := ⟨12, 1⟩) (meth := k12m1) (c := k12c1) (by decide +kernel) rfl rfl rfl (by decide +kernel)
set_option maxRecDepth 65536 in
theorem w_c8 : (Jvm.Cond.code ({ cls := "com/example/hyra/hyra/service/RefusedException", name := "<init>", desc := "(Lcom/example/hyra/hyra/service/RefusedException$Reason;Ljava/lang/String;)V" } : Jvm.MethodName) prog_14_method_1_code (3 : Nat) (Option.none : Option Jvm.ClassFile.FieldType)).before args0 about1 = true := code_word (m := ⟨12, 0⟩) (meth := k12m0) (c := k12c0) (by decide +kernel) rfl rfl rfl (by decide +kernel)
set_option maxRecDepth 65536 in
theorem w_c9 : (Jvm.Cond.code ({ cls := "java/lang/RuntimeException", name := "<init>", desc := "(Ljava/lang/String;)V" } : Jvm.MethodName) jdk_58_method_2_code (2 : Nat) (Option.none : Option Jvm.ClassFile.FieldType)).before args0 about1 = true := code_word (m := ⟨11, 1⟩) (meth := k11m1) (c := k11c1) (by decide +kernel) rfl rfl rfl (by decide +kernel)
set_option maxRecDepth 65536 in
theorem w_c10 : (Jvm.Cond.code ({ cls := "java/lang/Exception", name := "<init>", desc := "(Ljava/lang/String;)V" } : Jvm.MethodName) jdk_59_method_2_code (2 : Nat) (Option.none : Option Jvm.ClassFile.FieldType)).before args0 about1 = true := code_word (m := ⟨10, 1⟩) (meth := k10m1) (c := k10c1) (by decide +kernel) rfl rfl rfl (by decide +kernel)
set_option maxRecDepth 65536 in
theorem w_c11 : (Jvm.Cond.code ({ cls := "java/lang/Throwable", name := "<init>", desc := "(Ljava/lang/String;)V" } : Jvm.MethodName) jdk_78_method_2_code (2 : Nat) (Option.none : Option Jvm.ClassFile.FieldType)).before args0 about1 = true := code_word (m := ⟨9, 1⟩) (meth := k9m1) (c := k9c1) (by decide +kernel) rfl rfl rfl (by decide +kernel)
set_option maxRecDepth 65536 in
theorem w_c12 : (Jvm.Cond.code ({ cls := "java/lang/Throwable", name := "<init>", desc := "()V" } : Jvm.MethodName) jdk_78_method_1_code (1 : Nat) (Option.none : Option Jvm.ClassFile.FieldType)).before args0 about1 = true := code_word (m := ⟨9, 0⟩) (meth := k9m0) (c := k9c0) (by decide +kernel) rfl rfl rfl (by decide +kernel)
set_option maxRecDepth 65536 in
theorem w_c13 : (Jvm.Cond.code ({ cls := "com/example/hyra/hyra/service/RefusedException", name := "reason", desc := "()Lcom/example/hyra/hyra/service/RefusedException$Reason;" } : Jvm.MethodName) prog_14_method_5_code (1 : Nat) (Option.some (Jvm.ClassFile.FieldType.object "com/example/hyra/hyra/service/RefusedException$Reason"))).before args0 about1 = true := code_word (m := ⟨12, 2⟩) (meth := k12m2) (c := k12c2) (by decide +kernel) rfl rfl rfl (by decide +kernel)
set_option maxRecDepth 65536 in
theorem w_c14 : (Jvm.Cond.code ({ cls := "java/lang/String", name := "<init>", desc := "([C)V" } : Jvm.MethodName) jdk_42_method_3_code (2 : Nat) (Option.none : Option Jvm.ClassFile.FieldType)).before args0 about1 = true := code_word (m := ⟨7, 1⟩) (meth := k7m1) (c := k7c1) (by decide +kernel) rfl rfl rfl (by decide +kernel)
set_option maxRecDepth 65536 in
theorem w_c15 : (Jvm.Cond.code ({ cls := "java/lang/String", name := "<init>", desc := "([CIILjava/lang/Void;)V" } : Jvm.MethodName) jdk_42_method_149_code (6 : Nat) (Option.none : Option Jvm.ClassFile.FieldType)).before args0 about1 = true := code_word (m := ⟨7, 3⟩) (meth := k7m3) (c := k7c3) (by decide +kernel) rfl rfl rfl (by decide +kernel)
set_option maxRecDepth 65536 in
theorem w_c16 : (Jvm.Cond.code ({ cls := "java/lang/StringUTF16", name := "compress", desc := "([CII)[B" } : Jvm.MethodName) jdk_52_method_16_code (6 : Nat) (Option.some (Jvm.ClassFile.FieldType.array Jvm.ClassFile.FieldType.byte))).before args0 about1 = true := code_word (m := ⟨15, 2⟩) (meth := k15m2) (c := k15c2) (by decide +kernel) rfl rfl rfl (by decide +kernel)
set_option maxRecDepth 65536 in
theorem w_c17 : (Jvm.Cond.code ({ cls := "java/lang/StringUTF16", name := "compress", desc := "([CI[BII)I" } : Jvm.MethodName) jdk_52_method_21_code (7 : Nat) (Option.some Jvm.ClassFile.FieldType.int)).before args0 about1 = true := code_word (m := ⟨15, 3⟩) (meth := k15m3) (c := k15c3) (by decide +kernel) rfl rfl rfl (by decide +kernel)
set_option maxRecDepth 65536 in
theorem w_c18 : (Jvm.Cond.code ({ cls := "java/lang/StringUTF16", name := "coderFromArrayLen", desc := "([BI)B" } : Jvm.MethodName) jdk_52_method_15_code (2 : Nat) (Option.some Jvm.ClassFile.FieldType.byte)).before args0 about1 = true := code_word (m := ⟨15, 1⟩) (meth := k15m1) (c := k15c1) (by decide +kernel) rfl rfl rfl (by decide +kernel)
def codes1 : List Jvm.Cond := [Jvm.Cond.code x code maxLocals ret, Jvm.Cond.code ({ cls := "com/example/hyra/hyra/service/RefusedExceptionConflictPinLaw", name := "draw", desc := "(III)Ljava/lang/String;" } : Jvm.MethodName) method_2_code (7 : Nat) (Option.some (Jvm.ClassFile.FieldType.object "java/lang/String")), Jvm.Cond.code ({ cls := "java/lang/String", name := "valueOf", desc := "(C)Ljava/lang/String;" } : Jvm.MethodName) jdk_42_method_139_code (1 : Nat) (Option.some (Jvm.ClassFile.FieldType.object "java/lang/String")), Jvm.Cond.code ({ cls := "java/lang/StringLatin1", name := "canEncode", desc := "(C)Z" } : Jvm.MethodName) jdk_43_method_3_code (1 : Nat) (Option.some Jvm.ClassFile.FieldType.boolean), Jvm.Cond.code ({ cls := "java/lang/StringLatin1", name := "toBytes", desc := "(C)[B" } : Jvm.MethodName) jdk_43_method_46_code (1 : Nat) (Option.some (Jvm.ClassFile.FieldType.array Jvm.ClassFile.FieldType.byte)), Jvm.Cond.code ({ cls := "java/lang/String", name := "<init>", desc := "([BB)V" } : Jvm.MethodName) jdk_42_method_151_code (3 : Nat) (Option.none : Option Jvm.ClassFile.FieldType), Jvm.Cond.code ({ cls := "java/lang/Object", name := "<init>", desc := "()V" } : Jvm.MethodName) object_method_1_code (1 : Nat) (Option.none : Option Jvm.ClassFile.FieldType), Jvm.Cond.code ({ cls := "com/example/hyra/hyra/service/RefusedException", name := "conflict", desc := "(Ljava/lang/String;)Lcom/example/hyra/hyra/service/RefusedException;" } : Jvm.MethodName) prog_14_method_3_code (1 : Nat) (Option.some (Jvm.ClassFile.FieldType.object "com/example/hyra/hyra/service/RefusedException")), Jvm.Cond.code ({ cls := "com/example/hyra/hyra/service/RefusedException", name := "<init>", desc := "(Lcom/example/hyra/hyra/service/RefusedException$Reason;Ljava/lang/String;)V" } : Jvm.MethodName) prog_14_method_1_code (3 : Nat) (Option.none : Option Jvm.ClassFile.FieldType), Jvm.Cond.code ({ cls := "java/lang/RuntimeException", name := "<init>", desc := "(Ljava/lang/String;)V" } : Jvm.MethodName) jdk_58_method_2_code (2 : Nat) (Option.none : Option Jvm.ClassFile.FieldType), Jvm.Cond.code ({ cls := "java/lang/Exception", name := "<init>", desc := "(Ljava/lang/String;)V" } : Jvm.MethodName) jdk_59_method_2_code (2 : Nat) (Option.none : Option Jvm.ClassFile.FieldType), Jvm.Cond.code ({ cls := "java/lang/Throwable", name := "<init>", desc := "(Ljava/lang/String;)V" } : Jvm.MethodName) jdk_78_method_2_code (2 : Nat) (Option.none : Option Jvm.ClassFile.FieldType), Jvm.Cond.code ({ cls := "java/lang/Throwable", name := "<init>", desc := "()V" } : Jvm.MethodName) jdk_78_method_1_code (1 : Nat) (Option.none : Option Jvm.ClassFile.FieldType), Jvm.Cond.code ({ cls := "com/example/hyra/hyra/service/RefusedException", name := "reason", desc := "()Lcom/example/hyra/hyra/service/RefusedException$Reason;" } : Jvm.MethodName) prog_14_method_5_code (1 : Nat) (Option.some (Jvm.ClassFile.FieldType.object "com/example/hyra/hyra/service/RefusedException$Reason")), Jvm.Cond.code ({ cls := "java/lang/String", name := "<init>", desc := "([C)V" } : Jvm.MethodName) jdk_42_method_3_code (2 : Nat) (Option.none : Option Jvm.ClassFile.FieldType), Jvm.Cond.code ({ cls := "java/lang/String", name := "<init>", desc := "([CIILjava/lang/Void;)V" } : Jvm.MethodName) jdk_42_method_149_code (6 : Nat) (Option.none : Option Jvm.ClassFile.FieldType), Jvm.Cond.code ({ cls := "java/lang/StringUTF16", name := "compress", desc := "([CII)[B" } : Jvm.MethodName) jdk_52_method_16_code (6 : Nat) (Option.some (Jvm.ClassFile.FieldType.array Jvm.ClassFile.FieldType.byte)), Jvm.Cond.code ({ cls := "java/lang/StringUTF16", name := "compress", desc := "([CI[BII)I" } : Jvm.MethodName) jdk_52_method_21_code (7 : Nat) (Option.some Jvm.ClassFile.FieldType.int), Jvm.Cond.code ({ cls := "java/lang/StringUTF16", name := "coderFromArrayLen", desc := "([BI)B" } : Jvm.MethodName) jdk_52_method_15_code (2 : Nat) (Option.some Jvm.ClassFile.FieldType.byte)]
set_option maxRecDepth 65536 in
theorem codes_eq : words1.filter isCode = codes1 := rfl
theorem w_codes : ∀ c ∈ words1.filter isCode, c.before args0 about1 = true := by
  rw [codes_eq]
  intro c hc
  simp only [codes1, List.mem_cons, List.not_mem_nil, or_false] at hc
  rcases hc with rfl | rfl | rfl | rfl | rfl | rfl | rfl | rfl | rfl | rfl | rfl | rfl | rfl | rfl | rfl | rfl | rfl | rfl | rfl
  · exact w_c0
  · exact w_c1
  · exact w_c2
  · exact w_c3
  · exact w_c4
  · exact w_c5
  · exact w_c6
  · exact w_c7
  · exact w_c8
  · exact w_c9
  · exact w_c10
  · exact w_c11
  · exact w_c12
  · exact w_c13
  · exact w_c14
  · exact w_c15
  · exact w_c16
  · exact w_c17
  · exact w_c18
set_option maxRecDepth 65536 in
theorem w_t1 : (words1.take 24).all (fun c => isCode c || c.before args0 about1) = true := by decide +kernel
set_option maxRecDepth 65536 in
theorem w_t2 : ((words1.drop 24).take 24).all (fun c => isCode c || c.before args0 about1) = true := by decide +kernel
set_option maxRecDepth 65536 in
theorem w_t3 : (((words1.drop 24).drop 24).take 24).all (fun c => isCode c || c.before args0 about1) = true := by decide +kernel
set_option maxRecDepth 65536 in
theorem w_t4 : ((((words1.drop 24).drop 24).drop 24).take 24).all (fun c => isCode c || c.before args0 about1) = true := by decide +kernel
set_option maxRecDepth 65536 in
theorem w_t5 : (((((words1.drop 24).drop 24).drop 24).drop 24).take 24).all (fun c => isCode c || c.before args0 about1) = true := by decide +kernel
set_option maxRecDepth 65536 in
theorem w_t6 : (((((words1.drop 24).drop 24).drop 24).drop 24).drop 24).all (fun c => isCode c || c.before args0 about1) = true := by decide +kernel
theorem w_tables : (allAtoms (Jvm.Cond.code x code maxLocals ret :: tables_1)).before args0 about1 = true := by
  rw [allAtoms_all]
  show words1.all (fun c => c.before args0 about1) = true
  refine all_split ?_ w_codes
  rw [← List.take_append_drop 24 words1, List.all_append, w_t1, ← List.take_append_drop 24 (words1.drop 24), List.all_append, w_t2, ← List.take_append_drop 24 ((words1.drop 24).drop 24), List.all_append, w_t3, ← List.take_append_drop 24 (((words1.drop 24).drop 24).drop 24), List.all_append, w_t4, ← List.take_append_drop 24 ((((words1.drop 24).drop 24).drop 24).drop 24), List.all_append, w_t5, w_t6]
  rfl
set_option maxRecDepth 65536 in
theorem w_rest : rest_1_c.before args0 about1 = true := by decide +kernel
set_option maxRecDepth 65536 in
theorem w_case : (Jvm.Cond.and given_1 narrow_1).before args0 about1 = true := by decide +kernel
set_option maxRecDepth 65536 in
theorem w_consts : constsHeld consts_1 about1 := Jvm.Lit.constsHeldB_iff.mp (by decide +kernel)
theorem w_applies : (headSpec (Jvm.Cond.code x code maxLocals ret :: tables_1) room_1).applies x e0.platform about1 = true :=
  (Spec.applies_iff w_frames).mpr ⟨w_running, w_runnable, w_alone, w_named, w_hears, w_ripe, w_room, w_tables⟩
theorem atStart : AtStart classFile x code maxLocals ret World_1 tables_1 room_1 Calls_1 rest_1 Pre_1 launch0 p0 e0 about1 theMethod args0 below0 :=
  ⟨lists_1, trivial, launch0.admits_env _ _ _, launch0.least_env, fairChoices_fair.cas, fairChoices_fair.clock, w_frames, w_args, w_heap, w_applies, ⟨(by decide +kernel : framesKnown about1 = true), ⟨(by decide +kernel : tablesKnown about1 = true), ⟨w_consts, trivial⟩⟩⟩, w_rest, w_case⟩
end start1
theorem witness_1 : WitnessClaimed_1 := ⟨start1.p0, start1.e0, start1.about1, start1.theMethod, start1.args0, start1.below0, start1.atStart⟩
end Jvm.Pilot.@@N@@
