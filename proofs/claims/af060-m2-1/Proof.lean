import JvmDerived
import JvmDerived.Pilot.@@N@@Statement
import JvmDerived.Pilot.@@N@@Code
set_option linter.unusedVariables false
set_option linter.unusedSimpArgs false
namespace Jvm.Pilot.@@N@@
open Jvm Jvm.ClassFile Sem Op Lib Jvm.Free Jvm.Stand Jvm.LawKit Jvm.RoadKit Bundle Jvm.Pilot.@@N@@.Jvm.D
section Own
variable {p : Program} {l : Launch} {e : Env} {R : Room} {s : State} {m : MethodId} {args : Array Value} {below : List Frame} {meth : Method} {c : Code} {T : State} {locs : List Loc} {cells slots : Nat} {Z : State} {a0 : Array Value} {h : Heap}
/-- from the state S the body ends well, String literals interned meanwhile: it returns v, leaves the heap and the written places as Q says, within kc cells and ks slots -/
def Run (p : Program) (e : Env) (below : List Frame) (s : State) (Q : Option Value → Heap → List Loc → Vm → Prop) (kc ks : Nat) (S : State) : Prop := ∃ s₂ o, Steps p.tables e below S s₂ ∧ s₂.status = .running ∧ Ended s₂ below o ∧ ∃ v L, o = .returned v ∧ Q v s₂.heap L s₂.vm ∧ ReturnedEndW s o s₂ L kc ks
variable {Q : Option Value → Heap → List Loc → Vm → Prop} {kc ks : Nat} {vm0 : Vm} {k0 : Nat}
theorem Run.pre {S S' : State} (h : ∀ t, Steps p.tables e below S' t → Steps p.tables e below S t) (k : Run p e below s Q kc ks S') : Run p e below s Q kc ks S := by
  obtain ⟨s₂, o, h1, r⟩ := k; exact ⟨s₂, o, h _ h1, r⟩
theorem own_monoW {o : Outcome} {u : State} {L : List Loc} {k n : Nat} (h : ReturnedEndW s o u L k n) (hc : k ≤ kc) (hs : n ≤ ks) : ReturnedEndW s o u L kc ks := ⟨h.1, h.2.1, h.2.2.1, h.2.2.2.mono hc hs⟩
theorem Run.out (hS : s.Since vm0 k0) (hk : k0 ≤ T.heap.size) (X : Stand p l e R (s.setVm vm0) m args below meth c T locs cells slots) (hx : p.tables.exec = Jvm.exec) {pc : Nat} {Ls : Array Slot} {w : Value} {t : FieldType} {i : Instr} {rest : List Value} (hret : meth.sig.returnType = some t) (hn : narrow t w = w)
    (hi : (i = .ireturn ∧ (t = .int ∨ t = .boolean ∨ t = .byte ∨ t = .char ∨ t = .short) ∧ ∃ z, w = .int z) ∨ (i = .lreturn ∧ t = .long ∧ ∃ z, w = .long z) ∨ (i = .dreturn ∧ t = .double ∧ ∃ z, w = .double z) ∨ (i = .freturn ∧ t = .float ∧ ∃ z, w = .float z) ∨ (i = .areturn ∧ t.isReference = true ∧ w.isRef = true))
    (hlk : meth.locks = false) (hd : decode c.code pc = .ok (i, 1)) (hq : Q (some w) T.heap locs T.vm) (hc : cells ≤ kc) (hs : slots ≤ ks) : Run p e below s Q kc ks (T.setTop (mkF m pc Ls (w :: rest))) := by
  obtain ⟨fs, hr, hrun, hended, hW⟩ := X.leaveW hS hk (v := some w) (fun h => by rw [hret] at h; cases h) hlk
  exact ⟨_, _, retOut X hx hret hn hi hd hr, hrun, hended, _, _, rfl, hq, own_monoW hW hc hs⟩
theorem Run.retN (hS : s.Since vm0 k0) (hk : k0 ≤ T.heap.size) (X : Stand p l e R (s.setVm vm0) m args below meth c T locs cells slots) (hx : p.tables.exec = Jvm.exec) {pc : Nat} {Ls : Array Slot} {z : Int32} {t : FieldType} {rest : List Value} (hret : meth.sig.returnType = some t) (ht : t = .boolean ∨ t = .byte ∨ t = .char ∨ t = .short) (hlk : meth.locks = false)
    (hd : decode c.code pc = .ok (.ireturn, 1)) (hq : Q (some (.int (nar t z))) T.heap locs T.vm) (hc : cells ≤ kc) (hs : slots ≤ ks) : Run p e below s Q kc ks (T.setTop (mkF m pc Ls (.int z :: rest))) := by
  obtain ⟨fs, hr, hrun, hended, hW⟩ := X.leaveW hS hk (v := some (.int (nar t z))) (fun h => by rw [hret] at h; cases h) hlk
  exact ⟨_, _, Jvm.RoadKit.retN X hx hret ht hd hr, hrun, hended, _, _, rfl, hq, own_monoW hW hc hs⟩
theorem Run.retI (hS : s.Since vm0 k0) (hk : k0 ≤ T.heap.size) (X : Stand p l e R (s.setVm vm0) m args below meth c T locs cells slots) (hx : p.tables.exec = Jvm.exec) {pc : Nat} {Ls : Array Slot} {z : Int32} {rest : List Value} (hret : meth.sig.returnType = some .int) (hlk : meth.locks = false)
    (hd : decode c.code pc = .ok (.ireturn, 1)) (hq : Q (some (.int z)) T.heap locs T.vm) (hc : cells ≤ kc) (hs : slots ≤ ks) : Run p e below s Q kc ks (T.setTop (mkF m pc Ls (.int z :: rest))) := Run.out hS hk X hx hret rfl (Or.inl ⟨rfl, Or.inl rfl, z, rfl⟩) hlk hd hq hc hs
theorem Run.retJ (hS : s.Since vm0 k0) (hk : k0 ≤ T.heap.size) (X : Stand p l e R (s.setVm vm0) m args below meth c T locs cells slots) (hx : p.tables.exec = Jvm.exec) {pc : Nat} {Ls : Array Slot} {z : Int64} {rest : List Value} (hret : meth.sig.returnType = some .long) (hlk : meth.locks = false)
    (hd : decode c.code pc = .ok (.lreturn, 1)) (hq : Q (some (.long z)) T.heap locs T.vm) (hc : cells ≤ kc) (hs : slots ≤ ks) : Run p e below s Q kc ks (T.setTop (mkF m pc Ls (.long z :: rest))) := Run.out hS hk X hx hret rfl (Or.inr (Or.inl ⟨rfl, rfl, z, rfl⟩)) hlk hd hq hc hs
theorem Run.retA (hS : s.Since vm0 k0) (hk : k0 ≤ T.heap.size) (X : Stand p l e R (s.setVm vm0) m args below meth c T locs cells slots) (hx : p.tables.exec = Jvm.exec) {pc : Nat} {Ls : Array Slot} {w : Value} {t : FieldType} {rest : List Value} (hret : meth.sig.returnType = some t) (ht : t.isReference = true) (hw : w.isRef = true) (hlk : meth.locks = false)
    (hd : decode c.code pc = .ok (.areturn, 1)) (hq : Q (some w) T.heap locs T.vm) (hc : cells ≤ kc) (hs : slots ≤ ks) : Run p e below s Q kc ks (T.setTop (mkF m pc Ls (w :: rest))) := Run.out hS hk X hx hret (by cases t <;> cases w <;> simp_all [FieldType.isReference, Value.isRef, narrow]) (Or.inr (Or.inr (Or.inr (Or.inr ⟨rfl, ht, hw⟩)))) hlk hd hq hc hs
theorem Run.retV (hS : s.Since vm0 k0) (hk : k0 ≤ T.heap.size) (X : Stand p l e R (s.setVm vm0) m args below meth c T locs cells slots) (hx : p.tables.exec = Jvm.exec) {pc : Nat} {Ls : Array Slot} (hret : meth.sig.returnType = none) (hlk : meth.locks = false)
    (hd : decode c.code pc = .ok (.return_, 1)) (hq : Q none T.heap locs T.vm) (hc : cells ≤ kc) (hs : slots ≤ ks) : Run p e below s Q kc ks (T.setTop (mkF m pc Ls [])) := by
  obtain ⟨fs, hr, hrun, hended, hW⟩ := X.leaveW hS hk (v := none) (fun _ => rfl) hlk
  exact ⟨_, _, X.returnOut hx hret hd hr, hrun, hended, _, _, rfl, hq, own_monoW hW hc hs⟩
/-- a body's contract, at the heap h0 and the arguments as' -/
def Con (l : Launch) (y : MethodName) (bytes : ByteArray) (maxL : Nat) (ret : Option FieldType) (rm : Room) (Z : State) (as' : Array Value) (h0 : Heap) (P : Vm → Prop) (Q : Option Value → Heap → List Loc → Vm → Prop) : Prop :=
  ∀ ws, MetFree l y (head1 (Jvm.Cond.code y bytes maxL ret :: ws) rm) (fun a U => a = as' ∧ Z.Warmed39 U.vm ∧ U.heap = h0 ∧ P U.vm) (fun _ _ _ _ _ => True) (fun _ U o U' => ∃ v L, o = .returned v ∧ Q v U'.heap L U'.vm ∧ ReturnedEndW U o U' L rm.cells rm.slots)
theorem Con.mk {P : Vm → Prop} {y : MethodName} {bytes : ByteArray} {maxL : Nat} {ret : Option FieldType} {rm : Room} {as' : Array Value} {h0 : Heap} {F : MethodId → JFrame} (hpl : plainFor y = true) (hef : ∀ m, entryFrame m as' maxL = F m)
    (body : ∀ (p : Program) (e : Env) (s : State) (m : MethodId) (below : List Frame) (meth : Method) (c : Code) (s₁ : State) (vm0 : Vm), p.tables.exec = Jvm.exec → c.code = bytes → c.maxLocals = maxL → vm0.findClass y.cls = some m.cls → meth.name = y.name → meth.sig.returnType = ret → meth.locks = false → Z.Warmed39 vm0 →
      Stand p l e rm (s.setVm vm0) m as' below meth c s₁ [] 0 0 → s₁.heap = h0 → s.Since vm0 0 → s.heap = h0 → P vm0 → Run p e below s Q rm.cells rm.slots (s₁.setTop (F m))) : Con l y bytes maxL ret rm Z as' h0 P Q := by
  intro ws
  refine MetFree.of_bodySF hpl hisR ?_
  intro p e s m args below meth c s₁ Bd hml0 hP hK
  obtain ⟨rfl, hZ, hh, hPv⟩ := hP
  have k := body p e s m below meth c s₁ s.vm Bd.exec Bd.bytes hml0 (findClass_of_methodNamed Bd.named) (name_of_methodNamed Bd.named Bd.method).1 Bd.returns Bd.notSynchronized hZ (Stand.of_body Bd) (by rw [← hh, Bd.state]; rfl) ((State.WarmedH.refl s).since 0) hh hPv
  rw [← hef m] at k
  exact k
theorem Con.back {P : Vm → Prop} {y : MethodName} {bytes : ByteArray} {maxL : Nat} {ret : Option FieldType} {rm : Room} {len W : Nat} {as' : Array Value} (hM : Con l y bytes maxL ret rm Z as' h P Q) (hZ : Z.Warmed39 s.vm) (wc : (Jvm.Cond.code y bytes maxL ret).before a0 Z = true) (wz : (Jvm.Cond.initialized y.cls).before a0 Z = true) (hf : rm.frames + 1 ≤ R.frames) (hl : W + (maxL + 11) + rm.locals ≤ R.locals) :
    BackS l R p e below s args y len W (fun A a => a = as' ∧ A.U.heap = h ∧ A.cells + rm.cells ≤ R.cells ∧ A.slots + rm.slots ≤ R.slots ∧ P A.U.vm) (fun A _ v B => ∃ L, Q v B.U.heap L B.U.vm ∧ B.locs = A.locs ++ L ∧ B.cells = A.cells + rm.cells ∧ B.slots = A.slots + rm.slots) := by
  refine BackS.of_freeW (bytes := bytes) (maxL := maxL) (ret := ret) (E := fun _ _ o t L k n => k = rm.cells ∧ n = rm.slots ∧ ∃ v, o = .returned v ∧ Q v t.heap L t.vm) (hM []) hf hl ?_ ?_ (fun _ _ _ _ _ _ _ _ _ => trivial) ?_ ?_
  · intro m meth c A a Y hp
    have hU : Z.Warmed39 A.U.vm := wtrans hZ Y.warmed
    exact ⟨by show (Jvm.Cond.and _ .tt).before a A.U = true; rw [Cond.before_and, mv hU wc]; rfl, mv hU wc, mv hU wz, hp.2.2.1, hp.2.2.2.1⟩
  · intro m meth c A a g mk Y hp
    exact ⟨hp.1, wtrans hZ Y.warmed, hp.2.1, hp.2.2.2.2⟩
  · rintro _ _ _ _ ⟨v, L, h1, h2, h3⟩
    exact ⟨L, _, _, h3, rfl, rfl, v, h1, h2⟩
  · rintro m meth c A a g mk v t L k n Y hp _ _ ⟨e1, e2, v', e3, e4⟩
    cases e3; subst e1 e2
    exact ⟨L, e4, rfl, rfl, rfl⟩
section Calls
variable {y : MethodName} {bytes : ByteArray} {maxL : Nat} {rt : Option FieldType} {rm : Room} {W : Nat} {own : String} {index : Nat} {Pc : Vm → Prop} {Qc : Option Value → Heap → List Loc → Vm → Prop} {g : JFrame} {argsL rest : List Value} {as' : Array Value}
theorem Run.callS (hS : s.Since vm0 k0) (hk : k0 ≤ T.heap.size) (X : Stand p l e R (s.setVm vm0) m args below meth c T locs cells slots) (hx : p.tables.exec = Jvm.exec) (hZ : Z.Warmed39 vm0) (hown : vm0.findClass own = some m.cls) (w1 : (Jvm.Cond.methodLink own index y).before a0 Z = true) (w2 : (Jvm.Cond.static y).before a0 Z = true) (w3 : (Jvm.Cond.initialized y.cls).before a0 Z = true) (w4 : (Jvm.Cond.code y bytes maxL rt).before a0 Z = true)
    (hy : y.cls ≠ "java/lang/invoke/MethodHandle" ∧ y.cls ≠ "java/lang/invoke/VarHandle") (hM : Con l y bytes maxL rt rm Z argsL.toArray h Pc Qc) (eT : T.heap = h) (hfr : rm.frames + 1 ≤ R.frames) (hlo : W + (maxL + 11) + rm.locals ≤ R.locals) (hce : cells + rm.cells ≤ R.cells) (hsl : slots + rm.slots ≤ R.slots) (hPc : ∀ vm₁, (s.setVm vm0).WarmedH vm₁ → Pc vm₁)
    (hg : g.method = m) (hsize : g.locals.size = c.maxLocals) (hlen : ∀ sig, parseMethodDescriptor y.desc = some sig → argsL.length = sig.parameters.length) (hstack : g.stack = argsL.reverse ++ rest) (hW : 2 * g.monitorRoom + (rest.map fun v => v.category).sum ≤ W) (hdg : decode c.code g.pc = .ok (.invokestatic index, 3))
    (k : ∀ v T' L, Stand p l e R (s.setVm T'.vm) m args below meth c T' (locs ++ L) (cells + rm.cells) (slots + rm.slots) → s.Since T'.vm T'.heap.size → Z.Warmed39 T'.vm → T'.vm.findClass own = some m.cls → (s.setVm vm0).Warmed39 T'.vm → Qc v T'.heap L T'.vm → Run p e below s Q kc ks (T'.setTop { g with pc := g.pc + 3, stack := v.toList ++ rest })) : Run p e below s Q kc ks (T.setTop g) := by
  obtain ⟨v, vm₁, ⟨T', L', c', n'⟩, -, X', hS2, hg2, ⟨L, hQ, l1, l2, l3⟩, st⟩ := callSS X hx hown (mvT (s := s.setVm vm0) hZ w1) (mvT (s := s.setVm vm0) hZ w2) (mvT (s := s.setVm vm0) hZ w3) (mvT (s := s.setVm vm0) hZ w4) hy (hM.back (s := s.setVm vm0) (W := W) hZ w4 w3 hfr hlo) hg hsize hlen hstack hW hdg (fun _ q => ⟨rfl, eT, hce, hsl, hPc _ q⟩)
  dsimp only [Pt.U, Pt.locs, Pt.cells, Pt.slots] at X' l1 l2 l3 st hQ hS2 hg2
  subst l1 l2 l3
  exact Run.pre (fun _ q => st.trans q) (k v T' L X' (foldS hS hk hS2 hg2) (State.Warmed39.trans (t := s.setVm vm0) hZ hS2.1) (by rw [hS2.1.alike.findClass]; exact hown) hS2.1 hQ)
theorem Run.callI (hS : s.Since vm0 k0) (hk : k0 ≤ T.heap.size) (X : Stand p l e R (s.setVm vm0) m args below meth c T locs cells slots) (hx : p.tables.exec = Jvm.exec) (hZ : Z.Warmed39 vm0) (hy1 : y.name = "<init>") (hown : vm0.findClass own = some m.cls) (w1 : (Jvm.Cond.methodLink own index y).before a0 Z = true) (w2 : (Jvm.Cond.instanceMethod y).before a0 Z = true) (w4 : (Jvm.Cond.code y bytes maxL none).before a0 Z = true) (w3 : (Jvm.Cond.initialized y.cls).before a0 Z = true)
    (hy : y.cls ≠ "java/lang/invoke/MethodHandle" ∧ y.cls ≠ "java/lang/invoke/VarHandle") {a : Addr} (hM : Con l y bytes maxL none rm Z (.ref a :: argsL).toArray h Pc Qc) (eT : T.heap = h) (hfr : rm.frames + 1 ≤ R.frames) (hlo : W + (maxL + 11) + rm.locals ≤ R.locals) (hce : cells + rm.cells ≤ R.cells) (hsl : slots + rm.slots ≤ R.slots) (hPc : ∀ vm₁, (s.setVm vm0).WarmedH vm₁ → Pc vm₁)
    (hg : g.method = m) (hsize : g.locals.size = c.maxLocals) (hlen : ∀ sig, parseMethodDescriptor y.desc = some sig → argsL.length = sig.parameters.length) (hstack : g.stack = argsL.reverse ++ .ref a :: rest) (hW : 2 * g.monitorRoom + (rest.map fun v => v.category).sum ≤ W) (hdg : decode c.code g.pc = .ok (.invokespecial index, 3))
    (k : ∀ v T' L, Stand p l e R (s.setVm T'.vm) m args below meth c T' (locs ++ L) (cells + rm.cells) (slots + rm.slots) → s.Since T'.vm T'.heap.size → Z.Warmed39 T'.vm → T'.vm.findClass own = some m.cls → (s.setVm vm0).Warmed39 T'.vm → Qc v T'.heap L T'.vm → Run p e below s Q kc ks (T'.setTop { g with pc := g.pc + 3, stack := v.toList ++ rest })) : Run p e below s Q kc ks (T.setTop g) := by
  obtain ⟨v, vm₁, ⟨T', L', c', n'⟩, -, X', hS2, hg2, ⟨L, hQ, l1, l2, l3⟩, st⟩ := X.specialBackS hx hy1 hown (mvT (s := s.setVm vm0) hZ w1) (mvT (s := s.setVm vm0) hZ w2) (mvT (s := s.setVm vm0) hZ w4) hy (hM.back (s := s.setVm vm0) (W := W) hZ w4 w3 hfr hlo) hg hsize (Steps.refl _) hlen hstack hW hdg (fun _ q => ⟨rfl, eT, hce, hsl, hPc _ q⟩)
  dsimp only [Pt.U, Pt.locs, Pt.cells, Pt.slots] at X' l1 l2 l3 st hQ hS2 hg2
  subst l1 l2 l3
  exact Run.pre (fun _ q => st.trans q) (k v T' L X' (foldS hS hk hS2 hg2) (State.Warmed39.trans (t := s.setVm vm0) hZ hS2.1) (by rw [hS2.1.alike.findClass]; exact hown) hS2.1 hQ)
theorem Run.callP (hS : s.Since vm0 k0) (hk : k0 ≤ T.heap.size) (X : Stand p l e R (s.setVm vm0) m args below meth c T locs cells slots) (hx : p.tables.exec = Jvm.exec) (hZ : Z.Warmed39 vm0) (hown : vm0.findClass own = some m.cls) (w1 : (Jvm.Cond.methodLink own index y).before a0 Z = true) (w2 : (Jvm.Cond.instanceMethod y).before a0 Z = true) (w5 : (Jvm.Cond.selects y.cls y y).before a0 Z = true) (w6 : (Jvm.Cond.privateMethod y).before a0 Z = true) (w4 : (Jvm.Cond.code y bytes maxL rt).before a0 Z = true) (w3 : (Jvm.Cond.initialized y.cls).before a0 Z = true)
    (hy : y.cls ≠ "java/lang/invoke/MethodHandle" ∧ y.cls ≠ "java/lang/invoke/VarHandle") {a : Addr} {C : String} (E : Exa Z h a C) (hM : Con l y bytes maxL rt rm Z (.ref a :: argsL).toArray h Pc Qc) (eT : T.heap = h) (hfr : rm.frames + 1 ≤ R.frames) (hlo : W + (maxL + 11) + rm.locals ≤ R.locals) (hce : cells + rm.cells ≤ R.cells) (hsl : slots + rm.slots ≤ R.slots) (hPc : ∀ vm₁, (s.setVm vm0).WarmedH vm₁ → Pc vm₁)
    (hg : g.method = m) (hsize : g.locals.size = c.maxLocals) (hlen : ∀ sig, parseMethodDescriptor y.desc = some sig → argsL.length = sig.parameters.length) (hstack : g.stack = argsL.reverse ++ .ref a :: rest) (hW : 2 * g.monitorRoom + (rest.map fun v => v.category).sum ≤ W) (hdg : decode c.code g.pc = .ok (.invokevirtual index, 3))
    (k : ∀ v T' L, Stand p l e R (s.setVm T'.vm) m args below meth c T' (locs ++ L) (cells + rm.cells) (slots + rm.slots) → s.Since T'.vm T'.heap.size → Z.Warmed39 T'.vm → T'.vm.findClass own = some m.cls → (s.setVm vm0).Warmed39 T'.vm → Qc v T'.heap L T'.vm → Run p e below s Q kc ks (T'.setTop { g with pc := g.pc + 3, stack := v.toList ++ rest })) : Run p e below s Q kc ks (T.setTop g) := by
  obtain ⟨cell, kk, q1, -, -, q4, -⟩ := E
  obtain ⟨v, vm₁, ⟨T', L', c', n'⟩, -, X', hS2, hg2, ⟨L, hQ, l1, l2, l3⟩, st⟩ := X.privateBackS hx hown (mvT (s := s.setVm vm0) hZ w1) (mvT (s := s.setVm vm0) hZ w2) (mvT (s := s.setVm vm0) hZ w5) (Cond.privateMethod_at (mvP (s := s.setVm vm0) hZ w6 (args := #[]))) (mvT (s := s.setVm vm0) hZ w4) hy (hM.back (s := s.setVm vm0) (W := W) hZ w4 w3 hfr hlo) hg hsize (Steps.refl _) (a := a) (by rw [eT]; exact q1) (fun q e => by rw [e] at q4; cases q4) hlen hstack hW hdg (fun _ q => ⟨rfl, eT, hce, hsl, hPc _ q⟩)
  dsimp only [Pt.U, Pt.locs, Pt.cells, Pt.slots] at X' l1 l2 l3 st hQ hS2 hg2
  subst l1 l2 l3
  exact Run.pre (fun _ q => st.trans q) (k v T' L X' (foldS hS hk hS2 hg2) (State.Warmed39.trans (t := s.setVm vm0) hZ hS2.1) (by rw [hS2.1.alike.findClass]; exact hown) hS2.1 hQ)
theorem Run.callV {z : MethodName} {C : String} (hS : s.Since vm0 k0) (hk : k0 ≤ T.heap.size) (X : Stand p l e R (s.setVm vm0) m args below meth c T locs cells slots) (hx : p.tables.exec = Jvm.exec) (hZ : Z.Warmed39 vm0) (hown : vm0.findClass own = some m.cls) (w1 : (Jvm.Cond.methodLink own index y).before a0 Z = true) (w2 : (Jvm.Cond.declares y).before a0 Z = true) (hnf : NotFace (s.setVm vm0) y) (w5 : (Jvm.Cond.selects C y z).before a0 Z = true) (w6 : (Jvm.Cond.instanceMethod z).before a0 Z = true) (w4 : (Jvm.Cond.code z bytes maxL rt).before a0 Z = true) (w3 : (Jvm.Cond.initialized z.cls).before a0 Z = true)
    (hy : y.cls ≠ "java/lang/invoke/MethodHandle" ∧ y.cls ≠ "java/lang/invoke/VarHandle") {b : Addr} (E : Exa Z h b C) (hM : Con l z bytes maxL rt rm Z (.ref b :: argsL).toArray h Pc Qc) (eT : T.heap = h) (hfr : rm.frames + 1 ≤ R.frames) (hlo : W + (maxL + 11) + rm.locals ≤ R.locals) (hce : cells + rm.cells ≤ R.cells) (hsl : slots + rm.slots ≤ R.slots) (hPc : ∀ vm₁, (s.setVm vm0).WarmedH vm₁ → Pc vm₁)
    (hg : g.method = m) (hsize : g.locals.size = c.maxLocals) (hlen : ∀ sig, parseMethodDescriptor y.desc = some sig → argsL.length = sig.parameters.length) (hstack : g.stack = argsL.reverse ++ .ref b :: rest) (hW : 2 * g.monitorRoom + (rest.map fun v => v.category).sum ≤ W) (hdg : decode c.code g.pc = .ok (.invokevirtual index, 3))
    (k : ∀ v T' L, Stand p l e R (s.setVm T'.vm) m args below meth c T' (locs ++ L) (cells + rm.cells) (slots + rm.slots) → s.Since T'.vm T'.heap.size → Z.Warmed39 T'.vm → T'.vm.findClass own = some m.cls → (s.setVm vm0).Warmed39 T'.vm → Qc v T'.heap L T'.vm → Run p e below s Q kc ks (T'.setTop { g with pc := g.pc + 3, stack := v.toList ++ rest })) : Run p e below s Q kc ks (T.setTop g) := by
  obtain ⟨cB, kB, qa, qb, qc⟩ := isOf (s := s.setVm vm0) hZ eT E
  obtain ⟨v, vm₁, ⟨T', L', c', n'⟩, -, X', hS2, hg2, ⟨L, hQ, l1, l2, l3⟩, st⟩ := X.virtualBackS hx hown (mvT (s := s.setVm vm0) hZ w1) (mvT (s := s.setVm vm0) hZ w2) hnf (mvT (s := s.setVm vm0) hZ w5) (mvT (s := s.setVm vm0) hZ w6) hy (hM.back (s := s.setVm vm0) (W := W) hZ w4 w3 hfr hlo) qa qc hg hsize (Steps.refl _) hlen hstack hW hdg (fun _ q => ⟨rfl, eT, hce, hsl, hPc _ q⟩)
  dsimp only [Pt.U, Pt.locs, Pt.cells, Pt.slots] at X' l1 l2 l3 st hQ hS2 hg2
  subst l1 l2 l3
  exact Run.pre (fun _ q => st.trans q) (k v T' L X' (foldS hS hk hS2 hg2) (State.Warmed39.trans (t := s.setVm vm0) hZ hS2.1) (by rw [hS2.1.alike.findClass]; exact hown) hS2.1 hQ)
theorem Run.callU {z : MethodName} {C owner : String} (hS : s.Since vm0 k0) (hk : k0 ≤ T.heap.size) (X : Stand p l e R (s.setVm vm0) m args below meth c T locs cells slots) (hx : p.tables.exec = Jvm.exec) (hZ : Z.Warmed39 vm0) (hown : vm0.findClass own = some m.cls) (w1 : (Jvm.Cond.methodLink own index y).before a0 Z = true) (w2 : (Jvm.Cond.sameMethod y.cls owner y.name y.desc).before a0 Z = true) (w7 : (Jvm.Cond.declares ⟨owner, y.name, y.desc⟩).before a0 Z = true) (w5 : (Jvm.Cond.selects C y z).before a0 Z = true) (w6 : (Jvm.Cond.instanceMethod z).before a0 Z = true) (w4 : (Jvm.Cond.code z bytes maxL rt).before a0 Z = true) (w3 : (Jvm.Cond.initialized z.cls).before a0 Z = true)
    (hy : owner ≠ "java/lang/invoke/MethodHandle" ∧ owner ≠ "java/lang/invoke/VarHandle") {b : Addr} (E : Exa Z h b C) (hM : Con l z bytes maxL rt rm Z (.ref b :: argsL).toArray h Pc Qc) (eT : T.heap = h) (hfr : rm.frames + 1 ≤ R.frames) (hlo : W + (maxL + 11) + rm.locals ≤ R.locals) (hce : cells + rm.cells ≤ R.cells) (hsl : slots + rm.slots ≤ R.slots) (hPc : ∀ vm₁, (s.setVm vm0).WarmedH vm₁ → Pc vm₁)
    (hg : g.method = m) (hsize : g.locals.size = c.maxLocals) (hlen : ∀ sig, parseMethodDescriptor y.desc = some sig → argsL.length = sig.parameters.length) (hstack : g.stack = argsL.reverse ++ .ref b :: rest) (hW : 2 * g.monitorRoom + (rest.map fun v => v.category).sum ≤ W) (hdg : decode c.code g.pc = .ok (.invokevirtual index, 3))
    (k : ∀ v T' L, Stand p l e R (s.setVm T'.vm) m args below meth c T' (locs ++ L) (cells + rm.cells) (slots + rm.slots) → s.Since T'.vm T'.heap.size → Z.Warmed39 T'.vm → T'.vm.findClass own = some m.cls → (s.setVm vm0).Warmed39 T'.vm → Qc v T'.heap L T'.vm → Run p e below s Q kc ks (T'.setTop { g with pc := g.pc + 3, stack := v.toList ++ rest })) : Run p e below s Q kc ks (T.setTop g) := by
  obtain ⟨cB, kB, qa, qb, qc⟩ := isOf (s := s.setVm vm0) hZ eT E
  obtain ⟨v, vm₁, ⟨T', L', c', n'⟩, -, X', hS2, hg2, ⟨L, hQ, l1, l2, l3⟩, st⟩ := X.virtualBackUpS hx hown (mvT (s := s.setVm vm0) hZ w1) (mvT (s := s.setVm vm0) hZ w2) (mvT (s := s.setVm vm0) hZ w7) hy (mvT (s := s.setVm vm0) hZ w5) (mvT (s := s.setVm vm0) hZ w6) (hM.back (s := s.setVm vm0) (W := W) hZ w4 w3 hfr hlo) qa qc hg hsize (Steps.refl _) hlen hstack hW hdg (fun _ q => ⟨rfl, eT, hce, hsl, hPc _ q⟩)
  dsimp only [Pt.U, Pt.locs, Pt.cells, Pt.slots] at X' l1 l2 l3 st hQ hS2 hg2
  subst l1 l2 l3
  exact Run.pre (fun _ q => st.trans q) (k v T' L X' (foldS hS hk hS2 hg2) (State.Warmed39.trans (t := s.setVm vm0) hZ hS2.1) (by rw [hS2.1.alike.findClass]; exact hown) hS2.1 hQ)
theorem Run.callF {xi : MethodName} {C : String} {count : Nat} (hS : s.Since vm0 k0) (hk : k0 ≤ T.heap.size) (X : Stand p l e R (s.setVm vm0) m args below meth c T locs cells slots) (hx : p.tables.exec = Jvm.exec) (hZ : Z.Warmed39 vm0) (hown : vm0.findClass own = some m.cls) (w1 : (Jvm.Cond.methodLink own index xi).before a0 Z = true) (w2 : (Jvm.Cond.declares xi).before a0 Z = true) (w7 : (Jvm.Cond.interfaceMethod xi.cls xi.cls xi.name xi.desc).before args (s.setVm vm0) = true) (w5 : (Jvm.Cond.selects C xi y).before a0 Z = true) (w6 : (Jvm.Cond.instanceMethod y).before a0 Z = true) (w8 : (Jvm.Cond.publicMethod y).before a0 Z = true) (w9 : (Jvm.Cond.unhidden C xi.name xi.desc).before a0 Z = true) (w10 : (Jvm.Cond.castable C xi.cls).before a0 Z = true) (w4 : (Jvm.Cond.code y bytes maxL rt).before a0 Z = true) (w3 : (Jvm.Cond.initialized y.cls).before a0 Z = true)
    (hy : xi.cls ≠ "java/lang/invoke/MethodHandle" ∧ xi.cls ≠ "java/lang/invoke/VarHandle") {b : Addr} (E : Exa Z h b C) (hM : Con l y bytes maxL rt rm Z (.ref b :: argsL).toArray h Pc Qc) (eT : T.heap = h) (hfr : rm.frames + 1 ≤ R.frames) (hlo : W + (maxL + 11) + rm.locals ≤ R.locals) (hce : cells + rm.cells ≤ R.cells) (hsl : slots + rm.slots ≤ R.slots) (hPc : ∀ vm₁, (s.setVm vm0).WarmedH vm₁ → Pc vm₁)
    (hg : g.method = m) (hsize : g.locals.size = c.maxLocals) (hlen : ∀ sig, parseMethodDescriptor xi.desc = some sig → argsL.length = sig.parameters.length) (hstack : g.stack = argsL.reverse ++ .ref b :: rest) (hW : 2 * g.monitorRoom + (rest.map fun v => v.category).sum ≤ W) (hdg : decode c.code g.pc = .ok (.invokeinterface index count, 5))
    (k : ∀ v T' L, Stand p l e R (s.setVm T'.vm) m args below meth c T' (locs ++ L) (cells + rm.cells) (slots + rm.slots) → s.Since T'.vm T'.heap.size → Z.Warmed39 T'.vm → T'.vm.findClass own = some m.cls → (s.setVm vm0).Warmed39 T'.vm → Qc v T'.heap L T'.vm → Run p e below s Q kc ks (T'.setTop { g with pc := g.pc + 5, stack := v.toList ++ rest })) : Run p e below s Q kc ks (T.setTop g) := by
  obtain ⟨cB, kB, qa, qb, qc⟩ := isOf (s := s.setVm vm0) hZ eT E
  obtain ⟨v, vm₁, ⟨T', L', c', n'⟩, -, X', hS2, hg2, ⟨L, hQ, l1, l2, l3⟩, st⟩ := X.interfaceBackS hx hown (mvT (s := s.setVm vm0) hZ w1) (mvT (s := s.setVm vm0) hZ w2) w7 (mvT (s := s.setVm vm0) hZ w5) (mvT (s := s.setVm vm0) hZ w6) (mvT (s := s.setVm vm0) hZ w8) (mvT (s := s.setVm vm0) hZ w9) (mvT (s := s.setVm vm0) hZ w10) hy (hM.back (s := s.setVm vm0) (W := W) hZ w4 w3 hfr hlo) qa qb qc hg hsize (Steps.refl _) hlen hstack hW hdg (fun _ q => ⟨rfl, eT, hce, hsl, hPc _ q⟩)
  dsimp only [Pt.U, Pt.locs, Pt.cells, Pt.slots] at X' l1 l2 l3 st hQ hS2 hg2
  subst l1 l2 l3
  exact Run.pre (fun _ q => st.trans q) (k v T' L X' (foldS hS hk hS2 hg2) (State.Warmed39.trans (t := s.setVm vm0) hZ hS2.1) (by rw [hS2.1.alike.findClass]; exact hown) hS2.1 hQ)
end Calls
/-! from the case's words to facts on the heap -/
theorem own_fldInt {args : Array Value} {t : Term} {C n d : String} {k : Int32} {a : Addr} (ht : t.eval args Z none [] Z = some (.ref a)) (h : (Jvm.Cond.eq (Term.field t C n d) (Term.int k)).value args Z none Z [] = some true) : Fld Z Z.heap a C n d (.int k) := by
  obtain ⟨x, y, e1, e2, -, k2⟩ := cmp_v (Or.inl h)
  have e3 : y = .int k := (Option.some.inj ((Term.int_eval k).symm.trans e2)).symm
  subst e3
  obtain ⟨z, rfl⟩ := k2
  have e4 := fld_at (C := C) (n := n) (dd := d) ht
  rw [e4] at e1
  have q : z = k := by
    have hh : (Jvm.Cond.eq (Term.field t C n d) (Term.int k)).value args Z none Z [] = some (decide (z = k)) := by simp [Jvm.Cond.value, e4, e1, e2]
    exact gotT hh h
  subst q
  exact Fld.start e1
theorem own_fldLong {args : Array Value} {t : Term} {C n d : String} {k : Int64} {a : Addr} (ht : t.eval args Z none [] Z = some (.ref a)) (h : (Jvm.Cond.eq (Term.field t C n d) (Term.long k)).value args Z none Z [] = some true) : Fld Z Z.heap a C n d (.long k) := by
  obtain ⟨x, y, e1, e2, -, k2⟩ := cmp_v (Or.inl h)
  have e3 : y = .long k := (Option.some.inj (show some (Value.long k) = some y from e2)).symm
  subst e3
  obtain ⟨z, rfl⟩ := k2
  have e4 := fld_at (C := C) (n := n) (dd := d) ht
  have q : z = k := gotT (eq_L e1 e2) h
  rw [e4] at e1
  subst q
  exact Fld.start e1
theorem own_len {args : Array Value} {t : Term} {n : Int32} {a : Addr} {cl : Cell} {ty : FieldType} (ht : t.eval args Z none [] Z = some (.ref a)) (A : Arr Z Z.heap a cl ty) (h : (Jvm.Cond.eq (Term.length t) (Term.int n)).value args Z none Z [] = some true) : cl.slots.size < 2 ^ 31 ∧ cl.slots.size.toInt32 = n := by
  obtain ⟨x, y, e1, e2, -, k2⟩ := cmp_v (Or.inl h)
  have ha : Z.arrayAt? a = some cl := A.fin (Vm.Alike.refl _)
  by_cases hl : cl.slots.size < 2 ^ 31
  · refine ⟨hl, ?_⟩
    have e3 := len_f ht ha hl
    have hh : (Jvm.Cond.eq (Term.length t) (Term.int n)).value args Z none Z [] = some (decide (cl.slots.size.toInt32 = n)) := by
      have e4 : (Term.int n).eval args Z none [] Z = some (.int n) := Term.int_eval n
      simp [Jvm.Cond.value, e3, e4]
    exact gotT hh h
  · exfalso
    simp [Term.eval, ht, ha, hl] at e1
theorem own_elem {args : Array Value} {t u : Term} {j : Int32} {a w : Addr} {cl : Cell} (ht : t.eval args Z none [] Z = some (.ref a)) (hu : u.eval args Z none [] Z = some (.ref w)) (hc : Z.heap[a]? = some cl) (h : (Jvm.Cond.eq (Term.elem t (Term.int j)) u).value args Z none Z [] = some true) : cl.slots[j.toNatClampNeg]? = some (.ref w) := by
  obtain ⟨x, y, e1, e2, k1, k2⟩ := cmp_v (Or.inl h)
  cases hu.symm.trans e2
  have q := gotT (eq_R e1 e2 k2.2 rfl) h
  subst q
  exact (elem_in e1 ht (Term.int_eval j) hc).2
theorem own_fldRef {args : Array Value} {t u : Term} {C n d : String} {a w : Addr} (ht : t.eval args Z none [] Z = some (.ref a)) (hu : u.eval args Z none [] Z = some (.ref w)) (h : (Jvm.Cond.eq (Term.field t C n d) u).value args Z none Z [] = some true) : Fld Z Z.heap a C n d (.ref w) := by
  obtain ⟨x, y, e1, e2, k1, k2⟩ := cmp_v (Or.inl h)
  cases hu.symm.trans e2
  have q := gotT (eq_R e1 e2 k2.2 rfl) h
  subst q
  rw [fld_at ht] at e1
  exact Fld.start e1
theorem own_fldNull {args : Array Value} {t : Term} {C n d : String} {a : Addr} (ht : t.eval args Z none [] Z = some (.ref a)) (h : (Jvm.Cond.eq (Term.field t C n d) Term.null).value args Z none Z [] = some true) : Fld Z Z.heap a C n d .null := by
  have e1 := null_v h
  rw [fld_at ht] at e1
  exact Fld.start e1
theorem own_neArv {a b : Addr} {C : String} {k : ClassId} {ty : FieldType} {z : Int32} {vs : List Value} {d : Value} {n : Nat} (E : Exa Z h a C) (wi : (Jvm.Cond.instantiable C n).before a0 Z = true) (A : Arv Z h b k ty z vs d) : b ≠ a := by
  obtain ⟨c, A', -⟩ := A; exact (ne_arr E wi A').symm
theorem own_ibStays {vm vm' : Vm} {Ts : List String} (h : IB Z vm Ts) (q : (s.setVm vm).WarmedH vm') : IB Z vm' Ts := by
  obtain ⟨more, e, r⟩ := h; exact ⟨more, by rw [q.interned_eq]; exact e, r⟩
theorem own_ne0 {args : Array Value} {t : Term} {z : Int32} (e : t.eval args Z none [] Z = some (.int z)) (h : (Jvm.Cond.not (Jvm.Cond.eq t (Term.int 0))).value args Z none Z [] = some true) : ¬ z = 0 := by
  have h1 := not_v h
  have e0 : (Term.int 0).eval args Z none [] Z = some (.int 0) := Term.int_eval 0
  have hh : (Jvm.Cond.eq t (Term.int 0)).value args Z none Z [] = some (decide (z = 0)) := by simp [Jvm.Cond.value, e, e0]
  exact gotF hh h1
theorem own_staInt {args : Array Value} {C n d : String} {k : Int32} (h : (Jvm.Cond.eq (Term.static C n d) (Term.int k)).value args Z none Z [] = some true) (hi : (Jvm.Cond.initializedFor C n d).before args Z = true ∨ ((Jvm.Cond.initialized C).before args Z = true ∧ (Jvm.Cond.laysStatic C n d).before args Z = true)) : Sta Z Z.heap C n d (.int k) := by
  obtain ⟨x, y, e1, e2, -, k2⟩ := cmp_v (Or.inl h)
  have e3 : y = .int k := (Option.some.inj ((Term.int_eval k).symm.trans e2)).symm
  subst e3
  obtain ⟨z, rfl⟩ := k2
  have hh : (Jvm.Cond.eq (Term.static C n d) (Term.int k)).value args Z none Z [] = some (decide (z = k)) := by simp [Jvm.Cond.value, e1, e2]
  have q := gotT hh h
  subst q
  exact Sta.start e1 hi
theorem own_cat1 {v : Value} (h : v.isRef = true) : v.category = 1 := by rcases ref_cases h with rfl | ⟨_, rfl⟩ <;> rfl
theorem own_fit {s : State} (hF : heapFits s = true) : Fit s := fun {y c} hc i hi => by
  obtain ⟨ha, rfl⟩ := Array.getElem?_eq_some_iff.mp hc
  have q := List.all_eq_true.mp ((Array.all_eq_true_iff_forall_mem.mp hF) _ (Array.getElem_mem ha)) i (List.mem_range.mpr hi)
  simpa [Array.getElem?_eq_getElem hi] using q
end Own
theorem own_and3 (x : Int32) : x &&& 3 = 0 ∨ x &&& 3 = 1 ∨ x &&& 3 = 2 ∨ x &&& 3 = 3 := by
  have h : (x &&& 3).toBitVec = x.toBitVec &&& 3#32 := rfl
  have hb : (x.toBitVec &&& 3#32).toNat < 4 := by
    rw [BitVec.toNat_and]
    exact Nat.lt_of_le_of_lt Nat.and_le_right (by decide)
  have hc : ∀ n : Nat, n < 4 → (x.toBitVec &&& 3#32).toNat = n → x &&& 3 = Int32.ofBitVec (BitVec.ofNat 32 n) := fun n hn e => by
    apply Int32.toBitVec_inj.mp
    rw [h]
    apply BitVec.eq_of_toNat_eq
    rw [e]
    show n = (BitVec.ofNat 32 n).toNat
    rw [BitVec.toNat_ofNat, Nat.mod_eq_of_lt (by omega)]
  rcases Nat.lt_or_ge (x.toBitVec &&& 3#32).toNat 1 with h1 | h1
  · exact Or.inl (hc 0 (by decide) (by omega))
  · rcases Nat.lt_or_ge (x.toBitVec &&& 3#32).toNat 2 with h2 | h2
    · exact Or.inr (Or.inl (hc 1 (by decide) (by omega)))
    · rcases Nat.lt_or_ge (x.toBitVec &&& 3#32).toNat 3 with h3 | h3
      · exact Or.inr (Or.inr (Or.inl (hc 2 (by decide) (by omega))))
      · exact Or.inr (Or.inr (Or.inr (hc 3 (by decide) (by omega))))
theorem own_narc (x : Int32) : nar .char (nar .char x) = nar .char x := by simp only [nar, UInt32.toUInt32_toInt32, UInt16.toUInt16_toUInt32]
theorem own_nari (x : Int32) : nar .char (x.toUInt32.toUInt16.toUInt32.toInt32) = x.toUInt32.toUInt16.toUInt32.toInt32 := by simp only [nar, UInt32.toUInt32_toInt32, UInt16.toUInt16_toUInt32]
theorem own_w32 (x : Int32) : (x.toUInt32.toUInt16.toUInt32.toInt32).toBitVec = (x.toBitVec.setWidth 16).setWidth 32 := rfl
theorem own_and255 (y : Int32) : ¬ (255 : Int32) < (nar .char ((y &&& (255 : Int32)).toUInt32.toUInt16.toUInt32.toInt32)) := by
  have e : (nar .char ((y &&& (255 : Int32)).toUInt32.toUInt16.toUInt32.toInt32)).toBitVec = ((y.toBitVec &&& 255#32).setWidth 16).setWidth 32 := by
    rw [own_nari, own_w32]; rfl
  have hn : (nar .char ((y &&& (255 : Int32)).toUInt32.toUInt16.toUInt32.toInt32)).toBitVec.toNat < 256 := by
    rw [e]
    simp only [BitVec.toNat_setWidth]
    have : (y.toBitVec &&& 255#32).toNat ≤ 255 := by rw [BitVec.toNat_and]; exact Nat.and_le_right
    omega
  generalize nar .char ((y &&& (255 : Int32)).toUInt32.toUInt16.toUInt32.toInt32) = c at hn
  rw [Int32.lt_iff_toInt_lt]
  have hi : c.toInt = c.toBitVec.toNat := by
    show c.toBitVec.toInt = _
    rw [BitVec.toInt_eq_toNat_of_lt (by omega)]
  have h255 : (255 : Int32).toInt = 255 := rfl
  omega
theorem d29_0 : decode jdk_52_method_21_code 0 = .ok (.iconst 0, 1) := by decide +kernel
theorem d29_1 : decode jdk_52_method_21_code 1 = .ok (.istore 5, 2) := by decide +kernel
theorem d29_3 : decode jdk_52_method_21_code 3 = .ok (.iload 5, 2) := by decide +kernel
theorem d29_5 : decode jdk_52_method_21_code 5 = .ok (.iload 4, 2) := by decide +kernel
theorem d29_7 : decode jdk_52_method_21_code 7 = .ok (.if_icmp .ge 37, 3) := by decide +kernel
theorem d29_10 : decode jdk_52_method_21_code 10 = .ok (.aload_n 0, 1) := by decide +kernel
theorem d29_11 : decode jdk_52_method_21_code 11 = .ok (.iload_n 1, 1) := by decide +kernel
theorem d29_12 : decode jdk_52_method_21_code 12 = .ok (.caload, 1) := by decide +kernel
theorem d29_13 : decode jdk_52_method_21_code 13 = .ok (.istore 6, 2) := by decide +kernel
theorem d29_15 : decode jdk_52_method_21_code 15 = .ok (.iload 6, 2) := by decide +kernel
theorem d29_17 : decode jdk_52_method_21_code 17 = .ok (.sipush 255, 3) := by decide +kernel
theorem d29_20 : decode jdk_52_method_21_code 20 = .ok (.if_icmp .le 6, 3) := by decide +kernel
theorem d29_26 : decode jdk_52_method_21_code 26 = .ok (.aload_n 2, 1) := by decide +kernel
theorem d29_27 : decode jdk_52_method_21_code 27 = .ok (.iload_n 3, 1) := by decide +kernel
theorem d29_28 : decode jdk_52_method_21_code 28 = .ok (.iload 6, 2) := by decide +kernel
theorem d29_30 : decode jdk_52_method_21_code 30 = .ok (.i2b, 1) := by decide +kernel
theorem d29_31 : decode jdk_52_method_21_code 31 = .ok (.bastore, 1) := by decide +kernel
theorem d29_32 : decode jdk_52_method_21_code 32 = .ok (.iinc 1 1, 3) := by decide +kernel
theorem d29_35 : decode jdk_52_method_21_code 35 = .ok (.iinc 3 1, 3) := by decide +kernel
theorem d29_38 : decode jdk_52_method_21_code 38 = .ok (.iinc 5 1, 3) := by decide +kernel
theorem d29_41 : decode jdk_52_method_21_code 41 = .ok (.goto (-38), 3) := by decide +kernel
theorem d29_44 : decode jdk_52_method_21_code 44 = .ok (.iload 4, 2) := by decide +kernel
theorem d29_46 : decode jdk_52_method_21_code 46 = .ok (.ireturn, 1) := by decide +kernel
theorem pn_29 : plainName "java/lang/StringUTF16" = true := by first | (simp [plainName, overriddenIn]; done) | decide +kernel
set_option maxRecDepth 65536 in
set_option maxHeartbeats 40000000 in
theorem rmC2_1 (l : Launch) (Z : State) (a0 : Array Value) (hw : ∀ d ∈ tables_1, d.before a0 Z = true) (I0 : Array (Array UInt16 × Addr)) (ar : Addr) (ds : Addr) (kc : ClassId) (kb : ClassId) (c0 : Int32) (h0 : Heap) (n0 : Nat) (Z0 : n0 ≤ h0.size) (AC : Arv Z h0 ar kc .char 1 [(.int c0)] (.int 0)) (AB : Arv Z h0 ds kb .byte 1 [(.int (0 : Int32))] (.int 0)) (nad : ar ≠ ds) (g_ds : n0 ≤ ds) (q0 : ¬ (255 : Int32) < c0) :
    Con l (⟨"java/lang/StringUTF16", "compress", "([CI[BII)I"⟩ : MethodName) jdk_52_method_21_code 7 (some .int) ({ frames := 0, cells := 0, slots := 0, locals := 0 } : Room) Z #[(.ref ar), (.int (0 : Int32)), (.ref ds), (.int (0 : Int32)), (.int (1 : Int32))] h0 (fun vm => vm.interned = I0) (fun v h L vm => v = some (.int 1) ∧ Fr n0 L ∧ Keep h0 h [ds] ∧ Arv Z h ds kb .byte 1 [(.int (nar .byte (c0.toInt8.toInt32)))] (.int 0) ∧ vm.interned = I0) := by
  refine Con.mk (plainFor_of_name pn_29) (fun m => show entryFrame m #[(.ref ar), (.int (0 : Int32)), (.ref ds), (.int (0 : Int32)), (.int (1 : Int32))] 7 = mkF m 0 #[.val (.ref ar), .val (.int (0 : Int32)), .val (.ref ds), .val (.int (0 : Int32)), .val (.int (1 : Int32)), .unset, .unset] [] by first | (simp [entryFrame, mkF, argsToLocals, Value.category]; done) | rfl) ?_
  intro p e s m below meth c s₁ vm0 hx hby hml hown hnm hret hlk hZ X0 e0 hS hs0 hP0
  have N0 := Fr.nil n0
  have hI : vm0.interned = I0 := hP0
  show Run p e below s _ _ _ (s₁.setTop (mkF m 0 #[.val (.ref ar), .val (.int (0 : Int32)), .val (.ref ds), .val (.int (0 : Int32)), .val (.int (1 : Int32)), .unset, .unset] []))
  refine Run.pre (fun _ k => XS.iconst X0.here hx rfl (hb hby d29_0) k) ?_
  show Run p e below s _ _ _ (s₁.setTop (mkF m 1 #[.val (.ref ar), .val (.int (0 : Int32)), .val (.ref ds), .val (.int (0 : Int32)), .val (.int (1 : Int32)), .unset, .unset] [(.int (0 : Int32))]))
  refine Run.pre (fun _ k => XS.istore X0.here hx rfl (hb hby d29_1) rfl (l' := #[.val (.ref ar), .val (.int (0 : Int32)), .val (.ref ds), .val (.int (0 : Int32)), .val (.int (1 : Int32)), .val (.int (0 : Int32)), .unset]) rfl k) ?_
  show Run p e below s _ _ _ (s₁.setTop (mkF m 3 #[.val (.ref ar), .val (.int (0 : Int32)), .val (.ref ds), .val (.int (0 : Int32)), .val (.int (1 : Int32)), .val (.int (0 : Int32)), .unset] []))
  refine Run.pre (fun _ k => XS.iload X0.here hx rfl (hb hby d29_3) rfl  k) ?_
  show Run p e below s _ _ _ (s₁.setTop (mkF m 5 #[.val (.ref ar), .val (.int (0 : Int32)), .val (.ref ds), .val (.int (0 : Int32)), .val (.int (1 : Int32)), .val (.int (0 : Int32)), .unset] [(.int (0 : Int32))]))
  refine Run.pre (fun _ k => XS.iload X0.here hx rfl (hb hby d29_5) rfl  k) ?_
  show Run p e below s _ _ _ (s₁.setTop (mkF m 7 #[.val (.ref ar), .val (.int (0 : Int32)), .val (.ref ds), .val (.int (0 : Int32)), .val (.int (1 : Int32)), .val (.int (0 : Int32)), .unset] [(.int (1 : Int32)), (.int (0 : Int32))]))
  refine Run.pre (fun _ k => XS.icmpNo X0.here hx rfl (hb hby d29_7) rfl (tlt ((by decide) : (0 : Int32) < (1 : Int32))).2.1 k) ?_
  show Run p e below s _ _ _ (s₁.setTop (mkF m 10 #[.val (.ref ar), .val (.int (0 : Int32)), .val (.ref ds), .val (.int (0 : Int32)), .val (.int (1 : Int32)), .val (.int (0 : Int32)), .unset] []))
  refine Run.pre (fun _ k => XS.aloadN X0.here hx rfl (hb hby d29_10) rfl rfl k) ?_
  show Run p e below s _ _ _ (s₁.setTop (mkF m 11 #[.val (.ref ar), .val (.int (0 : Int32)), .val (.ref ds), .val (.int (0 : Int32)), .val (.int (1 : Int32)), .val (.int (0 : Int32)), .unset] [(.ref ar)]))
  refine Run.pre (fun _ k => XS.iloadN X0.here hx rfl (hb hby d29_11) rfl  k) ?_
  show Run p e below s _ _ _ (s₁.setTop (mkF m 12 #[.val (.ref ar), .val (.int (0 : Int32)), .val (.ref ds), .val (.int (0 : Int32)), .val (.int (1 : Int32)), .val (.int (0 : Int32)), .unset] [(.int (0 : Int32)), (.ref ar)]))
  obtain ⟨c1, Ar1, -, S1, N1, H1, -⟩ := id AC
  have hin1 : ¬ ((0 : Int32) < 0 ∨ c1.slots.size ≤ ((0 : Int32)).toNatClampNeg) := inb_of S1 ⟨by decide, by decide⟩
  refine Run.pre (X0.caload hx (j := (0 : Int32)) (v := (.int c0)) (by rw [e0]; exact Ar1.1) (State.isArrayOf_alike hZ.alike Ar1.2.1) Ar1.2.2 hin1 (H1.at hin1 rfl) (g := (mkF m 12 #[.val (.ref ar), .val (.int (0 : Int32)), .val (.ref ds), .val (.int (0 : Int32)), .val (.int (1 : Int32)), .val (.int (0 : Int32)), .unset] [(.int (0 : Int32)), (.ref ar)])) rfl rfl (hb hby d29_12)) ?_
  show Run p e below s _ _ _ (s₁.setTop (mkF m 13 #[.val (.ref ar), .val (.int (0 : Int32)), .val (.ref ds), .val (.int (0 : Int32)), .val (.int (1 : Int32)), .val (.int (0 : Int32)), .unset] [(.int c0)]))
  refine Run.pre (fun _ k => XS.istore X0.here hx rfl (hb hby d29_13) rfl (l' := #[.val (.ref ar), .val (.int (0 : Int32)), .val (.ref ds), .val (.int (0 : Int32)), .val (.int (1 : Int32)), .val (.int (0 : Int32)), .val (.int c0)]) rfl k) ?_
  show Run p e below s _ _ _ (s₁.setTop (mkF m 15 #[.val (.ref ar), .val (.int (0 : Int32)), .val (.ref ds), .val (.int (0 : Int32)), .val (.int (1 : Int32)), .val (.int (0 : Int32)), .val (.int c0)] []))
  refine Run.pre (fun _ k => XS.iload X0.here hx rfl (hb hby d29_15) rfl  k) ?_
  show Run p e below s _ _ _ (s₁.setTop (mkF m 17 #[.val (.ref ar), .val (.int (0 : Int32)), .val (.ref ds), .val (.int (0 : Int32)), .val (.int (1 : Int32)), .val (.int (0 : Int32)), .val (.int c0)] [(.int c0)]))
  refine Run.pre (fun _ k => XS.sipush X0.here hx rfl (hb hby d29_17) k) ?_
  show Run p e below s _ _ _ (s₁.setTop (mkF m 20 #[.val (.ref ar), .val (.int (0 : Int32)), .val (.ref ds), .val (.int (0 : Int32)), .val (.int (1 : Int32)), .val (.int (0 : Int32)), .val (.int c0)] [(.int (255 : Int32)), (.int c0)]))
  refine Run.pre (fun _ k => XS.icmpYes X0.here hx rfl (pc0 := 20) (pc' := 26) rfl (hb hby d29_20) rfl (flt (q0 : ¬ ((255 : Int32) < c0))).2.2.2 (by decide) (by decide) k) ?_
  show Run p e below s _ _ _ (s₁.setTop (mkF m 26 #[.val (.ref ar), .val (.int (0 : Int32)), .val (.ref ds), .val (.int (0 : Int32)), .val (.int (1 : Int32)), .val (.int (0 : Int32)), .val (.int c0)] []))
  refine Run.pre (fun _ k => XS.aloadN X0.here hx rfl (hb hby d29_26) rfl rfl k) ?_
  show Run p e below s _ _ _ (s₁.setTop (mkF m 27 #[.val (.ref ar), .val (.int (0 : Int32)), .val (.ref ds), .val (.int (0 : Int32)), .val (.int (1 : Int32)), .val (.int (0 : Int32)), .val (.int c0)] [(.ref ds)]))
  refine Run.pre (fun _ k => XS.iloadN X0.here hx rfl (hb hby d29_27) rfl  k) ?_
  show Run p e below s _ _ _ (s₁.setTop (mkF m 28 #[.val (.ref ar), .val (.int (0 : Int32)), .val (.ref ds), .val (.int (0 : Int32)), .val (.int (1 : Int32)), .val (.int (0 : Int32)), .val (.int c0)] [(.int (0 : Int32)), (.ref ds)]))
  refine Run.pre (fun _ k => XS.iload X0.here hx rfl (hb hby d29_28) rfl  k) ?_
  show Run p e below s _ _ _ (s₁.setTop (mkF m 30 #[.val (.ref ar), .val (.int (0 : Int32)), .val (.ref ds), .val (.int (0 : Int32)), .val (.int (1 : Int32)), .val (.int (0 : Int32)), .val (.int c0)] [(.int c0), (.int (0 : Int32)), (.ref ds)]))
  refine Run.pre (fun _ k => XS.i2b X0.here hx rfl (hb hby d29_30) rfl k) ?_
  show Run p e below s _ _ _ (s₁.setTop (mkF m 31 #[.val (.ref ar), .val (.int (0 : Int32)), .val (.ref ds), .val (.int (0 : Int32)), .val (.int (1 : Int32)), .val (.int (0 : Int32)), .val (.int c0)] [(.int (c0.toInt8.toInt32)), (.int (0 : Int32)), (.ref ds)]))
  obtain ⟨c2, Ar2, q2, S2, N2, H2, G2⟩ := id AB
  have hin2 : ¬ ((0 : Int32) < 0 ∨ c2.slots.size ≤ ((0 : Int32)).toNatClampNeg) := inb_of S2 ⟨by decide, by decide⟩
  obtain ⟨T3, h3, X3, e3, W3, st3⟩ := stB X0 hx hZ e0 Ar2 (j := (0 : Int32)) hin2 (g := (mkF m 31 #[.val (.ref ar), .val (.int (0 : Int32)), .val (.ref ds), .val (.int (0 : Int32)), .val (.int (1 : Int32)), .val (.int (0 : Int32)), .val (.int c0)] [(.int (c0.toInt8.toInt32)), (.int (0 : Int32)), (.ref ds)])) rfl rfl (hb hby d29_31)
  refine Run.pre st3 ?_
  have V_ds_3 : Arv Z h3 ds kb .byte (1 : Int32) [(.int (nar .byte (c0.toInt8.toInt32)))] (.int (0 : Int32)) := Arv.set Ar2 q2 S2 N2 H2 G2 (fits_nar_byte _) W3 0 rfl (Nat.le_of_ble_eq_true rfl)
  have K3 : Keep h0 h3 [ds] := (Keep.refl h0 [ds]).wr W3 (Or.inl (by simp))
  have N3 := Fr.snoc X3 N0 g_ds
  show Run p e below s _ _ _ (T3.setTop (mkF m 32 #[.val (.ref ar), .val (.int (0 : Int32)), .val (.ref ds), .val (.int (0 : Int32)), .val (.int (1 : Int32)), .val (.int (0 : Int32)), .val (.int c0)] []))
  refine Run.pre (fun _ k => XS.iinc X3.here hx rfl (hb hby d29_32) rfl (l' := #[.val (.ref ar), .val (.int (1 : Int32)), .val (.ref ds), .val (.int (0 : Int32)), .val (.int (1 : Int32)), .val (.int (0 : Int32)), .val (.int c0)]) rfl k) ?_
  show Run p e below s _ _ _ (T3.setTop (mkF m 35 #[.val (.ref ar), .val (.int (1 : Int32)), .val (.ref ds), .val (.int (0 : Int32)), .val (.int (1 : Int32)), .val (.int (0 : Int32)), .val (.int c0)] []))
  refine Run.pre (fun _ k => XS.iinc X3.here hx rfl (hb hby d29_35) rfl (l' := #[.val (.ref ar), .val (.int (1 : Int32)), .val (.ref ds), .val (.int (1 : Int32)), .val (.int (1 : Int32)), .val (.int (0 : Int32)), .val (.int c0)]) rfl k) ?_
  show Run p e below s _ _ _ (T3.setTop (mkF m 38 #[.val (.ref ar), .val (.int (1 : Int32)), .val (.ref ds), .val (.int (1 : Int32)), .val (.int (1 : Int32)), .val (.int (0 : Int32)), .val (.int c0)] []))
  refine Run.pre (fun _ k => XS.iinc X3.here hx rfl (hb hby d29_38) rfl (l' := #[.val (.ref ar), .val (.int (1 : Int32)), .val (.ref ds), .val (.int (1 : Int32)), .val (.int (1 : Int32)), .val (.int (1 : Int32)), .val (.int c0)]) rfl k) ?_
  show Run p e below s _ _ _ (T3.setTop (mkF m 41 #[.val (.ref ar), .val (.int (1 : Int32)), .val (.ref ds), .val (.int (1 : Int32)), .val (.int (1 : Int32)), .val (.int (1 : Int32)), .val (.int c0)] []))
  refine Run.pre (fun _ k => XS.goto X3.here hx rfl (pc0 := 41) (pc' := 3) rfl (hb hby d29_41) (by decide) (by decide) k) ?_
  show Run p e below s _ _ _ (T3.setTop (mkF m 3 #[.val (.ref ar), .val (.int (1 : Int32)), .val (.ref ds), .val (.int (1 : Int32)), .val (.int (1 : Int32)), .val (.int (1 : Int32)), .val (.int c0)] []))
  refine Run.pre (fun _ k => XS.iload X3.here hx rfl (hb hby d29_3) rfl  k) ?_
  show Run p e below s _ _ _ (T3.setTop (mkF m 5 #[.val (.ref ar), .val (.int (1 : Int32)), .val (.ref ds), .val (.int (1 : Int32)), .val (.int (1 : Int32)), .val (.int (1 : Int32)), .val (.int c0)] [(.int (1 : Int32))]))
  refine Run.pre (fun _ k => XS.iload X3.here hx rfl (hb hby d29_5) rfl  k) ?_
  show Run p e below s _ _ _ (T3.setTop (mkF m 7 #[.val (.ref ar), .val (.int (1 : Int32)), .val (.ref ds), .val (.int (1 : Int32)), .val (.int (1 : Int32)), .val (.int (1 : Int32)), .val (.int c0)] [(.int (1 : Int32)), (.int (1 : Int32))]))
  refine Run.pre (fun _ k => XS.icmpYes X3.here hx rfl (pc0 := 7) (pc' := 44) rfl (hb hby d29_7) rfl (flt ((by decide) : ¬ ((1 : Int32) < (1 : Int32)))).2.1 (by decide) (by decide) k) ?_
  show Run p e below s _ _ _ (T3.setTop (mkF m 44 #[.val (.ref ar), .val (.int (1 : Int32)), .val (.ref ds), .val (.int (1 : Int32)), .val (.int (1 : Int32)), .val (.int (1 : Int32)), .val (.int c0)] []))
  refine Run.pre (fun _ k => XS.iload X3.here hx rfl (hb hby d29_44) rfl  k) ?_
  show Run p e below s _ _ _ (T3.setTop (mkF m 46 #[.val (.ref ar), .val (.int (1 : Int32)), .val (.ref ds), .val (.int (1 : Int32)), .val (.int (1 : Int32)), .val (.int (1 : Int32)), .val (.int c0)] [(.int (1 : Int32))]))
  exact Run.retI hS (by first | exact Nat.le_refl _ | (rw [e3]; exact (Nat.le_trans (Nat.zero_le _) (Keep.of_wr W3).1))) X3 hx hret hlk (hb hby d29_46) (by first | (rw [e3]; exact ⟨rfl, N3, K3, V_ds_3, X3.warmed.interned_eq.trans hI⟩) | exact ⟨rfl, N3, K3, V_ds_3, X3.warmed.interned_eq.trans hI⟩) (by decide) (by decide)
theorem d28_0 : decode jdk_52_method_16_code 0 = .ok (.iload_n 2, 1) := by decide +kernel
theorem d28_1 : decode jdk_52_method_16_code 1 = .ok (.newarray .byte, 2) := by decide +kernel
theorem d28_3 : decode jdk_52_method_16_code 3 = .ok (.astore_n 3, 1) := by decide +kernel
theorem d28_4 : decode jdk_52_method_16_code 4 = .ok (.aload_n 0, 1) := by decide +kernel
theorem d28_5 : decode jdk_52_method_16_code 5 = .ok (.iload_n 1, 1) := by decide +kernel
theorem d28_6 : decode jdk_52_method_16_code 6 = .ok (.aload_n 3, 1) := by decide +kernel
theorem d28_7 : decode jdk_52_method_16_code 7 = .ok (.iconst 0, 1) := by decide +kernel
theorem d28_8 : decode jdk_52_method_16_code 8 = .ok (.iload_n 2, 1) := by decide +kernel
theorem pd_0 : parseMethodDescriptor "([CI[BII)I" = some ⟨[(.array .char), .int, (.array .byte), .int, .int], some .int⟩ := by decide +kernel
theorem d28_9 : decode jdk_52_method_16_code 9 = .ok (.invokestatic 115, 3) := by decide +kernel
theorem d28_12 : decode jdk_52_method_16_code 12 = .ok (.istore 4, 2) := by decide +kernel
theorem d28_14 : decode jdk_52_method_16_code 14 = .ok (.iload 4, 2) := by decide +kernel
theorem d28_16 : decode jdk_52_method_16_code 16 = .ok (.iload_n 2, 1) := by decide +kernel
theorem d28_17 : decode jdk_52_method_16_code 17 = .ok (.if_icmp .eq 40, 3) := by decide +kernel
theorem d28_57 : decode jdk_52_method_16_code 57 = .ok (.aload_n 3, 1) := by decide +kernel
theorem d28_58 : decode jdk_52_method_16_code 58 = .ok (.areturn, 1) := by decide +kernel
theorem pn_28 : plainName "java/lang/StringUTF16" = true := by first | (simp [plainName, overriddenIn]; done) | decide +kernel
set_option maxRecDepth 65536 in
set_option maxHeartbeats 40000000 in
theorem rmC1_1 (l : Launch) (Z : State) (a0 : Array Value) (hw : ∀ d ∈ tables_1, d.before a0 Z = true) (I0 : Array (Array UInt16 × Addr)) (ar : Addr) (kc : ClassId) (c0 : Int32) (h0 : Heap) (n0 : Nat) (Z0 : n0 ≤ h0.size) (AC : Arv Z h0 ar kc .char 1 [(.int c0)] (.int 0)) (q0 : ¬ (255 : Int32) < c0) :
    Con l (⟨"java/lang/StringUTF16", "compress", "([CII)[B"⟩ : MethodName) jdk_52_method_16_code 6 (some (.array .byte)) ({ frames := 1, cells := 1, slots := 1, locals := 18 } : Room) Z #[(.ref ar), (.int (0 : Int32)), (.int (1 : Int32))] h0 (fun vm => vm.interned = I0) (fun v h L vm => ∃ b : Addr, ∃ k : ClassId, v = some (.ref b) ∧ Fr n0 L ∧ Keep h0 h [] ∧ h0.size ≤ b ∧ Arv Z h b k .byte 1 [(.int (nar .byte (c0.toInt8.toInt32)))] (.int 0) ∧ vm.interned = I0) := by
  refine Con.mk (plainFor_of_name pn_28) (fun m => show entryFrame m #[(.ref ar), (.int (0 : Int32)), (.int (1 : Int32))] 6 = mkF m 0 #[.val (.ref ar), .val (.int (0 : Int32)), .val (.int (1 : Int32)), .unset, .unset, .unset] [] by first | (simp [entryFrame, mkF, argsToLocals, Value.category]; done) | rfl) ?_
  intro p e s m below meth c s₁ vm0 hx hby hml hown hnm hret hlk hZ X0 e0 hS hs0 hP0
  have N0 := Fr.nil n0
  have hI : vm0.interned = I0 := hP0
  show Run p e below s _ _ _ (s₁.setTop (mkF m 0 #[.val (.ref ar), .val (.int (0 : Int32)), .val (.int (1 : Int32)), .unset, .unset, .unset] []))
  refine Run.pre (fun _ k => XS.iloadN X0.here hx rfl (hb hby d28_0) rfl  k) ?_
  show Run p e below s _ _ _ (s₁.setTop (mkF m 1 #[.val (.ref ar), .val (.int (0 : Int32)), .val (.int (1 : Int32)), .unset, .unset, .unset] [(.int (1 : Int32))]))
  obtain ⟨T4, h4, k4, X4, e4, E4, A4, st4⟩ := newP X0 hx hZ (hw _ (List.mem_of_getElem? (i := 19) rfl)) e0 (g := (mkF m 1 #[.val (.ref ar), .val (.int (0 : Int32)), .val (.int (1 : Int32)), .unset, .unset, .unset] [(.int (1 : Int32))])) rfl (hb hby d28_1) rfl (by decide) (cap := 1) (by decide) (by decide) (by decide) (by decide)
  obtain ⟨b4, g4⟩ : ∃ z, z = h0.size := ⟨_, rfl⟩
  rw [← g4] at A4 st4
  refine Run.pre st4 ?_
  have V_b4 : Arv Z h4 b4 k4 .byte (1 : Int32) [(.int (0 : Int32))] (.int (0 : Int32)) := (Arv.new A4 (by decide)).pad (pad_rep [] (.int (0 : Int32)) 1)
  have gn_b4 : n0 ≤ b4 := Nat.le_trans (Nat.le_trans Z0 (Keep.refl h0 []).1) (Nat.le_of_eq g4.symm)
  have sz_b4 : h0.size ≤ b4 := Nat.le_trans (Keep.refl h0 []).1 (Nat.le_of_eq g4.symm)
  have K4 : Keep h0 h4 [] := (Keep.refl h0 []).ext E4
  show Run p e below s _ _ _ (T4.setTop (mkF m 3 #[.val (.ref ar), .val (.int (0 : Int32)), .val (.int (1 : Int32)), .unset, .unset, .unset] [(.ref b4)]))
  refine Run.pre (fun _ k => XS.astoreN X4.here hx rfl (hb hby d28_3) rfl rfl (l' := #[.val (.ref ar), .val (.int (0 : Int32)), .val (.int (1 : Int32)), .val (.ref b4), .unset, .unset]) rfl k) ?_
  show Run p e below s _ _ _ (T4.setTop (mkF m 4 #[.val (.ref ar), .val (.int (0 : Int32)), .val (.int (1 : Int32)), .val (.ref b4), .unset, .unset] []))
  refine Run.pre (fun _ k => XS.aloadN X4.here hx rfl (hb hby d28_4) rfl rfl k) ?_
  show Run p e below s _ _ _ (T4.setTop (mkF m 5 #[.val (.ref ar), .val (.int (0 : Int32)), .val (.int (1 : Int32)), .val (.ref b4), .unset, .unset] [(.ref ar)]))
  refine Run.pre (fun _ k => XS.iloadN X4.here hx rfl (hb hby d28_5) rfl  k) ?_
  show Run p e below s _ _ _ (T4.setTop (mkF m 6 #[.val (.ref ar), .val (.int (0 : Int32)), .val (.int (1 : Int32)), .val (.ref b4), .unset, .unset] [(.int (0 : Int32)), (.ref ar)]))
  refine Run.pre (fun _ k => XS.aloadN X4.here hx rfl (hb hby d28_6) rfl rfl k) ?_
  show Run p e below s _ _ _ (T4.setTop (mkF m 7 #[.val (.ref ar), .val (.int (0 : Int32)), .val (.int (1 : Int32)), .val (.ref b4), .unset, .unset] [(.ref b4), (.int (0 : Int32)), (.ref ar)]))
  refine Run.pre (fun _ k => XS.iconst X4.here hx rfl (hb hby d28_7) k) ?_
  show Run p e below s _ _ _ (T4.setTop (mkF m 8 #[.val (.ref ar), .val (.int (0 : Int32)), .val (.int (1 : Int32)), .val (.ref b4), .unset, .unset] [(.int (0 : Int32)), (.ref b4), (.int (0 : Int32)), (.ref ar)]))
  refine Run.pre (fun _ k => XS.iloadN X4.here hx rfl (hb hby d28_8) rfl  k) ?_
  show Run p e below s _ _ _ (T4.setTop (mkF m 9 #[.val (.ref ar), .val (.int (0 : Int32)), .val (.int (1 : Int32)), .val (.ref b4), .unset, .unset] [(.int (1 : Int32)), (.int (0 : Int32)), (.ref b4), (.int (0 : Int32)), (.ref ar)]))
  have f5 := (AC.ext E4)
  refine Run.callS hS (by first | exact Nat.le_refl _ | (rw [e4]; exact (Nat.le_trans (Nat.zero_le _) E4.1))) X4 hx hZ (y := (⟨"java/lang/StringUTF16", "compress", "([CI[BII)I"⟩ : MethodName)) hown (hw _ (List.mem_of_getElem? (i := 176) rfl)) (hw _ (List.mem_of_getElem? (i := 177) rfl)) (hw _ (List.mem_of_getElem? (i := 174) rfl)) (hw _ (List.mem_of_getElem? (i := 178) rfl)) (by decide) (W := 0) (rmC2_1 l Z a0 hw _ ar b4 kc k4 c0 h4 n0 (Nat.le_trans Z0 K4.1) f5 V_b4 (Nat.ne_of_lt (Nat.lt_of_lt_of_le AC.lt (Nat.le_of_eq g4.symm))) gn_b4 q0) e4 (by decide) (by decide) (by decide) (by decide) (fun _ q => q.interned_eq) (g := (mkF m 9 #[.val (.ref ar), .val (.int (0 : Int32)), .val (.int (1 : Int32)), .val (.ref b4), .unset, .unset] [(.int (1 : Int32)), (.int (0 : Int32)), (.ref b4), (.int (0 : Int32)), (.ref ar)])) rfl (by rw [hml]; rfl) (argsL := [(.ref ar), (.int (0 : Int32)), (.ref b4), (.int (0 : Int32)), (.int (1 : Int32))]) (rest := []) (lenOf pd_0 rfl) rfl (by show 2 * 0 + _ ≤ _; exact Nat.le_of_eq rfl) (hb hby d28_9) ?_
  intro v6 T6 L6 X6 hS hZ hown hV6 hQ6
  obtain ⟨rfl, Nq6, Kc6, vb6, hI6⟩ := hQ6
  have N6 := Fr.app N0 Nq6
  have hI := hI6.trans hI
  have K6 : Keep h0 T6.heap [] := K4.trans Kc6 (allS (Or.inr sz_b4) all0)
  show Run p e below s _ _ _ (T6.setTop (mkF m 12 #[.val (.ref ar), .val (.int (0 : Int32)), .val (.int (1 : Int32)), .val (.ref b4), .unset, .unset] [(.int (1 : Int32))]))
  refine Run.pre (fun _ k => XS.istore X6.here hx rfl (hb hby d28_12) rfl (l' := #[.val (.ref ar), .val (.int (0 : Int32)), .val (.int (1 : Int32)), .val (.ref b4), .val (.int (1 : Int32)), .unset]) rfl k) ?_
  show Run p e below s _ _ _ (T6.setTop (mkF m 14 #[.val (.ref ar), .val (.int (0 : Int32)), .val (.int (1 : Int32)), .val (.ref b4), .val (.int (1 : Int32)), .unset] []))
  refine Run.pre (fun _ k => XS.iload X6.here hx rfl (hb hby d28_14) rfl  k) ?_
  show Run p e below s _ _ _ (T6.setTop (mkF m 16 #[.val (.ref ar), .val (.int (0 : Int32)), .val (.int (1 : Int32)), .val (.ref b4), .val (.int (1 : Int32)), .unset] [(.int (1 : Int32))]))
  refine Run.pre (fun _ k => XS.iloadN X6.here hx rfl (hb hby d28_16) rfl  k) ?_
  show Run p e below s _ _ _ (T6.setTop (mkF m 17 #[.val (.ref ar), .val (.int (0 : Int32)), .val (.int (1 : Int32)), .val (.ref b4), .val (.int (1 : Int32)), .unset] [(.int (1 : Int32)), (.int (1 : Int32))]))
  refine Run.pre (fun _ k => XS.icmpYes X6.here hx rfl (pc0 := 17) (pc' := 57) rfl (hb hby d28_17) rfl (teq ((by decide) : (1 : Int32) = (1 : Int32))).1 (by decide) (by decide) k) ?_
  show Run p e below s _ _ _ (T6.setTop (mkF m 57 #[.val (.ref ar), .val (.int (0 : Int32)), .val (.int (1 : Int32)), .val (.ref b4), .val (.int (1 : Int32)), .unset] []))
  refine Run.pre (fun _ k => XS.aloadN X6.here hx rfl (hb hby d28_57) rfl rfl k) ?_
  show Run p e below s _ _ _ (T6.setTop (mkF m 58 #[.val (.ref ar), .val (.int (0 : Int32)), .val (.int (1 : Int32)), .val (.ref b4), .val (.int (1 : Int32)), .unset] [(.ref b4)]))
  exact Run.retA hS (Nat.le_refl _) X6 hx hret rfl rfl hlk (hb hby d28_58) ⟨b4, k4, rfl, N6, K6, sz_b4, vb6, X6.warmed.interned_eq.trans hI⟩ (by decide) (by decide)
theorem d30_0 : decode jdk_52_method_15_code 0 = .ok (.iload_n 1, 1) := by decide +kernel
theorem d30_1 : decode jdk_52_method_15_code 1 = .ok (.aload_n 0, 1) := by decide +kernel
theorem d30_2 : decode jdk_52_method_15_code 2 = .ok (.arraylength, 1) := by decide +kernel
theorem d30_3 : decode jdk_52_method_15_code 3 = .ok (.isub, 1) := by decide +kernel
theorem d30_4 : decode jdk_52_method_15_code 4 = .ok (.bipush 31, 2) := by decide +kernel
theorem d30_6 : decode jdk_52_method_15_code 6 = .ok (.iushr, 1) := by decide +kernel
theorem d30_7 : decode jdk_52_method_15_code 7 = .ok (.i2b, 1) := by decide +kernel
theorem d30_8 : decode jdk_52_method_15_code 8 = .ok (.ireturn, 1) := by decide +kernel
theorem pn_30 : plainName "java/lang/StringUTF16" = true := by first | (simp [plainName, overriddenIn]; done) | decide +kernel
set_option maxRecDepth 65536 in
set_option maxHeartbeats 40000000 in
theorem rmCo_1 (l : Launch) (Z : State) (a0 : Array Value) (hw : ∀ d ∈ tables_1, d.before a0 Z = true) (I0 : Array (Array UInt16 × Addr)) (b : Addr) (kb : ClassId) (c0 : Int32) (h0 : Heap) (n0 : Nat) (Z0 : n0 ≤ h0.size) (AB : Arv Z h0 b kb .byte 1 [(.int (nar .byte (c0.toInt8.toInt32)))] (.int 0)) :
    Con l (⟨"java/lang/StringUTF16", "coderFromArrayLen", "([BI)B"⟩ : MethodName) jdk_52_method_15_code 2 (some .byte) ({ frames := 0, cells := 0, slots := 0, locals := 0 } : Room) Z #[(.ref b), (.int (1 : Int32))] h0 (fun vm => vm.interned = I0) (fun v h L vm => v = some (.int 0) ∧ Fr n0 L ∧ h = h0 ∧ vm.interned = I0) := by
  refine Con.mk (plainFor_of_name pn_30) (fun m => show entryFrame m #[(.ref b), (.int (1 : Int32))] 2 = mkF m 0 #[.val (.ref b), .val (.int (1 : Int32))] [] by first | (simp [entryFrame, mkF, argsToLocals, Value.category]; done) | rfl) ?_
  intro p e s m below meth c s₁ vm0 hx hby hml hown hnm hret hlk hZ X0 e0 hS hs0 hP0
  have N0 := Fr.nil n0
  have hI : vm0.interned = I0 := hP0
  show Run p e below s _ _ _ (s₁.setTop (mkF m 0 #[.val (.ref b), .val (.int (1 : Int32))] []))
  refine Run.pre (fun _ k => XS.iloadN X0.here hx rfl (hb hby d30_0) rfl  k) ?_
  show Run p e below s _ _ _ (s₁.setTop (mkF m 1 #[.val (.ref b), .val (.int (1 : Int32))] [(.int (1 : Int32))]))
  refine Run.pre (fun _ k => XS.aloadN X0.here hx rfl (hb hby d30_1) rfl rfl k) ?_
  show Run p e below s _ _ _ (s₁.setTop (mkF m 2 #[.val (.ref b), .val (.int (1 : Int32))] [(.ref b), (.int (1 : Int32))]))
  obtain ⟨c7, Ar7, -, S7, N7, -, -⟩ := id AB
  refine Run.pre (X0.arraylength hx (by rw [e0]; exact Ar7.1) (State.isArrayOf_alike hZ.alike Ar7.2.1) (g := (mkF m 2 #[.val (.ref b), .val (.int (1 : Int32))] [(.ref b), (.int (1 : Int32))])) rfl rfl (hb hby d30_2)) ?_
  rw [len_of S7 N7]
  show Run p e below s _ _ _ (s₁.setTop (mkF m 3 #[.val (.ref b), .val (.int (1 : Int32))] [(.int (1 : Int32)), (.int (1 : Int32))]))
  refine Run.pre (fun _ k => XS.isub X0.here hx rfl (hb hby d30_3) rfl k) ?_
  show Run p e below s _ _ _ (s₁.setTop (mkF m 4 #[.val (.ref b), .val (.int (1 : Int32))] [(.int (0 : Int32))]))
  refine Run.pre (fun _ k => XS.bipush X0.here hx rfl (hb hby d30_4) k) ?_
  show Run p e below s _ _ _ (s₁.setTop (mkF m 6 #[.val (.ref b), .val (.int (1 : Int32))] [(.int (31 : Int32)), (.int (0 : Int32))]))
  refine Run.pre (fun _ k => XS.iushr X0.here hx rfl (hb hby d30_6) rfl k) ?_
  show Run p e below s _ _ _ (s₁.setTop (mkF m 7 #[.val (.ref b), .val (.int (1 : Int32))] [(.int (0 : Int32))]))
  refine Run.pre (fun _ k => XS.i2b X0.here hx rfl (hb hby d30_7) rfl k) ?_
  show Run p e below s _ _ _ (s₁.setTop (mkF m 8 #[.val (.ref b), .val (.int (1 : Int32))] [(.int ((0 : Int32).toInt8.toInt32))]))
  exact Run.retN hS (by first | exact Nat.le_refl _ | (rw [e0]; exact (Nat.zero_le _))) X0 hx hret (t := .byte) (by simp) hlk (hb hby d30_8) (by first | (rw [e0]; exact ⟨by decide, N0, rfl, X0.warmed.interned_eq.trans hI⟩) | exact ⟨by decide, N0, rfl, X0.warmed.interned_eq.trans hI⟩) (by decide) (by decide)
theorem d3_0 : decode jdk_42_method_149_code 0 = .ok (.aload_n 0, 1) := by decide +kernel
theorem d3_1 : decode jdk_42_method_149_code 1 = .ok (.invokespecial 1, 3) := by decide +kernel
theorem d3_4 : decode jdk_42_method_149_code 4 = .ok (.iload_n 3, 1) := by decide +kernel
theorem d3_5 : decode jdk_42_method_149_code 5 = .ok (.ifCond .ne 22, 3) := by decide +kernel
theorem d3_27 : decode jdk_42_method_149_code 27 = .ok (.getstatic 38, 3) := by decide +kernel
theorem d3_30 : decode jdk_42_method_149_code 30 = .ok (.ifCond .eq 28, 3) := by decide +kernel
theorem d3_33 : decode jdk_42_method_149_code 33 = .ok (.aload_n 1, 1) := by decide +kernel
theorem d3_34 : decode jdk_42_method_149_code 34 = .ok (.iload_n 2, 1) := by decide +kernel
theorem d3_35 : decode jdk_42_method_149_code 35 = .ok (.iload_n 3, 1) := by decide +kernel
theorem pd_1 : parseMethodDescriptor "([CII)[B" = some ⟨[(.array .char), .int, .int], some (.array .byte)⟩ := by decide +kernel
theorem d3_36 : decode jdk_42_method_149_code 36 = .ok (.invokestatic 177, 3) := by decide +kernel
theorem d3_39 : decode jdk_42_method_149_code 39 = .ok (.astore 5, 2) := by decide +kernel
theorem d3_41 : decode jdk_42_method_149_code 41 = .ok (.aload_n 0, 1) := by decide +kernel
theorem d3_42 : decode jdk_42_method_149_code 42 = .ok (.aload 5, 2) := by decide +kernel
theorem d3_44 : decode jdk_42_method_149_code 44 = .ok (.iload_n 3, 1) := by decide +kernel
theorem pd_2 : parseMethodDescriptor "([BI)B" = some ⟨[(.array .byte), .int], some .byte⟩ := by decide +kernel
theorem d3_45 : decode jdk_42_method_149_code 45 = .ok (.invokestatic 47, 3) := by decide +kernel
theorem d3_48 : decode jdk_42_method_149_code 48 = .ok (.putfield 15, 3) := by decide +kernel
theorem d3_51 : decode jdk_42_method_149_code 51 = .ok (.aload_n 0, 1) := by decide +kernel
theorem d3_52 : decode jdk_42_method_149_code 52 = .ok (.aload 5, 2) := by decide +kernel
theorem d3_54 : decode jdk_42_method_149_code 54 = .ok (.putfield 9, 3) := by decide +kernel
theorem d3_57 : decode jdk_42_method_149_code 57 = .ok (.return_, 1) := by decide +kernel
theorem pn_3 : plainName "java/lang/String" = true := by first | (simp [plainName, overriddenIn]; done) | decide +kernel
set_option maxRecDepth 65536 in
set_option maxHeartbeats 40000000 in
theorem rmI4_1 (l : Launch) (Z : State) (a0 : Array Value) (hw : ∀ d ∈ tables_1, d.before a0 Z = true) (I0 : Array (Array UInt16 × Addr)) (a : Addr) (ar : Addr) (kc : ClassId) (c0 : Int32) (cs : Int32) (h0 : Heap) (n0 : Nat) (Z0 : n0 ≤ h0.size) (OL : Old Z n0 h0) (SC : Sta Z Z.heap "java/lang/String" "COMPACT_STRINGS" "Z" (.int cs)) (hcs : ¬ cs = 0) (AC : Arv Z h0 ar kc .char 1 [(.int c0)] (.int 0)) (E_a : Exa Z h0 a "java/lang/String") (FV : Fld Z h0 a "java/lang/String" "value" "[B" .null) (FCo : Fld Z h0 a "java/lang/String" "coder" "B" (.int 0)) (g_a : n0 ≤ a) (nar_ : ar ≠ a) (q0 : ¬ (255 : Int32) < c0) :
    Con l (⟨"java/lang/String", "<init>", "([CIILjava/lang/Void;)V"⟩ : MethodName) jdk_42_method_149_code 6 none ({ frames := 2, cells := 1, slots := 1, locals := 35 } : Room) Z #[(.ref a), (.ref ar), (.int (0 : Int32)), (.int (1 : Int32)), .null] h0 (fun vm => vm.interned = I0) (fun v h L vm => ∃ b : Addr, ∃ k : ClassId, v = none ∧ Fr n0 L ∧ Keep h0 h [a] ∧ h0.size ≤ b ∧ Fld Z h a "java/lang/String" "coder" "B" (.int 0) ∧ Fld Z h a "java/lang/String" "value" "[B" (.ref b) ∧ Arv Z h b k .byte 1 [(.int (nar .byte (c0.toInt8.toInt32)))] (.int 0) ∧ vm.interned = I0) := by
  refine Con.mk (plainFor_of_name pn_3) (fun m => show entryFrame m #[(.ref a), (.ref ar), (.int (0 : Int32)), (.int (1 : Int32)), .null] 6 = mkF m 0 #[.val (.ref a), .val (.ref ar), .val (.int (0 : Int32)), .val (.int (1 : Int32)), .val .null, .unset] [] by first | (simp [entryFrame, mkF, argsToLocals, Value.category]; done) | rfl) ?_
  intro p e s m below meth c s₁ vm0 hx hby hml hown hnm hret hlk hZ X0 e0 hS hs0 hP0
  have N0 := Fr.nil n0
  have hI : vm0.interned = I0 := hP0
  show Run p e below s _ _ _ (s₁.setTop (mkF m 0 #[.val (.ref a), .val (.ref ar), .val (.int (0 : Int32)), .val (.int (1 : Int32)), .val .null, .unset] []))
  refine Run.pre (fun _ k => XS.aloadN X0.here hx rfl (hb hby d3_0) rfl rfl k) ?_
  show Run p e below s _ _ _ (s₁.setTop (mkF m 1 #[.val (.ref a), .val (.ref ar), .val (.int (0 : Int32)), .val (.int (1 : Int32)), .val .null, .unset] [(.ref a)]))
  obtain ⟨T8, X8, e8, st8⟩ := initO X0 hx hZ hown (hw _ (List.mem_of_getElem? (i := 15) rfl)) (hw _ (List.mem_of_getElem? (i := 16) rfl)) (hw _ (List.mem_of_getElem? (i := 17) rfl)) e0 (g := (mkF m 1 #[.val (.ref a), .val (.ref ar), .val (.int (0 : Int32)), .val (.int (1 : Int32)), .val .null, .unset] [(.ref a)])) rfl (by rw [hml]; rfl) rfl (hb hby d3_1) (by decide) (W := 0) (by show 2 * 0 + _ ≤ _; exact Nat.le_of_eq rfl) (by decide)
  refine Run.pre st8 ?_
  show Run p e below s _ _ _ (T8.setTop (mkF m 4 #[.val (.ref a), .val (.ref ar), .val (.int (0 : Int32)), .val (.int (1 : Int32)), .val .null, .unset] []))
  refine Run.pre (fun _ k => XS.iloadN X8.here hx rfl (hb hby d3_4) rfl  k) ?_
  show Run p e below s _ _ _ (T8.setTop (mkF m 5 #[.val (.ref a), .val (.ref ar), .val (.int (0 : Int32)), .val (.int (1 : Int32)), .val .null, .unset] [(.int (1 : Int32))]))
  refine Run.pre (fun _ k => XS.ifYes X8.here hx rfl (pc0 := 5) (pc' := 27) rfl (hb hby d3_5) rfl ((if0 _ _).trans (feq ((by decide) : ¬ ((1 : Int32) = (0 : Int32)))).2) (by decide) (by decide) k) ?_
  show Run p e below s _ _ _ (T8.setTop (mkF m 27 #[.val (.ref a), .val (.ref ar), .val (.int (0 : Int32)), .val (.int (1 : Int32)), .val .null, .unset] []))
  obtain ⟨T9, X9, e9, st9⟩ := getS2 X8 hx hZ hown (host := "") (Or.inl (hw _ (List.mem_of_getElem? (i := 171) rfl))) Via.refl e8 (SC.ext OL.2) (g := (mkF m 27 #[.val (.ref a), .val (.ref ar), .val (.int (0 : Int32)), .val (.int (1 : Int32)), .val .null, .unset] [])) rfl (hb hby d3_27)
  refine Run.pre st9 ?_
  show Run p e below s _ _ _ (T9.setTop (mkF m 30 #[.val (.ref a), .val (.ref ar), .val (.int (0 : Int32)), .val (.int (1 : Int32)), .val .null, .unset] [(.int cs)]))
  refine Run.pre (fun _ k => XS.ifNo X9.here hx rfl (hb hby d3_30) rfl ((if0 _ _).trans (feq (hcs : ¬ (cs = (0 : Int32)))).1) k) ?_
  show Run p e below s _ _ _ (T9.setTop (mkF m 33 #[.val (.ref a), .val (.ref ar), .val (.int (0 : Int32)), .val (.int (1 : Int32)), .val .null, .unset] []))
  refine Run.pre (fun _ k => XS.aloadN X9.here hx rfl (hb hby d3_33) rfl rfl k) ?_
  show Run p e below s _ _ _ (T9.setTop (mkF m 34 #[.val (.ref a), .val (.ref ar), .val (.int (0 : Int32)), .val (.int (1 : Int32)), .val .null, .unset] [(.ref ar)]))
  refine Run.pre (fun _ k => XS.iloadN X9.here hx rfl (hb hby d3_34) rfl  k) ?_
  show Run p e below s _ _ _ (T9.setTop (mkF m 35 #[.val (.ref a), .val (.ref ar), .val (.int (0 : Int32)), .val (.int (1 : Int32)), .val .null, .unset] [(.int (0 : Int32)), (.ref ar)]))
  refine Run.pre (fun _ k => XS.iloadN X9.here hx rfl (hb hby d3_35) rfl  k) ?_
  show Run p e below s _ _ _ (T9.setTop (mkF m 36 #[.val (.ref a), .val (.ref ar), .val (.int (0 : Int32)), .val (.int (1 : Int32)), .val .null, .unset] [(.int (1 : Int32)), (.int (0 : Int32)), (.ref ar)]))
  refine Run.callS hS (by first | exact Nat.le_refl _ | (rw [e9]; exact (Nat.zero_le _))) X9 hx hZ (y := (⟨"java/lang/StringUTF16", "compress", "([CII)[B"⟩ : MethodName)) hown (hw _ (List.mem_of_getElem? (i := 172) rfl)) (hw _ (List.mem_of_getElem? (i := 173) rfl)) (hw _ (List.mem_of_getElem? (i := 174) rfl)) (hw _ (List.mem_of_getElem? (i := 175) rfl)) (by decide) (W := 0) (rmC1_1 l Z a0 hw _ ar kc c0 h0 n0 (Nat.le_trans Z0 (Keep.refl h0 [a]).1) AC q0) e9 (by decide) (by decide) (by decide) (by decide) (fun _ q => q.interned_eq) (g := (mkF m 36 #[.val (.ref a), .val (.ref ar), .val (.int (0 : Int32)), .val (.int (1 : Int32)), .val .null, .unset] [(.int (1 : Int32)), (.int (0 : Int32)), (.ref ar)])) rfl (by rw [hml]; rfl) (argsL := [(.ref ar), (.int (0 : Int32)), (.int (1 : Int32))]) (rest := []) (lenOf pd_1 rfl) rfl (by show 2 * 0 + _ ≤ _; exact Nat.le_of_eq rfl) (hb hby d3_36) ?_
  intro v10 T10 L10 X10 hS hZ hown hV10 hQ10
  obtain ⟨b10, k10, rfl, Nq10, Kc10, sz10, vb10, hI10⟩ := hQ10
  have N10 := Fr.app N0 Nq10
  have hI := hI10.trans hI
  have K10 : Keep h0 T10.heap [a] := (Keep.refl h0 [a]).trans Kc10 all0
  have sz_b10 : h0.size ≤ b10 := Nat.le_trans (Keep.refl h0 [a]).1 sz10
  have gn_b10 : n0 ≤ b10 := Nat.le_trans Z0 sz_b10
  show Run p e below s _ _ _ (T10.setTop (mkF m 39 #[.val (.ref a), .val (.ref ar), .val (.int (0 : Int32)), .val (.int (1 : Int32)), .val .null, .unset] [(.ref b10)]))
  refine Run.pre (fun _ k => XS.astore X10.here hx rfl (hb hby d3_39) rfl rfl (l' := #[.val (.ref a), .val (.ref ar), .val (.int (0 : Int32)), .val (.int (1 : Int32)), .val .null, .val (.ref b10)]) rfl k) ?_
  show Run p e below s _ _ _ (T10.setTop (mkF m 41 #[.val (.ref a), .val (.ref ar), .val (.int (0 : Int32)), .val (.int (1 : Int32)), .val .null, .val (.ref b10)] []))
  refine Run.pre (fun _ k => XS.aloadN X10.here hx rfl (hb hby d3_41) rfl rfl k) ?_
  show Run p e below s _ _ _ (T10.setTop (mkF m 42 #[.val (.ref a), .val (.ref ar), .val (.int (0 : Int32)), .val (.int (1 : Int32)), .val .null, .val (.ref b10)] [(.ref a)]))
  refine Run.pre (fun _ k => XS.aload X10.here hx rfl (hb hby d3_42) rfl rfl k) ?_
  show Run p e below s _ _ _ (T10.setTop (mkF m 44 #[.val (.ref a), .val (.ref ar), .val (.int (0 : Int32)), .val (.int (1 : Int32)), .val .null, .val (.ref b10)] [(.ref b10), (.ref a)]))
  refine Run.pre (fun _ k => XS.iloadN X10.here hx rfl (hb hby d3_44) rfl  k) ?_
  show Run p e below s _ _ _ (T10.setTop (mkF m 45 #[.val (.ref a), .val (.ref ar), .val (.int (0 : Int32)), .val (.int (1 : Int32)), .val .null, .val (.ref b10)] [(.int (1 : Int32)), (.ref b10), (.ref a)]))
  refine Run.callS hS (Nat.le_refl _) X10 hx hZ (y := (⟨"java/lang/StringUTF16", "coderFromArrayLen", "([BI)B"⟩ : MethodName)) hown (hw _ (List.mem_of_getElem? (i := 179) rfl)) (hw _ (List.mem_of_getElem? (i := 180) rfl)) (hw _ (List.mem_of_getElem? (i := 174) rfl)) (hw _ (List.mem_of_getElem? (i := 181) rfl)) (by decide) (W := 1) (rmCo_1 l Z a0 hw _ b10 k10 c0 T10.heap n0 (Nat.le_trans Z0 K10.1) vb10) rfl (by decide) (by decide) (by decide) (by decide) (fun _ q => q.interned_eq) (g := (mkF m 45 #[.val (.ref a), .val (.ref ar), .val (.int (0 : Int32)), .val (.int (1 : Int32)), .val .null, .val (.ref b10)] [(.int (1 : Int32)), (.ref b10), (.ref a)])) rfl (by rw [hml]; rfl) (argsL := [(.ref b10), (.int (1 : Int32))]) (rest := [(.ref a)]) (lenOf pd_2 rfl) rfl (by show 2 * 0 + _ ≤ _; exact Nat.le_of_eq rfl) (hb hby d3_45) ?_
  intro v11 T11 L11 X11 hS hZ hown hV11 hQ11
  obtain ⟨rfl, Nq11, he11, hI11⟩ := hQ11
  have N11 := Fr.app N10 Nq11
  have hI := hI11.trans hI
  have e11 : T11.heap = T10.heap := he11
  show Run p e below s _ _ _ (T11.setTop (mkF m 48 #[.val (.ref a), .val (.ref ar), .val (.int (0 : Int32)), .val (.int (1 : Int32)), .val .null, .val (.ref b10)] [(.int (0 : Int32)), (.ref a)]))
  have f12 := (E_a.keep Kc10)
  have f13 := (FCo.keep Kc10 nin0)
  obtain ⟨T14, h14, X14, e14, W14, st14⟩ := putFN X11 hx hZ hown (hw _ (List.mem_of_getElem? (i := 25) rfl)) Via.refl e11 f13 f12 (Or.inr ⟨(hw _ (List.mem_of_getElem? (i := 21) rfl)), rfl, hnm⟩) (hw _ (List.mem_of_getElem? (i := 5) rfl)) (ty := .byte) (v' := (.int (nar .byte (0 : Int32)))) (by decide) rfl (fits_nar_byte _) (g := (mkF m 48 #[.val (.ref a), .val (.ref ar), .val (.int (0 : Int32)), .val (.int (1 : Int32)), .val .null, .val (.ref b10)] [(.int (0 : Int32)), (.ref a)])) rfl rfl (hb hby d3_48)
  refine Run.pre st14 ?_
  have Fw14 := f13.same W14
  have K14 : Keep h0 h14 [a] := K10.wr W14 (Or.inl (by simp))
  have N14 := Fr.snoc X14 N11 g_a
  show Run p e below s _ _ _ (T14.setTop (mkF m 51 #[.val (.ref a), .val (.ref ar), .val (.int (0 : Int32)), .val (.int (1 : Int32)), .val .null, .val (.ref b10)] []))
  refine Run.pre (fun _ k => XS.aloadN X14.here hx rfl (hb hby d3_51) rfl rfl k) ?_
  show Run p e below s _ _ _ (T14.setTop (mkF m 52 #[.val (.ref a), .val (.ref ar), .val (.int (0 : Int32)), .val (.int (1 : Int32)), .val .null, .val (.ref b10)] [(.ref a)]))
  refine Run.pre (fun _ k => XS.aload X14.here hx rfl (hb hby d3_52) rfl rfl k) ?_
  show Run p e below s _ _ _ (T14.setTop (mkF m 54 #[.val (.ref a), .val (.ref ar), .val (.int (0 : Int32)), .val (.int (1 : Int32)), .val .null, .val (.ref b10)] [(.ref b10), (.ref a)]))
  have f15 := (f12.wr W14)
  have f16 := ((FV.keep Kc10 nin0).other W14 (Or.inr (slot_ne (Or.inr (hw _ (List.mem_of_getElem? (i := 20) rfl))) (Or.inr (hw _ (List.mem_of_getElem? (i := 21) rfl))) (by decide) (t := (.array .byte)) (t' := .byte) (by decide) (by decide))))
  obtain ⟨T17, h17, X17, e17, W17, st17⟩ := putF X14 hx hZ hown (host := "") (Or.inl (hw _ (List.mem_of_getElem? (i := 24) rfl))) Via.refl e14 f16 f15 (Or.inr ⟨(hw _ (List.mem_of_getElem? (i := 20) rfl)), rfl, hnm⟩) (hw _ (List.mem_of_getElem? (i := 5) rfl)) (ty := (.array .byte)) (by decide) rfl rfl (g := (mkF m 54 #[.val (.ref a), .val (.ref ar), .val (.int (0 : Int32)), .val (.int (1 : Int32)), .val .null, .val (.ref b10)] [(.ref b10), (.ref a)])) rfl rfl (hb hby d3_54)
  refine Run.pre st17 ?_
  have Fw17 := f16.same W17
  have K17 : Keep h0 h17 [a] := K14.wr W17 (Or.inl (by simp))
  have N17 := Fr.snoc X17 N14 g_a
  show Run p e below s _ _ _ (T17.setTop (mkF m 57 #[.val (.ref a), .val (.ref ar), .val (.int (0 : Int32)), .val (.int (1 : Int32)), .val .null, .val (.ref b10)] []))
  have f18 := (Fw14.other W17 (Or.inr (slot_ne (Or.inr (hw _ (List.mem_of_getElem? (i := 21) rfl))) (Or.inr (hw _ (List.mem_of_getElem? (i := 20) rfl))) (by decide) (t := .byte) (t' := (.array .byte)) (by decide) (by decide))))
  have f19 := ((vb10.other W14 (Ne.symm (Nat.ne_of_lt (Nat.lt_of_lt_of_le E_a.lt sz10)))).other W17 (Ne.symm (Nat.ne_of_lt (Nat.lt_of_lt_of_le E_a.lt sz10))))
  exact Run.retV hS (by first | exact Nat.le_refl _ | (rw [e17]; exact (Nat.le_trans (Nat.le_trans (Nat.le_of_eq (congrArg Array.size e11)) (Keep.of_wr W14).1) (Keep.of_wr W17).1))) X17 hx hret hlk (hb hby d3_57) (by first | (rw [e17]; exact ⟨b10, k10, rfl, N17, K17, sz_b10, f18, Fw17, f19, X17.warmed.interned_eq.trans hI⟩) | exact ⟨b10, k10, rfl, N17, K17, sz_b10, f18, Fw17, f19, X17.warmed.interned_eq.trans hI⟩) (by decide) (by decide)
theorem d2_0 : decode jdk_42_method_3_code 0 = .ok (.aload_n 0, 1) := by decide +kernel
theorem d2_1 : decode jdk_42_method_3_code 1 = .ok (.aload_n 1, 1) := by decide +kernel
theorem d2_2 : decode jdk_42_method_3_code 2 = .ok (.iconst 0, 1) := by decide +kernel
theorem d2_3 : decode jdk_42_method_3_code 3 = .ok (.aload_n 1, 1) := by decide +kernel
theorem d2_4 : decode jdk_42_method_3_code 4 = .ok (.arraylength, 1) := by decide +kernel
theorem d2_5 : decode jdk_42_method_3_code 5 = .ok (.aconst_null, 1) := by decide +kernel
theorem pd_3 : parseMethodDescriptor "([CIILjava/lang/Void;)V" = some ⟨[(.array .char), .int, .int, (.object "java/lang/Void")], none⟩ := by decide +kernel
theorem d2_6 : decode jdk_42_method_3_code 6 = .ok (.invokespecial 27, 3) := by decide +kernel
theorem d2_9 : decode jdk_42_method_3_code 9 = .ok (.return_, 1) := by decide +kernel
theorem pn_2 : plainName "java/lang/String" = true := by first | (simp [plainName, overriddenIn]; done) | decide +kernel
set_option maxRecDepth 65536 in
set_option maxHeartbeats 40000000 in
theorem rmI_1 (l : Launch) (Z : State) (a0 : Array Value) (hw : ∀ d ∈ tables_1, d.before a0 Z = true) (I0 : Array (Array UInt16 × Addr)) (a : Addr) (ar : Addr) (kc : ClassId) (c0 : Int32) (cs : Int32) (h0 : Heap) (n0 : Nat) (Z0 : n0 ≤ h0.size) (OL : Old Z n0 h0) (SC : Sta Z Z.heap "java/lang/String" "COMPACT_STRINGS" "Z" (.int cs)) (hcs : ¬ cs = 0) (AC : Arv Z h0 ar kc .char 1 [(.int c0)] (.int 0)) (E_a : Exa Z h0 a "java/lang/String") (FV : Fld Z h0 a "java/lang/String" "value" "[B" .null) (FCo : Fld Z h0 a "java/lang/String" "coder" "B" (.int 0)) (g_a : n0 ≤ a) (nar_ : ar ≠ a) (q0 : ¬ (255 : Int32) < c0) :
    Con l (⟨"java/lang/String", "<init>", "([C)V"⟩ : MethodName) jdk_42_method_3_code 2 none ({ frames := 3, cells := 1, slots := 1, locals := 52 } : Room) Z #[(.ref a), (.ref ar)] h0 (fun vm => vm.interned = I0) (fun v h L vm => ∃ b : Addr, ∃ k : ClassId, v = none ∧ Fr n0 L ∧ Keep h0 h [a] ∧ h0.size ≤ b ∧ Fld Z h a "java/lang/String" "coder" "B" (.int 0) ∧ Fld Z h a "java/lang/String" "value" "[B" (.ref b) ∧ Arv Z h b k .byte 1 [(.int (nar .byte (c0.toInt8.toInt32)))] (.int 0) ∧ vm.interned = I0) := by
  refine Con.mk (plainFor_of_name pn_2) (fun m => show entryFrame m #[(.ref a), (.ref ar)] 2 = mkF m 0 #[.val (.ref a), .val (.ref ar)] [] by first | (simp [entryFrame, mkF, argsToLocals, Value.category]; done) | rfl) ?_
  intro p e s m below meth c s₁ vm0 hx hby hml hown hnm hret hlk hZ X0 e0 hS hs0 hP0
  have N0 := Fr.nil n0
  have hI : vm0.interned = I0 := hP0
  show Run p e below s _ _ _ (s₁.setTop (mkF m 0 #[.val (.ref a), .val (.ref ar)] []))
  refine Run.pre (fun _ k => XS.aloadN X0.here hx rfl (hb hby d2_0) rfl rfl k) ?_
  show Run p e below s _ _ _ (s₁.setTop (mkF m 1 #[.val (.ref a), .val (.ref ar)] [(.ref a)]))
  refine Run.pre (fun _ k => XS.aloadN X0.here hx rfl (hb hby d2_1) rfl rfl k) ?_
  show Run p e below s _ _ _ (s₁.setTop (mkF m 2 #[.val (.ref a), .val (.ref ar)] [(.ref ar), (.ref a)]))
  refine Run.pre (fun _ k => XS.iconst X0.here hx rfl (hb hby d2_2) k) ?_
  show Run p e below s _ _ _ (s₁.setTop (mkF m 3 #[.val (.ref a), .val (.ref ar)] [(.int (0 : Int32)), (.ref ar), (.ref a)]))
  refine Run.pre (fun _ k => XS.aloadN X0.here hx rfl (hb hby d2_3) rfl rfl k) ?_
  show Run p e below s _ _ _ (s₁.setTop (mkF m 4 #[.val (.ref a), .val (.ref ar)] [(.ref ar), (.int (0 : Int32)), (.ref ar), (.ref a)]))
  obtain ⟨c20, Ar20, -, S20, N20, -, -⟩ := id AC
  refine Run.pre (X0.arraylength hx (by rw [e0]; exact Ar20.1) (State.isArrayOf_alike hZ.alike Ar20.2.1) (g := (mkF m 4 #[.val (.ref a), .val (.ref ar)] [(.ref ar), (.int (0 : Int32)), (.ref ar), (.ref a)])) rfl rfl (hb hby d2_4)) ?_
  rw [len_of S20 N20]
  show Run p e below s _ _ _ (s₁.setTop (mkF m 5 #[.val (.ref a), .val (.ref ar)] [(.int (1 : Int32)), (.int (0 : Int32)), (.ref ar), (.ref a)]))
  refine Run.pre (fun _ k => XS.aconstNull X0.here hx rfl (hb hby d2_5) k) ?_
  show Run p e below s _ _ _ (s₁.setTop (mkF m 6 #[.val (.ref a), .val (.ref ar)] [.null, (.int (1 : Int32)), (.int (0 : Int32)), (.ref ar), (.ref a)]))
  refine Run.callI hS (by first | exact Nat.le_refl _ | (rw [e0]; exact (Nat.zero_le _))) X0 hx hZ (y := (⟨"java/lang/String", "<init>", "([CIILjava/lang/Void;)V"⟩ : MethodName)) rfl hown (hw _ (List.mem_of_getElem? (i := 11) rfl)) (hw _ (List.mem_of_getElem? (i := 12) rfl)) (hw _ (List.mem_of_getElem? (i := 14) rfl)) (hw _ (List.mem_of_getElem? (i := 6) rfl)) (by decide) (a := a) (W := 0) (rmI4_1 l Z a0 hw _ a ar kc c0 cs h0 n0 (Nat.le_trans Z0 (Keep.refl h0 [a]).1) OL SC hcs AC E_a FV FCo g_a nar_ q0) e0 (by decide) (by decide) (by decide) (by decide) (fun _ q => q.interned_eq) (g := (mkF m 6 #[.val (.ref a), .val (.ref ar)] [.null, (.int (1 : Int32)), (.int (0 : Int32)), (.ref ar), (.ref a)])) rfl (by rw [hml]; rfl) (argsL := [(.ref ar), (.int (0 : Int32)), (.int (1 : Int32)), .null]) (rest := []) (lenOf pd_3 rfl) rfl (by show 2 * 0 + _ ≤ _; exact Nat.le_of_eq rfl) (hb hby d2_6) ?_
  intro v21 T21 L21 X21 hS hZ hown hV21 hQ21
  obtain ⟨b21, k21, rfl, Nq21, Kc21, sz21, fc21, fv21, vb21, hI21⟩ := hQ21
  have N21 := Fr.app N0 Nq21
  have hI := hI21.trans hI
  have K21 : Keep h0 T21.heap [a] := (Keep.refl h0 [a]).trans Kc21 (allS (Or.inl (by simp)) all0)
  have sz_b21 : h0.size ≤ b21 := Nat.le_trans (Keep.refl h0 [a]).1 sz21
  have gn_b21 : n0 ≤ b21 := Nat.le_trans Z0 sz_b21
  show Run p e below s _ _ _ (T21.setTop (mkF m 9 #[.val (.ref a), .val (.ref ar)] []))
  exact Run.retV hS (Nat.le_refl _) X21 hx hret hlk (hb hby d2_9) ⟨b21, k21, rfl, N21, K21, sz_b21, fc21, fv21, vb21, X21.warmed.interned_eq.trans hI⟩ (by decide) (by decide)
set_option maxRecDepth 65536 in
set_option maxHeartbeats 40000000 in
theorem rmC2_2 (l : Launch) (Z : State) (a0 : Array Value) (hw : ∀ d ∈ tables_1, d.before a0 Z = true) (I0 : Array (Array UInt16 × Addr)) (ar : Addr) (ds : Addr) (kc : ClassId) (kb : ClassId) (c0 : Int32) (c1 : Int32) (h0 : Heap) (n0 : Nat) (Z0 : n0 ≤ h0.size) (AC : Arv Z h0 ar kc .char 2 [(.int c0), (.int c1)] (.int 0)) (AB : Arv Z h0 ds kb .byte 2 [(.int (0 : Int32)), (.int (0 : Int32))] (.int 0)) (nad : ar ≠ ds) (g_ds : n0 ≤ ds) (q0 : ¬ (255 : Int32) < c0) (q1 : ¬ (255 : Int32) < c1) :
    Con l (⟨"java/lang/StringUTF16", "compress", "([CI[BII)I"⟩ : MethodName) jdk_52_method_21_code 7 (some .int) ({ frames := 0, cells := 0, slots := 0, locals := 0 } : Room) Z #[(.ref ar), (.int (0 : Int32)), (.ref ds), (.int (0 : Int32)), (.int (2 : Int32))] h0 (fun vm => vm.interned = I0) (fun v h L vm => v = some (.int 2) ∧ Fr n0 L ∧ Keep h0 h [ds] ∧ Arv Z h ds kb .byte 2 [(.int (nar .byte (c0.toInt8.toInt32))), (.int (nar .byte (c1.toInt8.toInt32)))] (.int 0) ∧ vm.interned = I0) := by
  refine Con.mk (plainFor_of_name pn_29) (fun m => show entryFrame m #[(.ref ar), (.int (0 : Int32)), (.ref ds), (.int (0 : Int32)), (.int (2 : Int32))] 7 = mkF m 0 #[.val (.ref ar), .val (.int (0 : Int32)), .val (.ref ds), .val (.int (0 : Int32)), .val (.int (2 : Int32)), .unset, .unset] [] by first | (simp [entryFrame, mkF, argsToLocals, Value.category]; done) | rfl) ?_
  intro p e s m below meth c s₁ vm0 hx hby hml hown hnm hret hlk hZ X0 e0 hS hs0 hP0
  have N0 := Fr.nil n0
  have hI : vm0.interned = I0 := hP0
  show Run p e below s _ _ _ (s₁.setTop (mkF m 0 #[.val (.ref ar), .val (.int (0 : Int32)), .val (.ref ds), .val (.int (0 : Int32)), .val (.int (2 : Int32)), .unset, .unset] []))
  refine Run.pre (fun _ k => XS.iconst X0.here hx rfl (hb hby d29_0) k) ?_
  show Run p e below s _ _ _ (s₁.setTop (mkF m 1 #[.val (.ref ar), .val (.int (0 : Int32)), .val (.ref ds), .val (.int (0 : Int32)), .val (.int (2 : Int32)), .unset, .unset] [(.int (0 : Int32))]))
  refine Run.pre (fun _ k => XS.istore X0.here hx rfl (hb hby d29_1) rfl (l' := #[.val (.ref ar), .val (.int (0 : Int32)), .val (.ref ds), .val (.int (0 : Int32)), .val (.int (2 : Int32)), .val (.int (0 : Int32)), .unset]) rfl k) ?_
  show Run p e below s _ _ _ (s₁.setTop (mkF m 3 #[.val (.ref ar), .val (.int (0 : Int32)), .val (.ref ds), .val (.int (0 : Int32)), .val (.int (2 : Int32)), .val (.int (0 : Int32)), .unset] []))
  refine Run.pre (fun _ k => XS.iload X0.here hx rfl (hb hby d29_3) rfl  k) ?_
  show Run p e below s _ _ _ (s₁.setTop (mkF m 5 #[.val (.ref ar), .val (.int (0 : Int32)), .val (.ref ds), .val (.int (0 : Int32)), .val (.int (2 : Int32)), .val (.int (0 : Int32)), .unset] [(.int (0 : Int32))]))
  refine Run.pre (fun _ k => XS.iload X0.here hx rfl (hb hby d29_5) rfl  k) ?_
  show Run p e below s _ _ _ (s₁.setTop (mkF m 7 #[.val (.ref ar), .val (.int (0 : Int32)), .val (.ref ds), .val (.int (0 : Int32)), .val (.int (2 : Int32)), .val (.int (0 : Int32)), .unset] [(.int (2 : Int32)), (.int (0 : Int32))]))
  refine Run.pre (fun _ k => XS.icmpNo X0.here hx rfl (hb hby d29_7) rfl (tlt ((by decide) : (0 : Int32) < (2 : Int32))).2.1 k) ?_
  show Run p e below s _ _ _ (s₁.setTop (mkF m 10 #[.val (.ref ar), .val (.int (0 : Int32)), .val (.ref ds), .val (.int (0 : Int32)), .val (.int (2 : Int32)), .val (.int (0 : Int32)), .unset] []))
  refine Run.pre (fun _ k => XS.aloadN X0.here hx rfl (hb hby d29_10) rfl rfl k) ?_
  show Run p e below s _ _ _ (s₁.setTop (mkF m 11 #[.val (.ref ar), .val (.int (0 : Int32)), .val (.ref ds), .val (.int (0 : Int32)), .val (.int (2 : Int32)), .val (.int (0 : Int32)), .unset] [(.ref ar)]))
  refine Run.pre (fun _ k => XS.iloadN X0.here hx rfl (hb hby d29_11) rfl  k) ?_
  show Run p e below s _ _ _ (s₁.setTop (mkF m 12 #[.val (.ref ar), .val (.int (0 : Int32)), .val (.ref ds), .val (.int (0 : Int32)), .val (.int (2 : Int32)), .val (.int (0 : Int32)), .unset] [(.int (0 : Int32)), (.ref ar)]))
  obtain ⟨c22, Ar22, -, S22, N22, H22, -⟩ := id AC
  have hin22 : ¬ ((0 : Int32) < 0 ∨ c22.slots.size ≤ ((0 : Int32)).toNatClampNeg) := inb_of S22 ⟨by decide, by decide⟩
  refine Run.pre (X0.caload hx (j := (0 : Int32)) (v := (.int c0)) (by rw [e0]; exact Ar22.1) (State.isArrayOf_alike hZ.alike Ar22.2.1) Ar22.2.2 hin22 (H22.at hin22 rfl) (g := (mkF m 12 #[.val (.ref ar), .val (.int (0 : Int32)), .val (.ref ds), .val (.int (0 : Int32)), .val (.int (2 : Int32)), .val (.int (0 : Int32)), .unset] [(.int (0 : Int32)), (.ref ar)])) rfl rfl (hb hby d29_12)) ?_
  show Run p e below s _ _ _ (s₁.setTop (mkF m 13 #[.val (.ref ar), .val (.int (0 : Int32)), .val (.ref ds), .val (.int (0 : Int32)), .val (.int (2 : Int32)), .val (.int (0 : Int32)), .unset] [(.int c0)]))
  refine Run.pre (fun _ k => XS.istore X0.here hx rfl (hb hby d29_13) rfl (l' := #[.val (.ref ar), .val (.int (0 : Int32)), .val (.ref ds), .val (.int (0 : Int32)), .val (.int (2 : Int32)), .val (.int (0 : Int32)), .val (.int c0)]) rfl k) ?_
  show Run p e below s _ _ _ (s₁.setTop (mkF m 15 #[.val (.ref ar), .val (.int (0 : Int32)), .val (.ref ds), .val (.int (0 : Int32)), .val (.int (2 : Int32)), .val (.int (0 : Int32)), .val (.int c0)] []))
  refine Run.pre (fun _ k => XS.iload X0.here hx rfl (hb hby d29_15) rfl  k) ?_
  show Run p e below s _ _ _ (s₁.setTop (mkF m 17 #[.val (.ref ar), .val (.int (0 : Int32)), .val (.ref ds), .val (.int (0 : Int32)), .val (.int (2 : Int32)), .val (.int (0 : Int32)), .val (.int c0)] [(.int c0)]))
  refine Run.pre (fun _ k => XS.sipush X0.here hx rfl (hb hby d29_17) k) ?_
  show Run p e below s _ _ _ (s₁.setTop (mkF m 20 #[.val (.ref ar), .val (.int (0 : Int32)), .val (.ref ds), .val (.int (0 : Int32)), .val (.int (2 : Int32)), .val (.int (0 : Int32)), .val (.int c0)] [(.int (255 : Int32)), (.int c0)]))
  refine Run.pre (fun _ k => XS.icmpYes X0.here hx rfl (pc0 := 20) (pc' := 26) rfl (hb hby d29_20) rfl (flt (q0 : ¬ ((255 : Int32) < c0))).2.2.2 (by decide) (by decide) k) ?_
  show Run p e below s _ _ _ (s₁.setTop (mkF m 26 #[.val (.ref ar), .val (.int (0 : Int32)), .val (.ref ds), .val (.int (0 : Int32)), .val (.int (2 : Int32)), .val (.int (0 : Int32)), .val (.int c0)] []))
  refine Run.pre (fun _ k => XS.aloadN X0.here hx rfl (hb hby d29_26) rfl rfl k) ?_
  show Run p e below s _ _ _ (s₁.setTop (mkF m 27 #[.val (.ref ar), .val (.int (0 : Int32)), .val (.ref ds), .val (.int (0 : Int32)), .val (.int (2 : Int32)), .val (.int (0 : Int32)), .val (.int c0)] [(.ref ds)]))
  refine Run.pre (fun _ k => XS.iloadN X0.here hx rfl (hb hby d29_27) rfl  k) ?_
  show Run p e below s _ _ _ (s₁.setTop (mkF m 28 #[.val (.ref ar), .val (.int (0 : Int32)), .val (.ref ds), .val (.int (0 : Int32)), .val (.int (2 : Int32)), .val (.int (0 : Int32)), .val (.int c0)] [(.int (0 : Int32)), (.ref ds)]))
  refine Run.pre (fun _ k => XS.iload X0.here hx rfl (hb hby d29_28) rfl  k) ?_
  show Run p e below s _ _ _ (s₁.setTop (mkF m 30 #[.val (.ref ar), .val (.int (0 : Int32)), .val (.ref ds), .val (.int (0 : Int32)), .val (.int (2 : Int32)), .val (.int (0 : Int32)), .val (.int c0)] [(.int c0), (.int (0 : Int32)), (.ref ds)]))
  refine Run.pre (fun _ k => XS.i2b X0.here hx rfl (hb hby d29_30) rfl k) ?_
  show Run p e below s _ _ _ (s₁.setTop (mkF m 31 #[.val (.ref ar), .val (.int (0 : Int32)), .val (.ref ds), .val (.int (0 : Int32)), .val (.int (2 : Int32)), .val (.int (0 : Int32)), .val (.int c0)] [(.int (c0.toInt8.toInt32)), (.int (0 : Int32)), (.ref ds)]))
  obtain ⟨c23, Ar23, q23, S23, N23, H23, G23⟩ := id AB
  have hin23 : ¬ ((0 : Int32) < 0 ∨ c23.slots.size ≤ ((0 : Int32)).toNatClampNeg) := inb_of S23 ⟨by decide, by decide⟩
  obtain ⟨T24, h24, X24, e24, W24, st24⟩ := stB X0 hx hZ e0 Ar23 (j := (0 : Int32)) hin23 (g := (mkF m 31 #[.val (.ref ar), .val (.int (0 : Int32)), .val (.ref ds), .val (.int (0 : Int32)), .val (.int (2 : Int32)), .val (.int (0 : Int32)), .val (.int c0)] [(.int (c0.toInt8.toInt32)), (.int (0 : Int32)), (.ref ds)])) rfl rfl (hb hby d29_31)
  refine Run.pre st24 ?_
  have V_ds_24 : Arv Z h24 ds kb .byte (2 : Int32) [(.int (nar .byte (c0.toInt8.toInt32))), (.int (0 : Int32))] (.int (0 : Int32)) := Arv.set Ar23 q23 S23 N23 H23 G23 (fits_nar_byte _) W24 0 rfl (Nat.le_of_ble_eq_true rfl)
  have K24 : Keep h0 h24 [ds] := (Keep.refl h0 [ds]).wr W24 (Or.inl (by simp))
  have N24 := Fr.snoc X24 N0 g_ds
  show Run p e below s _ _ _ (T24.setTop (mkF m 32 #[.val (.ref ar), .val (.int (0 : Int32)), .val (.ref ds), .val (.int (0 : Int32)), .val (.int (2 : Int32)), .val (.int (0 : Int32)), .val (.int c0)] []))
  refine Run.pre (fun _ k => XS.iinc X24.here hx rfl (hb hby d29_32) rfl (l' := #[.val (.ref ar), .val (.int (1 : Int32)), .val (.ref ds), .val (.int (0 : Int32)), .val (.int (2 : Int32)), .val (.int (0 : Int32)), .val (.int c0)]) rfl k) ?_
  show Run p e below s _ _ _ (T24.setTop (mkF m 35 #[.val (.ref ar), .val (.int (1 : Int32)), .val (.ref ds), .val (.int (0 : Int32)), .val (.int (2 : Int32)), .val (.int (0 : Int32)), .val (.int c0)] []))
  refine Run.pre (fun _ k => XS.iinc X24.here hx rfl (hb hby d29_35) rfl (l' := #[.val (.ref ar), .val (.int (1 : Int32)), .val (.ref ds), .val (.int (1 : Int32)), .val (.int (2 : Int32)), .val (.int (0 : Int32)), .val (.int c0)]) rfl k) ?_
  show Run p e below s _ _ _ (T24.setTop (mkF m 38 #[.val (.ref ar), .val (.int (1 : Int32)), .val (.ref ds), .val (.int (1 : Int32)), .val (.int (2 : Int32)), .val (.int (0 : Int32)), .val (.int c0)] []))
  refine Run.pre (fun _ k => XS.iinc X24.here hx rfl (hb hby d29_38) rfl (l' := #[.val (.ref ar), .val (.int (1 : Int32)), .val (.ref ds), .val (.int (1 : Int32)), .val (.int (2 : Int32)), .val (.int (1 : Int32)), .val (.int c0)]) rfl k) ?_
  show Run p e below s _ _ _ (T24.setTop (mkF m 41 #[.val (.ref ar), .val (.int (1 : Int32)), .val (.ref ds), .val (.int (1 : Int32)), .val (.int (2 : Int32)), .val (.int (1 : Int32)), .val (.int c0)] []))
  refine Run.pre (fun _ k => XS.goto X24.here hx rfl (pc0 := 41) (pc' := 3) rfl (hb hby d29_41) (by decide) (by decide) k) ?_
  show Run p e below s _ _ _ (T24.setTop (mkF m 3 #[.val (.ref ar), .val (.int (1 : Int32)), .val (.ref ds), .val (.int (1 : Int32)), .val (.int (2 : Int32)), .val (.int (1 : Int32)), .val (.int c0)] []))
  refine Run.pre (fun _ k => XS.iload X24.here hx rfl (hb hby d29_3) rfl  k) ?_
  show Run p e below s _ _ _ (T24.setTop (mkF m 5 #[.val (.ref ar), .val (.int (1 : Int32)), .val (.ref ds), .val (.int (1 : Int32)), .val (.int (2 : Int32)), .val (.int (1 : Int32)), .val (.int c0)] [(.int (1 : Int32))]))
  refine Run.pre (fun _ k => XS.iload X24.here hx rfl (hb hby d29_5) rfl  k) ?_
  show Run p e below s _ _ _ (T24.setTop (mkF m 7 #[.val (.ref ar), .val (.int (1 : Int32)), .val (.ref ds), .val (.int (1 : Int32)), .val (.int (2 : Int32)), .val (.int (1 : Int32)), .val (.int c0)] [(.int (2 : Int32)), (.int (1 : Int32))]))
  refine Run.pre (fun _ k => XS.icmpNo X24.here hx rfl (hb hby d29_7) rfl (tlt ((by decide) : (1 : Int32) < (2 : Int32))).2.1 k) ?_
  show Run p e below s _ _ _ (T24.setTop (mkF m 10 #[.val (.ref ar), .val (.int (1 : Int32)), .val (.ref ds), .val (.int (1 : Int32)), .val (.int (2 : Int32)), .val (.int (1 : Int32)), .val (.int c0)] []))
  refine Run.pre (fun _ k => XS.aloadN X24.here hx rfl (hb hby d29_10) rfl rfl k) ?_
  show Run p e below s _ _ _ (T24.setTop (mkF m 11 #[.val (.ref ar), .val (.int (1 : Int32)), .val (.ref ds), .val (.int (1 : Int32)), .val (.int (2 : Int32)), .val (.int (1 : Int32)), .val (.int c0)] [(.ref ar)]))
  refine Run.pre (fun _ k => XS.iloadN X24.here hx rfl (hb hby d29_11) rfl  k) ?_
  show Run p e below s _ _ _ (T24.setTop (mkF m 12 #[.val (.ref ar), .val (.int (1 : Int32)), .val (.ref ds), .val (.int (1 : Int32)), .val (.int (2 : Int32)), .val (.int (1 : Int32)), .val (.int c0)] [(.int (1 : Int32)), (.ref ar)]))
  have f25 := (AC.other W24 nad)
  obtain ⟨c26, Ar26, -, S26, N26, H26, -⟩ := id f25
  have hin26 : ¬ ((1 : Int32) < 0 ∨ c26.slots.size ≤ ((1 : Int32)).toNatClampNeg) := inb_of S26 ⟨by decide, by decide⟩
  refine Run.pre (X24.caload hx (j := (1 : Int32)) (v := (.int c1)) (by rw [e24]; exact Ar26.1) (State.isArrayOf_alike hZ.alike Ar26.2.1) Ar26.2.2 hin26 (H26.at hin26 rfl) (g := (mkF m 12 #[.val (.ref ar), .val (.int (1 : Int32)), .val (.ref ds), .val (.int (1 : Int32)), .val (.int (2 : Int32)), .val (.int (1 : Int32)), .val (.int c0)] [(.int (1 : Int32)), (.ref ar)])) rfl rfl (hb hby d29_12)) ?_
  show Run p e below s _ _ _ (T24.setTop (mkF m 13 #[.val (.ref ar), .val (.int (1 : Int32)), .val (.ref ds), .val (.int (1 : Int32)), .val (.int (2 : Int32)), .val (.int (1 : Int32)), .val (.int c0)] [(.int c1)]))
  refine Run.pre (fun _ k => XS.istore X24.here hx rfl (hb hby d29_13) rfl (l' := #[.val (.ref ar), .val (.int (1 : Int32)), .val (.ref ds), .val (.int (1 : Int32)), .val (.int (2 : Int32)), .val (.int (1 : Int32)), .val (.int c1)]) rfl k) ?_
  show Run p e below s _ _ _ (T24.setTop (mkF m 15 #[.val (.ref ar), .val (.int (1 : Int32)), .val (.ref ds), .val (.int (1 : Int32)), .val (.int (2 : Int32)), .val (.int (1 : Int32)), .val (.int c1)] []))
  refine Run.pre (fun _ k => XS.iload X24.here hx rfl (hb hby d29_15) rfl  k) ?_
  show Run p e below s _ _ _ (T24.setTop (mkF m 17 #[.val (.ref ar), .val (.int (1 : Int32)), .val (.ref ds), .val (.int (1 : Int32)), .val (.int (2 : Int32)), .val (.int (1 : Int32)), .val (.int c1)] [(.int c1)]))
  refine Run.pre (fun _ k => XS.sipush X24.here hx rfl (hb hby d29_17) k) ?_
  show Run p e below s _ _ _ (T24.setTop (mkF m 20 #[.val (.ref ar), .val (.int (1 : Int32)), .val (.ref ds), .val (.int (1 : Int32)), .val (.int (2 : Int32)), .val (.int (1 : Int32)), .val (.int c1)] [(.int (255 : Int32)), (.int c1)]))
  refine Run.pre (fun _ k => XS.icmpYes X24.here hx rfl (pc0 := 20) (pc' := 26) rfl (hb hby d29_20) rfl (flt (q1 : ¬ ((255 : Int32) < c1))).2.2.2 (by decide) (by decide) k) ?_
  show Run p e below s _ _ _ (T24.setTop (mkF m 26 #[.val (.ref ar), .val (.int (1 : Int32)), .val (.ref ds), .val (.int (1 : Int32)), .val (.int (2 : Int32)), .val (.int (1 : Int32)), .val (.int c1)] []))
  refine Run.pre (fun _ k => XS.aloadN X24.here hx rfl (hb hby d29_26) rfl rfl k) ?_
  show Run p e below s _ _ _ (T24.setTop (mkF m 27 #[.val (.ref ar), .val (.int (1 : Int32)), .val (.ref ds), .val (.int (1 : Int32)), .val (.int (2 : Int32)), .val (.int (1 : Int32)), .val (.int c1)] [(.ref ds)]))
  refine Run.pre (fun _ k => XS.iloadN X24.here hx rfl (hb hby d29_27) rfl  k) ?_
  show Run p e below s _ _ _ (T24.setTop (mkF m 28 #[.val (.ref ar), .val (.int (1 : Int32)), .val (.ref ds), .val (.int (1 : Int32)), .val (.int (2 : Int32)), .val (.int (1 : Int32)), .val (.int c1)] [(.int (1 : Int32)), (.ref ds)]))
  refine Run.pre (fun _ k => XS.iload X24.here hx rfl (hb hby d29_28) rfl  k) ?_
  show Run p e below s _ _ _ (T24.setTop (mkF m 30 #[.val (.ref ar), .val (.int (1 : Int32)), .val (.ref ds), .val (.int (1 : Int32)), .val (.int (2 : Int32)), .val (.int (1 : Int32)), .val (.int c1)] [(.int c1), (.int (1 : Int32)), (.ref ds)]))
  refine Run.pre (fun _ k => XS.i2b X24.here hx rfl (hb hby d29_30) rfl k) ?_
  show Run p e below s _ _ _ (T24.setTop (mkF m 31 #[.val (.ref ar), .val (.int (1 : Int32)), .val (.ref ds), .val (.int (1 : Int32)), .val (.int (2 : Int32)), .val (.int (1 : Int32)), .val (.int c1)] [(.int (c1.toInt8.toInt32)), (.int (1 : Int32)), (.ref ds)]))
  obtain ⟨c27, Ar27, q27, S27, N27, H27, G27⟩ := id V_ds_24
  have hin27 : ¬ ((1 : Int32) < 0 ∨ c27.slots.size ≤ ((1 : Int32)).toNatClampNeg) := inb_of S27 ⟨by decide, by decide⟩
  obtain ⟨T28, h28, X28, e28, W28, st28⟩ := stB X24 hx hZ e24 Ar27 (j := (1 : Int32)) hin27 (g := (mkF m 31 #[.val (.ref ar), .val (.int (1 : Int32)), .val (.ref ds), .val (.int (1 : Int32)), .val (.int (2 : Int32)), .val (.int (1 : Int32)), .val (.int c1)] [(.int (c1.toInt8.toInt32)), (.int (1 : Int32)), (.ref ds)])) rfl rfl (hb hby d29_31)
  refine Run.pre st28 ?_
  have V_ds_28 : Arv Z h28 ds kb .byte (2 : Int32) [(.int (nar .byte (c0.toInt8.toInt32))), (.int (nar .byte (c1.toInt8.toInt32)))] (.int (0 : Int32)) := Arv.set Ar27 q27 S27 N27 H27 G27 (fits_nar_byte _) W28 1 rfl (Nat.le_of_ble_eq_true rfl)
  have K28 : Keep h0 h28 [ds] := K24.wr W28 (Or.inl (by simp))
  have N28 := Fr.snoc X28 N24 g_ds
  show Run p e below s _ _ _ (T28.setTop (mkF m 32 #[.val (.ref ar), .val (.int (1 : Int32)), .val (.ref ds), .val (.int (1 : Int32)), .val (.int (2 : Int32)), .val (.int (1 : Int32)), .val (.int c1)] []))
  refine Run.pre (fun _ k => XS.iinc X28.here hx rfl (hb hby d29_32) rfl (l' := #[.val (.ref ar), .val (.int (2 : Int32)), .val (.ref ds), .val (.int (1 : Int32)), .val (.int (2 : Int32)), .val (.int (1 : Int32)), .val (.int c1)]) rfl k) ?_
  show Run p e below s _ _ _ (T28.setTop (mkF m 35 #[.val (.ref ar), .val (.int (2 : Int32)), .val (.ref ds), .val (.int (1 : Int32)), .val (.int (2 : Int32)), .val (.int (1 : Int32)), .val (.int c1)] []))
  refine Run.pre (fun _ k => XS.iinc X28.here hx rfl (hb hby d29_35) rfl (l' := #[.val (.ref ar), .val (.int (2 : Int32)), .val (.ref ds), .val (.int (2 : Int32)), .val (.int (2 : Int32)), .val (.int (1 : Int32)), .val (.int c1)]) rfl k) ?_
  show Run p e below s _ _ _ (T28.setTop (mkF m 38 #[.val (.ref ar), .val (.int (2 : Int32)), .val (.ref ds), .val (.int (2 : Int32)), .val (.int (2 : Int32)), .val (.int (1 : Int32)), .val (.int c1)] []))
  refine Run.pre (fun _ k => XS.iinc X28.here hx rfl (hb hby d29_38) rfl (l' := #[.val (.ref ar), .val (.int (2 : Int32)), .val (.ref ds), .val (.int (2 : Int32)), .val (.int (2 : Int32)), .val (.int (2 : Int32)), .val (.int c1)]) rfl k) ?_
  show Run p e below s _ _ _ (T28.setTop (mkF m 41 #[.val (.ref ar), .val (.int (2 : Int32)), .val (.ref ds), .val (.int (2 : Int32)), .val (.int (2 : Int32)), .val (.int (2 : Int32)), .val (.int c1)] []))
  refine Run.pre (fun _ k => XS.goto X28.here hx rfl (pc0 := 41) (pc' := 3) rfl (hb hby d29_41) (by decide) (by decide) k) ?_
  show Run p e below s _ _ _ (T28.setTop (mkF m 3 #[.val (.ref ar), .val (.int (2 : Int32)), .val (.ref ds), .val (.int (2 : Int32)), .val (.int (2 : Int32)), .val (.int (2 : Int32)), .val (.int c1)] []))
  refine Run.pre (fun _ k => XS.iload X28.here hx rfl (hb hby d29_3) rfl  k) ?_
  show Run p e below s _ _ _ (T28.setTop (mkF m 5 #[.val (.ref ar), .val (.int (2 : Int32)), .val (.ref ds), .val (.int (2 : Int32)), .val (.int (2 : Int32)), .val (.int (2 : Int32)), .val (.int c1)] [(.int (2 : Int32))]))
  refine Run.pre (fun _ k => XS.iload X28.here hx rfl (hb hby d29_5) rfl  k) ?_
  show Run p e below s _ _ _ (T28.setTop (mkF m 7 #[.val (.ref ar), .val (.int (2 : Int32)), .val (.ref ds), .val (.int (2 : Int32)), .val (.int (2 : Int32)), .val (.int (2 : Int32)), .val (.int c1)] [(.int (2 : Int32)), (.int (2 : Int32))]))
  refine Run.pre (fun _ k => XS.icmpYes X28.here hx rfl (pc0 := 7) (pc' := 44) rfl (hb hby d29_7) rfl (flt ((by decide) : ¬ ((2 : Int32) < (2 : Int32)))).2.1 (by decide) (by decide) k) ?_
  show Run p e below s _ _ _ (T28.setTop (mkF m 44 #[.val (.ref ar), .val (.int (2 : Int32)), .val (.ref ds), .val (.int (2 : Int32)), .val (.int (2 : Int32)), .val (.int (2 : Int32)), .val (.int c1)] []))
  refine Run.pre (fun _ k => XS.iload X28.here hx rfl (hb hby d29_44) rfl  k) ?_
  show Run p e below s _ _ _ (T28.setTop (mkF m 46 #[.val (.ref ar), .val (.int (2 : Int32)), .val (.ref ds), .val (.int (2 : Int32)), .val (.int (2 : Int32)), .val (.int (2 : Int32)), .val (.int c1)] [(.int (2 : Int32))]))
  exact Run.retI hS (by first | exact Nat.le_refl _ | (rw [e28]; exact (Nat.le_trans (Nat.le_trans (Nat.zero_le _) (Keep.of_wr W24).1) (Keep.of_wr W28).1))) X28 hx hret hlk (hb hby d29_46) (by first | (rw [e28]; exact ⟨rfl, N28, K28, V_ds_28, X28.warmed.interned_eq.trans hI⟩) | exact ⟨rfl, N28, K28, V_ds_28, X28.warmed.interned_eq.trans hI⟩) (by decide) (by decide)
set_option maxRecDepth 65536 in
set_option maxHeartbeats 40000000 in
theorem rmC1_2 (l : Launch) (Z : State) (a0 : Array Value) (hw : ∀ d ∈ tables_1, d.before a0 Z = true) (I0 : Array (Array UInt16 × Addr)) (ar : Addr) (kc : ClassId) (c0 : Int32) (c1 : Int32) (h0 : Heap) (n0 : Nat) (Z0 : n0 ≤ h0.size) (AC : Arv Z h0 ar kc .char 2 [(.int c0), (.int c1)] (.int 0)) (q0 : ¬ (255 : Int32) < c0) (q1 : ¬ (255 : Int32) < c1) :
    Con l (⟨"java/lang/StringUTF16", "compress", "([CII)[B"⟩ : MethodName) jdk_52_method_16_code 6 (some (.array .byte)) ({ frames := 1, cells := 1, slots := 2, locals := 18 } : Room) Z #[(.ref ar), (.int (0 : Int32)), (.int (2 : Int32))] h0 (fun vm => vm.interned = I0) (fun v h L vm => ∃ b : Addr, ∃ k : ClassId, v = some (.ref b) ∧ Fr n0 L ∧ Keep h0 h [] ∧ h0.size ≤ b ∧ Arv Z h b k .byte 2 [(.int (nar .byte (c0.toInt8.toInt32))), (.int (nar .byte (c1.toInt8.toInt32)))] (.int 0) ∧ vm.interned = I0) := by
  refine Con.mk (plainFor_of_name pn_28) (fun m => show entryFrame m #[(.ref ar), (.int (0 : Int32)), (.int (2 : Int32))] 6 = mkF m 0 #[.val (.ref ar), .val (.int (0 : Int32)), .val (.int (2 : Int32)), .unset, .unset, .unset] [] by first | (simp [entryFrame, mkF, argsToLocals, Value.category]; done) | rfl) ?_
  intro p e s m below meth c s₁ vm0 hx hby hml hown hnm hret hlk hZ X0 e0 hS hs0 hP0
  have N0 := Fr.nil n0
  have hI : vm0.interned = I0 := hP0
  show Run p e below s _ _ _ (s₁.setTop (mkF m 0 #[.val (.ref ar), .val (.int (0 : Int32)), .val (.int (2 : Int32)), .unset, .unset, .unset] []))
  refine Run.pre (fun _ k => XS.iloadN X0.here hx rfl (hb hby d28_0) rfl  k) ?_
  show Run p e below s _ _ _ (s₁.setTop (mkF m 1 #[.val (.ref ar), .val (.int (0 : Int32)), .val (.int (2 : Int32)), .unset, .unset, .unset] [(.int (2 : Int32))]))
  obtain ⟨T29, h29, k29, X29, e29, E29, A29, st29⟩ := newP X0 hx hZ (hw _ (List.mem_of_getElem? (i := 19) rfl)) e0 (g := (mkF m 1 #[.val (.ref ar), .val (.int (0 : Int32)), .val (.int (2 : Int32)), .unset, .unset, .unset] [(.int (2 : Int32))])) rfl (hb hby d28_1) rfl (by decide) (cap := 2) (by decide) (by decide) (by decide) (by decide)
  obtain ⟨b29, g29⟩ : ∃ z, z = h0.size := ⟨_, rfl⟩
  rw [← g29] at A29 st29
  refine Run.pre st29 ?_
  have V_b29 : Arv Z h29 b29 k29 .byte (2 : Int32) [(.int (0 : Int32)), (.int (0 : Int32))] (.int (0 : Int32)) := (Arv.new A29 (by decide)).pad (pad_rep [] (.int (0 : Int32)) 2)
  have gn_b29 : n0 ≤ b29 := Nat.le_trans (Nat.le_trans Z0 (Keep.refl h0 []).1) (Nat.le_of_eq g29.symm)
  have sz_b29 : h0.size ≤ b29 := Nat.le_trans (Keep.refl h0 []).1 (Nat.le_of_eq g29.symm)
  have K29 : Keep h0 h29 [] := (Keep.refl h0 []).ext E29
  show Run p e below s _ _ _ (T29.setTop (mkF m 3 #[.val (.ref ar), .val (.int (0 : Int32)), .val (.int (2 : Int32)), .unset, .unset, .unset] [(.ref b29)]))
  refine Run.pre (fun _ k => XS.astoreN X29.here hx rfl (hb hby d28_3) rfl rfl (l' := #[.val (.ref ar), .val (.int (0 : Int32)), .val (.int (2 : Int32)), .val (.ref b29), .unset, .unset]) rfl k) ?_
  show Run p e below s _ _ _ (T29.setTop (mkF m 4 #[.val (.ref ar), .val (.int (0 : Int32)), .val (.int (2 : Int32)), .val (.ref b29), .unset, .unset] []))
  refine Run.pre (fun _ k => XS.aloadN X29.here hx rfl (hb hby d28_4) rfl rfl k) ?_
  show Run p e below s _ _ _ (T29.setTop (mkF m 5 #[.val (.ref ar), .val (.int (0 : Int32)), .val (.int (2 : Int32)), .val (.ref b29), .unset, .unset] [(.ref ar)]))
  refine Run.pre (fun _ k => XS.iloadN X29.here hx rfl (hb hby d28_5) rfl  k) ?_
  show Run p e below s _ _ _ (T29.setTop (mkF m 6 #[.val (.ref ar), .val (.int (0 : Int32)), .val (.int (2 : Int32)), .val (.ref b29), .unset, .unset] [(.int (0 : Int32)), (.ref ar)]))
  refine Run.pre (fun _ k => XS.aloadN X29.here hx rfl (hb hby d28_6) rfl rfl k) ?_
  show Run p e below s _ _ _ (T29.setTop (mkF m 7 #[.val (.ref ar), .val (.int (0 : Int32)), .val (.int (2 : Int32)), .val (.ref b29), .unset, .unset] [(.ref b29), (.int (0 : Int32)), (.ref ar)]))
  refine Run.pre (fun _ k => XS.iconst X29.here hx rfl (hb hby d28_7) k) ?_
  show Run p e below s _ _ _ (T29.setTop (mkF m 8 #[.val (.ref ar), .val (.int (0 : Int32)), .val (.int (2 : Int32)), .val (.ref b29), .unset, .unset] [(.int (0 : Int32)), (.ref b29), (.int (0 : Int32)), (.ref ar)]))
  refine Run.pre (fun _ k => XS.iloadN X29.here hx rfl (hb hby d28_8) rfl  k) ?_
  show Run p e below s _ _ _ (T29.setTop (mkF m 9 #[.val (.ref ar), .val (.int (0 : Int32)), .val (.int (2 : Int32)), .val (.ref b29), .unset, .unset] [(.int (2 : Int32)), (.int (0 : Int32)), (.ref b29), (.int (0 : Int32)), (.ref ar)]))
  have f30 := (AC.ext E29)
  refine Run.callS hS (by first | exact Nat.le_refl _ | (rw [e29]; exact (Nat.le_trans (Nat.zero_le _) E29.1))) X29 hx hZ (y := (⟨"java/lang/StringUTF16", "compress", "([CI[BII)I"⟩ : MethodName)) hown (hw _ (List.mem_of_getElem? (i := 176) rfl)) (hw _ (List.mem_of_getElem? (i := 177) rfl)) (hw _ (List.mem_of_getElem? (i := 174) rfl)) (hw _ (List.mem_of_getElem? (i := 178) rfl)) (by decide) (W := 0) (rmC2_2 l Z a0 hw _ ar b29 kc k29 c0 c1 h29 n0 (Nat.le_trans Z0 K29.1) f30 V_b29 (Nat.ne_of_lt (Nat.lt_of_lt_of_le AC.lt (Nat.le_of_eq g29.symm))) gn_b29 q0 q1) e29 (by decide) (by decide) (by decide) (by decide) (fun _ q => q.interned_eq) (g := (mkF m 9 #[.val (.ref ar), .val (.int (0 : Int32)), .val (.int (2 : Int32)), .val (.ref b29), .unset, .unset] [(.int (2 : Int32)), (.int (0 : Int32)), (.ref b29), (.int (0 : Int32)), (.ref ar)])) rfl (by rw [hml]; rfl) (argsL := [(.ref ar), (.int (0 : Int32)), (.ref b29), (.int (0 : Int32)), (.int (2 : Int32))]) (rest := []) (lenOf pd_0 rfl) rfl (by show 2 * 0 + _ ≤ _; exact Nat.le_of_eq rfl) (hb hby d28_9) ?_
  intro v31 T31 L31 X31 hS hZ hown hV31 hQ31
  obtain ⟨rfl, Nq31, Kc31, vb31, hI31⟩ := hQ31
  have N31 := Fr.app N0 Nq31
  have hI := hI31.trans hI
  have K31 : Keep h0 T31.heap [] := K29.trans Kc31 (allS (Or.inr sz_b29) all0)
  show Run p e below s _ _ _ (T31.setTop (mkF m 12 #[.val (.ref ar), .val (.int (0 : Int32)), .val (.int (2 : Int32)), .val (.ref b29), .unset, .unset] [(.int (2 : Int32))]))
  refine Run.pre (fun _ k => XS.istore X31.here hx rfl (hb hby d28_12) rfl (l' := #[.val (.ref ar), .val (.int (0 : Int32)), .val (.int (2 : Int32)), .val (.ref b29), .val (.int (2 : Int32)), .unset]) rfl k) ?_
  show Run p e below s _ _ _ (T31.setTop (mkF m 14 #[.val (.ref ar), .val (.int (0 : Int32)), .val (.int (2 : Int32)), .val (.ref b29), .val (.int (2 : Int32)), .unset] []))
  refine Run.pre (fun _ k => XS.iload X31.here hx rfl (hb hby d28_14) rfl  k) ?_
  show Run p e below s _ _ _ (T31.setTop (mkF m 16 #[.val (.ref ar), .val (.int (0 : Int32)), .val (.int (2 : Int32)), .val (.ref b29), .val (.int (2 : Int32)), .unset] [(.int (2 : Int32))]))
  refine Run.pre (fun _ k => XS.iloadN X31.here hx rfl (hb hby d28_16) rfl  k) ?_
  show Run p e below s _ _ _ (T31.setTop (mkF m 17 #[.val (.ref ar), .val (.int (0 : Int32)), .val (.int (2 : Int32)), .val (.ref b29), .val (.int (2 : Int32)), .unset] [(.int (2 : Int32)), (.int (2 : Int32))]))
  refine Run.pre (fun _ k => XS.icmpYes X31.here hx rfl (pc0 := 17) (pc' := 57) rfl (hb hby d28_17) rfl (teq ((by decide) : (2 : Int32) = (2 : Int32))).1 (by decide) (by decide) k) ?_
  show Run p e below s _ _ _ (T31.setTop (mkF m 57 #[.val (.ref ar), .val (.int (0 : Int32)), .val (.int (2 : Int32)), .val (.ref b29), .val (.int (2 : Int32)), .unset] []))
  refine Run.pre (fun _ k => XS.aloadN X31.here hx rfl (hb hby d28_57) rfl rfl k) ?_
  show Run p e below s _ _ _ (T31.setTop (mkF m 58 #[.val (.ref ar), .val (.int (0 : Int32)), .val (.int (2 : Int32)), .val (.ref b29), .val (.int (2 : Int32)), .unset] [(.ref b29)]))
  exact Run.retA hS (Nat.le_refl _) X31 hx hret rfl rfl hlk (hb hby d28_58) ⟨b29, k29, rfl, N31, K31, sz_b29, vb31, X31.warmed.interned_eq.trans hI⟩ (by decide) (by decide)
set_option maxRecDepth 65536 in
set_option maxHeartbeats 40000000 in
theorem rmCo_2 (l : Launch) (Z : State) (a0 : Array Value) (hw : ∀ d ∈ tables_1, d.before a0 Z = true) (I0 : Array (Array UInt16 × Addr)) (b : Addr) (kb : ClassId) (c0 : Int32) (c1 : Int32) (h0 : Heap) (n0 : Nat) (Z0 : n0 ≤ h0.size) (AB : Arv Z h0 b kb .byte 2 [(.int (nar .byte (c0.toInt8.toInt32))), (.int (nar .byte (c1.toInt8.toInt32)))] (.int 0)) :
    Con l (⟨"java/lang/StringUTF16", "coderFromArrayLen", "([BI)B"⟩ : MethodName) jdk_52_method_15_code 2 (some .byte) ({ frames := 0, cells := 0, slots := 0, locals := 0 } : Room) Z #[(.ref b), (.int (2 : Int32))] h0 (fun vm => vm.interned = I0) (fun v h L vm => v = some (.int 0) ∧ Fr n0 L ∧ h = h0 ∧ vm.interned = I0) := by
  refine Con.mk (plainFor_of_name pn_30) (fun m => show entryFrame m #[(.ref b), (.int (2 : Int32))] 2 = mkF m 0 #[.val (.ref b), .val (.int (2 : Int32))] [] by first | (simp [entryFrame, mkF, argsToLocals, Value.category]; done) | rfl) ?_
  intro p e s m below meth c s₁ vm0 hx hby hml hown hnm hret hlk hZ X0 e0 hS hs0 hP0
  have N0 := Fr.nil n0
  have hI : vm0.interned = I0 := hP0
  show Run p e below s _ _ _ (s₁.setTop (mkF m 0 #[.val (.ref b), .val (.int (2 : Int32))] []))
  refine Run.pre (fun _ k => XS.iloadN X0.here hx rfl (hb hby d30_0) rfl  k) ?_
  show Run p e below s _ _ _ (s₁.setTop (mkF m 1 #[.val (.ref b), .val (.int (2 : Int32))] [(.int (2 : Int32))]))
  refine Run.pre (fun _ k => XS.aloadN X0.here hx rfl (hb hby d30_1) rfl rfl k) ?_
  show Run p e below s _ _ _ (s₁.setTop (mkF m 2 #[.val (.ref b), .val (.int (2 : Int32))] [(.ref b), (.int (2 : Int32))]))
  obtain ⟨c32, Ar32, -, S32, N32, -, -⟩ := id AB
  refine Run.pre (X0.arraylength hx (by rw [e0]; exact Ar32.1) (State.isArrayOf_alike hZ.alike Ar32.2.1) (g := (mkF m 2 #[.val (.ref b), .val (.int (2 : Int32))] [(.ref b), (.int (2 : Int32))])) rfl rfl (hb hby d30_2)) ?_
  rw [len_of S32 N32]
  show Run p e below s _ _ _ (s₁.setTop (mkF m 3 #[.val (.ref b), .val (.int (2 : Int32))] [(.int (2 : Int32)), (.int (2 : Int32))]))
  refine Run.pre (fun _ k => XS.isub X0.here hx rfl (hb hby d30_3) rfl k) ?_
  show Run p e below s _ _ _ (s₁.setTop (mkF m 4 #[.val (.ref b), .val (.int (2 : Int32))] [(.int (0 : Int32))]))
  refine Run.pre (fun _ k => XS.bipush X0.here hx rfl (hb hby d30_4) k) ?_
  show Run p e below s _ _ _ (s₁.setTop (mkF m 6 #[.val (.ref b), .val (.int (2 : Int32))] [(.int (31 : Int32)), (.int (0 : Int32))]))
  refine Run.pre (fun _ k => XS.iushr X0.here hx rfl (hb hby d30_6) rfl k) ?_
  show Run p e below s _ _ _ (s₁.setTop (mkF m 7 #[.val (.ref b), .val (.int (2 : Int32))] [(.int (0 : Int32))]))
  refine Run.pre (fun _ k => XS.i2b X0.here hx rfl (hb hby d30_7) rfl k) ?_
  show Run p e below s _ _ _ (s₁.setTop (mkF m 8 #[.val (.ref b), .val (.int (2 : Int32))] [(.int ((0 : Int32).toInt8.toInt32))]))
  exact Run.retN hS (by first | exact Nat.le_refl _ | (rw [e0]; exact (Nat.zero_le _))) X0 hx hret (t := .byte) (by simp) hlk (hb hby d30_8) (by first | (rw [e0]; exact ⟨by decide, N0, rfl, X0.warmed.interned_eq.trans hI⟩) | exact ⟨by decide, N0, rfl, X0.warmed.interned_eq.trans hI⟩) (by decide) (by decide)
set_option maxRecDepth 65536 in
set_option maxHeartbeats 40000000 in
theorem rmI4_2 (l : Launch) (Z : State) (a0 : Array Value) (hw : ∀ d ∈ tables_1, d.before a0 Z = true) (I0 : Array (Array UInt16 × Addr)) (a : Addr) (ar : Addr) (kc : ClassId) (c0 : Int32) (c1 : Int32) (cs : Int32) (h0 : Heap) (n0 : Nat) (Z0 : n0 ≤ h0.size) (OL : Old Z n0 h0) (SC : Sta Z Z.heap "java/lang/String" "COMPACT_STRINGS" "Z" (.int cs)) (hcs : ¬ cs = 0) (AC : Arv Z h0 ar kc .char 2 [(.int c0), (.int c1)] (.int 0)) (E_a : Exa Z h0 a "java/lang/String") (FV : Fld Z h0 a "java/lang/String" "value" "[B" .null) (FCo : Fld Z h0 a "java/lang/String" "coder" "B" (.int 0)) (g_a : n0 ≤ a) (nar_ : ar ≠ a) (q0 : ¬ (255 : Int32) < c0) (q1 : ¬ (255 : Int32) < c1) :
    Con l (⟨"java/lang/String", "<init>", "([CIILjava/lang/Void;)V"⟩ : MethodName) jdk_42_method_149_code 6 none ({ frames := 2, cells := 1, slots := 2, locals := 35 } : Room) Z #[(.ref a), (.ref ar), (.int (0 : Int32)), (.int (2 : Int32)), .null] h0 (fun vm => vm.interned = I0) (fun v h L vm => ∃ b : Addr, ∃ k : ClassId, v = none ∧ Fr n0 L ∧ Keep h0 h [a] ∧ h0.size ≤ b ∧ Fld Z h a "java/lang/String" "coder" "B" (.int 0) ∧ Fld Z h a "java/lang/String" "value" "[B" (.ref b) ∧ Arv Z h b k .byte 2 [(.int (nar .byte (c0.toInt8.toInt32))), (.int (nar .byte (c1.toInt8.toInt32)))] (.int 0) ∧ vm.interned = I0) := by
  refine Con.mk (plainFor_of_name pn_3) (fun m => show entryFrame m #[(.ref a), (.ref ar), (.int (0 : Int32)), (.int (2 : Int32)), .null] 6 = mkF m 0 #[.val (.ref a), .val (.ref ar), .val (.int (0 : Int32)), .val (.int (2 : Int32)), .val .null, .unset] [] by first | (simp [entryFrame, mkF, argsToLocals, Value.category]; done) | rfl) ?_
  intro p e s m below meth c s₁ vm0 hx hby hml hown hnm hret hlk hZ X0 e0 hS hs0 hP0
  have N0 := Fr.nil n0
  have hI : vm0.interned = I0 := hP0
  show Run p e below s _ _ _ (s₁.setTop (mkF m 0 #[.val (.ref a), .val (.ref ar), .val (.int (0 : Int32)), .val (.int (2 : Int32)), .val .null, .unset] []))
  refine Run.pre (fun _ k => XS.aloadN X0.here hx rfl (hb hby d3_0) rfl rfl k) ?_
  show Run p e below s _ _ _ (s₁.setTop (mkF m 1 #[.val (.ref a), .val (.ref ar), .val (.int (0 : Int32)), .val (.int (2 : Int32)), .val .null, .unset] [(.ref a)]))
  obtain ⟨T33, X33, e33, st33⟩ := initO X0 hx hZ hown (hw _ (List.mem_of_getElem? (i := 15) rfl)) (hw _ (List.mem_of_getElem? (i := 16) rfl)) (hw _ (List.mem_of_getElem? (i := 17) rfl)) e0 (g := (mkF m 1 #[.val (.ref a), .val (.ref ar), .val (.int (0 : Int32)), .val (.int (2 : Int32)), .val .null, .unset] [(.ref a)])) rfl (by rw [hml]; rfl) rfl (hb hby d3_1) (by decide) (W := 0) (by show 2 * 0 + _ ≤ _; exact Nat.le_of_eq rfl) (by decide)
  refine Run.pre st33 ?_
  show Run p e below s _ _ _ (T33.setTop (mkF m 4 #[.val (.ref a), .val (.ref ar), .val (.int (0 : Int32)), .val (.int (2 : Int32)), .val .null, .unset] []))
  refine Run.pre (fun _ k => XS.iloadN X33.here hx rfl (hb hby d3_4) rfl  k) ?_
  show Run p e below s _ _ _ (T33.setTop (mkF m 5 #[.val (.ref a), .val (.ref ar), .val (.int (0 : Int32)), .val (.int (2 : Int32)), .val .null, .unset] [(.int (2 : Int32))]))
  refine Run.pre (fun _ k => XS.ifYes X33.here hx rfl (pc0 := 5) (pc' := 27) rfl (hb hby d3_5) rfl ((if0 _ _).trans (feq ((by decide) : ¬ ((2 : Int32) = (0 : Int32)))).2) (by decide) (by decide) k) ?_
  show Run p e below s _ _ _ (T33.setTop (mkF m 27 #[.val (.ref a), .val (.ref ar), .val (.int (0 : Int32)), .val (.int (2 : Int32)), .val .null, .unset] []))
  obtain ⟨T34, X34, e34, st34⟩ := getS2 X33 hx hZ hown (host := "") (Or.inl (hw _ (List.mem_of_getElem? (i := 171) rfl))) Via.refl e33 (SC.ext OL.2) (g := (mkF m 27 #[.val (.ref a), .val (.ref ar), .val (.int (0 : Int32)), .val (.int (2 : Int32)), .val .null, .unset] [])) rfl (hb hby d3_27)
  refine Run.pre st34 ?_
  show Run p e below s _ _ _ (T34.setTop (mkF m 30 #[.val (.ref a), .val (.ref ar), .val (.int (0 : Int32)), .val (.int (2 : Int32)), .val .null, .unset] [(.int cs)]))
  refine Run.pre (fun _ k => XS.ifNo X34.here hx rfl (hb hby d3_30) rfl ((if0 _ _).trans (feq (hcs : ¬ (cs = (0 : Int32)))).1) k) ?_
  show Run p e below s _ _ _ (T34.setTop (mkF m 33 #[.val (.ref a), .val (.ref ar), .val (.int (0 : Int32)), .val (.int (2 : Int32)), .val .null, .unset] []))
  refine Run.pre (fun _ k => XS.aloadN X34.here hx rfl (hb hby d3_33) rfl rfl k) ?_
  show Run p e below s _ _ _ (T34.setTop (mkF m 34 #[.val (.ref a), .val (.ref ar), .val (.int (0 : Int32)), .val (.int (2 : Int32)), .val .null, .unset] [(.ref ar)]))
  refine Run.pre (fun _ k => XS.iloadN X34.here hx rfl (hb hby d3_34) rfl  k) ?_
  show Run p e below s _ _ _ (T34.setTop (mkF m 35 #[.val (.ref a), .val (.ref ar), .val (.int (0 : Int32)), .val (.int (2 : Int32)), .val .null, .unset] [(.int (0 : Int32)), (.ref ar)]))
  refine Run.pre (fun _ k => XS.iloadN X34.here hx rfl (hb hby d3_35) rfl  k) ?_
  show Run p e below s _ _ _ (T34.setTop (mkF m 36 #[.val (.ref a), .val (.ref ar), .val (.int (0 : Int32)), .val (.int (2 : Int32)), .val .null, .unset] [(.int (2 : Int32)), (.int (0 : Int32)), (.ref ar)]))
  refine Run.callS hS (by first | exact Nat.le_refl _ | (rw [e34]; exact (Nat.zero_le _))) X34 hx hZ (y := (⟨"java/lang/StringUTF16", "compress", "([CII)[B"⟩ : MethodName)) hown (hw _ (List.mem_of_getElem? (i := 172) rfl)) (hw _ (List.mem_of_getElem? (i := 173) rfl)) (hw _ (List.mem_of_getElem? (i := 174) rfl)) (hw _ (List.mem_of_getElem? (i := 175) rfl)) (by decide) (W := 0) (rmC1_2 l Z a0 hw _ ar kc c0 c1 h0 n0 (Nat.le_trans Z0 (Keep.refl h0 [a]).1) AC q0 q1) e34 (by decide) (by decide) (by decide) (by decide) (fun _ q => q.interned_eq) (g := (mkF m 36 #[.val (.ref a), .val (.ref ar), .val (.int (0 : Int32)), .val (.int (2 : Int32)), .val .null, .unset] [(.int (2 : Int32)), (.int (0 : Int32)), (.ref ar)])) rfl (by rw [hml]; rfl) (argsL := [(.ref ar), (.int (0 : Int32)), (.int (2 : Int32))]) (rest := []) (lenOf pd_1 rfl) rfl (by show 2 * 0 + _ ≤ _; exact Nat.le_of_eq rfl) (hb hby d3_36) ?_
  intro v35 T35 L35 X35 hS hZ hown hV35 hQ35
  obtain ⟨b35, k35, rfl, Nq35, Kc35, sz35, vb35, hI35⟩ := hQ35
  have N35 := Fr.app N0 Nq35
  have hI := hI35.trans hI
  have K35 : Keep h0 T35.heap [a] := (Keep.refl h0 [a]).trans Kc35 all0
  have sz_b35 : h0.size ≤ b35 := Nat.le_trans (Keep.refl h0 [a]).1 sz35
  have gn_b35 : n0 ≤ b35 := Nat.le_trans Z0 sz_b35
  show Run p e below s _ _ _ (T35.setTop (mkF m 39 #[.val (.ref a), .val (.ref ar), .val (.int (0 : Int32)), .val (.int (2 : Int32)), .val .null, .unset] [(.ref b35)]))
  refine Run.pre (fun _ k => XS.astore X35.here hx rfl (hb hby d3_39) rfl rfl (l' := #[.val (.ref a), .val (.ref ar), .val (.int (0 : Int32)), .val (.int (2 : Int32)), .val .null, .val (.ref b35)]) rfl k) ?_
  show Run p e below s _ _ _ (T35.setTop (mkF m 41 #[.val (.ref a), .val (.ref ar), .val (.int (0 : Int32)), .val (.int (2 : Int32)), .val .null, .val (.ref b35)] []))
  refine Run.pre (fun _ k => XS.aloadN X35.here hx rfl (hb hby d3_41) rfl rfl k) ?_
  show Run p e below s _ _ _ (T35.setTop (mkF m 42 #[.val (.ref a), .val (.ref ar), .val (.int (0 : Int32)), .val (.int (2 : Int32)), .val .null, .val (.ref b35)] [(.ref a)]))
  refine Run.pre (fun _ k => XS.aload X35.here hx rfl (hb hby d3_42) rfl rfl k) ?_
  show Run p e below s _ _ _ (T35.setTop (mkF m 44 #[.val (.ref a), .val (.ref ar), .val (.int (0 : Int32)), .val (.int (2 : Int32)), .val .null, .val (.ref b35)] [(.ref b35), (.ref a)]))
  refine Run.pre (fun _ k => XS.iloadN X35.here hx rfl (hb hby d3_44) rfl  k) ?_
  show Run p e below s _ _ _ (T35.setTop (mkF m 45 #[.val (.ref a), .val (.ref ar), .val (.int (0 : Int32)), .val (.int (2 : Int32)), .val .null, .val (.ref b35)] [(.int (2 : Int32)), (.ref b35), (.ref a)]))
  refine Run.callS hS (Nat.le_refl _) X35 hx hZ (y := (⟨"java/lang/StringUTF16", "coderFromArrayLen", "([BI)B"⟩ : MethodName)) hown (hw _ (List.mem_of_getElem? (i := 179) rfl)) (hw _ (List.mem_of_getElem? (i := 180) rfl)) (hw _ (List.mem_of_getElem? (i := 174) rfl)) (hw _ (List.mem_of_getElem? (i := 181) rfl)) (by decide) (W := 1) (rmCo_2 l Z a0 hw _ b35 k35 c0 c1 T35.heap n0 (Nat.le_trans Z0 K35.1) vb35) rfl (by decide) (by decide) (by decide) (by decide) (fun _ q => q.interned_eq) (g := (mkF m 45 #[.val (.ref a), .val (.ref ar), .val (.int (0 : Int32)), .val (.int (2 : Int32)), .val .null, .val (.ref b35)] [(.int (2 : Int32)), (.ref b35), (.ref a)])) rfl (by rw [hml]; rfl) (argsL := [(.ref b35), (.int (2 : Int32))]) (rest := [(.ref a)]) (lenOf pd_2 rfl) rfl (by show 2 * 0 + _ ≤ _; exact Nat.le_of_eq rfl) (hb hby d3_45) ?_
  intro v36 T36 L36 X36 hS hZ hown hV36 hQ36
  obtain ⟨rfl, Nq36, he36, hI36⟩ := hQ36
  have N36 := Fr.app N35 Nq36
  have hI := hI36.trans hI
  have e36 : T36.heap = T35.heap := he36
  show Run p e below s _ _ _ (T36.setTop (mkF m 48 #[.val (.ref a), .val (.ref ar), .val (.int (0 : Int32)), .val (.int (2 : Int32)), .val .null, .val (.ref b35)] [(.int (0 : Int32)), (.ref a)]))
  have f37 := (E_a.keep Kc35)
  have f38 := (FCo.keep Kc35 nin0)
  obtain ⟨T39, h39, X39, e39, W39, st39⟩ := putFN X36 hx hZ hown (hw _ (List.mem_of_getElem? (i := 25) rfl)) Via.refl e36 f38 f37 (Or.inr ⟨(hw _ (List.mem_of_getElem? (i := 21) rfl)), rfl, hnm⟩) (hw _ (List.mem_of_getElem? (i := 5) rfl)) (ty := .byte) (v' := (.int (nar .byte (0 : Int32)))) (by decide) rfl (fits_nar_byte _) (g := (mkF m 48 #[.val (.ref a), .val (.ref ar), .val (.int (0 : Int32)), .val (.int (2 : Int32)), .val .null, .val (.ref b35)] [(.int (0 : Int32)), (.ref a)])) rfl rfl (hb hby d3_48)
  refine Run.pre st39 ?_
  have Fw39 := f38.same W39
  have K39 : Keep h0 h39 [a] := K35.wr W39 (Or.inl (by simp))
  have N39 := Fr.snoc X39 N36 g_a
  show Run p e below s _ _ _ (T39.setTop (mkF m 51 #[.val (.ref a), .val (.ref ar), .val (.int (0 : Int32)), .val (.int (2 : Int32)), .val .null, .val (.ref b35)] []))
  refine Run.pre (fun _ k => XS.aloadN X39.here hx rfl (hb hby d3_51) rfl rfl k) ?_
  show Run p e below s _ _ _ (T39.setTop (mkF m 52 #[.val (.ref a), .val (.ref ar), .val (.int (0 : Int32)), .val (.int (2 : Int32)), .val .null, .val (.ref b35)] [(.ref a)]))
  refine Run.pre (fun _ k => XS.aload X39.here hx rfl (hb hby d3_52) rfl rfl k) ?_
  show Run p e below s _ _ _ (T39.setTop (mkF m 54 #[.val (.ref a), .val (.ref ar), .val (.int (0 : Int32)), .val (.int (2 : Int32)), .val .null, .val (.ref b35)] [(.ref b35), (.ref a)]))
  have f40 := (f37.wr W39)
  have f41 := ((FV.keep Kc35 nin0).other W39 (Or.inr (slot_ne (Or.inr (hw _ (List.mem_of_getElem? (i := 20) rfl))) (Or.inr (hw _ (List.mem_of_getElem? (i := 21) rfl))) (by decide) (t := (.array .byte)) (t' := .byte) (by decide) (by decide))))
  obtain ⟨T42, h42, X42, e42, W42, st42⟩ := putF X39 hx hZ hown (host := "") (Or.inl (hw _ (List.mem_of_getElem? (i := 24) rfl))) Via.refl e39 f41 f40 (Or.inr ⟨(hw _ (List.mem_of_getElem? (i := 20) rfl)), rfl, hnm⟩) (hw _ (List.mem_of_getElem? (i := 5) rfl)) (ty := (.array .byte)) (by decide) rfl rfl (g := (mkF m 54 #[.val (.ref a), .val (.ref ar), .val (.int (0 : Int32)), .val (.int (2 : Int32)), .val .null, .val (.ref b35)] [(.ref b35), (.ref a)])) rfl rfl (hb hby d3_54)
  refine Run.pre st42 ?_
  have Fw42 := f41.same W42
  have K42 : Keep h0 h42 [a] := K39.wr W42 (Or.inl (by simp))
  have N42 := Fr.snoc X42 N39 g_a
  show Run p e below s _ _ _ (T42.setTop (mkF m 57 #[.val (.ref a), .val (.ref ar), .val (.int (0 : Int32)), .val (.int (2 : Int32)), .val .null, .val (.ref b35)] []))
  have f43 := (Fw39.other W42 (Or.inr (slot_ne (Or.inr (hw _ (List.mem_of_getElem? (i := 21) rfl))) (Or.inr (hw _ (List.mem_of_getElem? (i := 20) rfl))) (by decide) (t := .byte) (t' := (.array .byte)) (by decide) (by decide))))
  have f44 := ((vb35.other W39 (Ne.symm (Nat.ne_of_lt (Nat.lt_of_lt_of_le E_a.lt sz35)))).other W42 (Ne.symm (Nat.ne_of_lt (Nat.lt_of_lt_of_le E_a.lt sz35))))
  exact Run.retV hS (by first | exact Nat.le_refl _ | (rw [e42]; exact (Nat.le_trans (Nat.le_trans (Nat.le_of_eq (congrArg Array.size e36)) (Keep.of_wr W39).1) (Keep.of_wr W42).1))) X42 hx hret hlk (hb hby d3_57) (by first | (rw [e42]; exact ⟨b35, k35, rfl, N42, K42, sz_b35, f43, Fw42, f44, X42.warmed.interned_eq.trans hI⟩) | exact ⟨b35, k35, rfl, N42, K42, sz_b35, f43, Fw42, f44, X42.warmed.interned_eq.trans hI⟩) (by decide) (by decide)
set_option maxRecDepth 65536 in
set_option maxHeartbeats 40000000 in
theorem rmI_2 (l : Launch) (Z : State) (a0 : Array Value) (hw : ∀ d ∈ tables_1, d.before a0 Z = true) (I0 : Array (Array UInt16 × Addr)) (a : Addr) (ar : Addr) (kc : ClassId) (c0 : Int32) (c1 : Int32) (cs : Int32) (h0 : Heap) (n0 : Nat) (Z0 : n0 ≤ h0.size) (OL : Old Z n0 h0) (SC : Sta Z Z.heap "java/lang/String" "COMPACT_STRINGS" "Z" (.int cs)) (hcs : ¬ cs = 0) (AC : Arv Z h0 ar kc .char 2 [(.int c0), (.int c1)] (.int 0)) (E_a : Exa Z h0 a "java/lang/String") (FV : Fld Z h0 a "java/lang/String" "value" "[B" .null) (FCo : Fld Z h0 a "java/lang/String" "coder" "B" (.int 0)) (g_a : n0 ≤ a) (nar_ : ar ≠ a) (q0 : ¬ (255 : Int32) < c0) (q1 : ¬ (255 : Int32) < c1) :
    Con l (⟨"java/lang/String", "<init>", "([C)V"⟩ : MethodName) jdk_42_method_3_code 2 none ({ frames := 3, cells := 1, slots := 2, locals := 52 } : Room) Z #[(.ref a), (.ref ar)] h0 (fun vm => vm.interned = I0) (fun v h L vm => ∃ b : Addr, ∃ k : ClassId, v = none ∧ Fr n0 L ∧ Keep h0 h [a] ∧ h0.size ≤ b ∧ Fld Z h a "java/lang/String" "coder" "B" (.int 0) ∧ Fld Z h a "java/lang/String" "value" "[B" (.ref b) ∧ Arv Z h b k .byte 2 [(.int (nar .byte (c0.toInt8.toInt32))), (.int (nar .byte (c1.toInt8.toInt32)))] (.int 0) ∧ vm.interned = I0) := by
  refine Con.mk (plainFor_of_name pn_2) (fun m => show entryFrame m #[(.ref a), (.ref ar)] 2 = mkF m 0 #[.val (.ref a), .val (.ref ar)] [] by first | (simp [entryFrame, mkF, argsToLocals, Value.category]; done) | rfl) ?_
  intro p e s m below meth c s₁ vm0 hx hby hml hown hnm hret hlk hZ X0 e0 hS hs0 hP0
  have N0 := Fr.nil n0
  have hI : vm0.interned = I0 := hP0
  show Run p e below s _ _ _ (s₁.setTop (mkF m 0 #[.val (.ref a), .val (.ref ar)] []))
  refine Run.pre (fun _ k => XS.aloadN X0.here hx rfl (hb hby d2_0) rfl rfl k) ?_
  show Run p e below s _ _ _ (s₁.setTop (mkF m 1 #[.val (.ref a), .val (.ref ar)] [(.ref a)]))
  refine Run.pre (fun _ k => XS.aloadN X0.here hx rfl (hb hby d2_1) rfl rfl k) ?_
  show Run p e below s _ _ _ (s₁.setTop (mkF m 2 #[.val (.ref a), .val (.ref ar)] [(.ref ar), (.ref a)]))
  refine Run.pre (fun _ k => XS.iconst X0.here hx rfl (hb hby d2_2) k) ?_
  show Run p e below s _ _ _ (s₁.setTop (mkF m 3 #[.val (.ref a), .val (.ref ar)] [(.int (0 : Int32)), (.ref ar), (.ref a)]))
  refine Run.pre (fun _ k => XS.aloadN X0.here hx rfl (hb hby d2_3) rfl rfl k) ?_
  show Run p e below s _ _ _ (s₁.setTop (mkF m 4 #[.val (.ref a), .val (.ref ar)] [(.ref ar), (.int (0 : Int32)), (.ref ar), (.ref a)]))
  obtain ⟨c45, Ar45, -, S45, N45, -, -⟩ := id AC
  refine Run.pre (X0.arraylength hx (by rw [e0]; exact Ar45.1) (State.isArrayOf_alike hZ.alike Ar45.2.1) (g := (mkF m 4 #[.val (.ref a), .val (.ref ar)] [(.ref ar), (.int (0 : Int32)), (.ref ar), (.ref a)])) rfl rfl (hb hby d2_4)) ?_
  rw [len_of S45 N45]
  show Run p e below s _ _ _ (s₁.setTop (mkF m 5 #[.val (.ref a), .val (.ref ar)] [(.int (2 : Int32)), (.int (0 : Int32)), (.ref ar), (.ref a)]))
  refine Run.pre (fun _ k => XS.aconstNull X0.here hx rfl (hb hby d2_5) k) ?_
  show Run p e below s _ _ _ (s₁.setTop (mkF m 6 #[.val (.ref a), .val (.ref ar)] [.null, (.int (2 : Int32)), (.int (0 : Int32)), (.ref ar), (.ref a)]))
  refine Run.callI hS (by first | exact Nat.le_refl _ | (rw [e0]; exact (Nat.zero_le _))) X0 hx hZ (y := (⟨"java/lang/String", "<init>", "([CIILjava/lang/Void;)V"⟩ : MethodName)) rfl hown (hw _ (List.mem_of_getElem? (i := 11) rfl)) (hw _ (List.mem_of_getElem? (i := 12) rfl)) (hw _ (List.mem_of_getElem? (i := 14) rfl)) (hw _ (List.mem_of_getElem? (i := 6) rfl)) (by decide) (a := a) (W := 0) (rmI4_2 l Z a0 hw _ a ar kc c0 c1 cs h0 n0 (Nat.le_trans Z0 (Keep.refl h0 [a]).1) OL SC hcs AC E_a FV FCo g_a nar_ q0 q1) e0 (by decide) (by decide) (by decide) (by decide) (fun _ q => q.interned_eq) (g := (mkF m 6 #[.val (.ref a), .val (.ref ar)] [.null, (.int (2 : Int32)), (.int (0 : Int32)), (.ref ar), (.ref a)])) rfl (by rw [hml]; rfl) (argsL := [(.ref ar), (.int (0 : Int32)), (.int (2 : Int32)), .null]) (rest := []) (lenOf pd_3 rfl) rfl (by show 2 * 0 + _ ≤ _; exact Nat.le_of_eq rfl) (hb hby d2_6) ?_
  intro v46 T46 L46 X46 hS hZ hown hV46 hQ46
  obtain ⟨b46, k46, rfl, Nq46, Kc46, sz46, fc46, fv46, vb46, hI46⟩ := hQ46
  have N46 := Fr.app N0 Nq46
  have hI := hI46.trans hI
  have K46 : Keep h0 T46.heap [a] := (Keep.refl h0 [a]).trans Kc46 (allS (Or.inl (by simp)) all0)
  have sz_b46 : h0.size ≤ b46 := Nat.le_trans (Keep.refl h0 [a]).1 sz46
  have gn_b46 : n0 ≤ b46 := Nat.le_trans Z0 sz_b46
  show Run p e below s _ _ _ (T46.setTop (mkF m 9 #[.val (.ref a), .val (.ref ar)] []))
  exact Run.retV hS (Nat.le_refl _) X46 hx hret hlk (hb hby d2_9) ⟨b46, k46, rfl, N46, K46, sz_b46, fc46, fv46, vb46, X46.warmed.interned_eq.trans hI⟩ (by decide) (by decide)
set_option maxRecDepth 65536 in
set_option maxHeartbeats 40000000 in
theorem rmC2_3 (l : Launch) (Z : State) (a0 : Array Value) (hw : ∀ d ∈ tables_1, d.before a0 Z = true) (I0 : Array (Array UInt16 × Addr)) (ar : Addr) (ds : Addr) (kc : ClassId) (kb : ClassId) (c0 : Int32) (c1 : Int32) (c2 : Int32) (h0 : Heap) (n0 : Nat) (Z0 : n0 ≤ h0.size) (AC : Arv Z h0 ar kc .char 3 [(.int c0), (.int c1), (.int c2)] (.int 0)) (AB : Arv Z h0 ds kb .byte 3 [(.int (0 : Int32)), (.int (0 : Int32)), (.int (0 : Int32))] (.int 0)) (nad : ar ≠ ds) (g_ds : n0 ≤ ds) (q0 : ¬ (255 : Int32) < c0) (q1 : ¬ (255 : Int32) < c1) (q2 : ¬ (255 : Int32) < c2) :
    Con l (⟨"java/lang/StringUTF16", "compress", "([CI[BII)I"⟩ : MethodName) jdk_52_method_21_code 7 (some .int) ({ frames := 0, cells := 0, slots := 0, locals := 0 } : Room) Z #[(.ref ar), (.int (0 : Int32)), (.ref ds), (.int (0 : Int32)), (.int (3 : Int32))] h0 (fun vm => vm.interned = I0) (fun v h L vm => v = some (.int 3) ∧ Fr n0 L ∧ Keep h0 h [ds] ∧ Arv Z h ds kb .byte 3 [(.int (nar .byte (c0.toInt8.toInt32))), (.int (nar .byte (c1.toInt8.toInt32))), (.int (nar .byte (c2.toInt8.toInt32)))] (.int 0) ∧ vm.interned = I0) := by
  refine Con.mk (plainFor_of_name pn_29) (fun m => show entryFrame m #[(.ref ar), (.int (0 : Int32)), (.ref ds), (.int (0 : Int32)), (.int (3 : Int32))] 7 = mkF m 0 #[.val (.ref ar), .val (.int (0 : Int32)), .val (.ref ds), .val (.int (0 : Int32)), .val (.int (3 : Int32)), .unset, .unset] [] by first | (simp [entryFrame, mkF, argsToLocals, Value.category]; done) | rfl) ?_
  intro p e s m below meth c s₁ vm0 hx hby hml hown hnm hret hlk hZ X0 e0 hS hs0 hP0
  have N0 := Fr.nil n0
  have hI : vm0.interned = I0 := hP0
  show Run p e below s _ _ _ (s₁.setTop (mkF m 0 #[.val (.ref ar), .val (.int (0 : Int32)), .val (.ref ds), .val (.int (0 : Int32)), .val (.int (3 : Int32)), .unset, .unset] []))
  refine Run.pre (fun _ k => XS.iconst X0.here hx rfl (hb hby d29_0) k) ?_
  show Run p e below s _ _ _ (s₁.setTop (mkF m 1 #[.val (.ref ar), .val (.int (0 : Int32)), .val (.ref ds), .val (.int (0 : Int32)), .val (.int (3 : Int32)), .unset, .unset] [(.int (0 : Int32))]))
  refine Run.pre (fun _ k => XS.istore X0.here hx rfl (hb hby d29_1) rfl (l' := #[.val (.ref ar), .val (.int (0 : Int32)), .val (.ref ds), .val (.int (0 : Int32)), .val (.int (3 : Int32)), .val (.int (0 : Int32)), .unset]) rfl k) ?_
  show Run p e below s _ _ _ (s₁.setTop (mkF m 3 #[.val (.ref ar), .val (.int (0 : Int32)), .val (.ref ds), .val (.int (0 : Int32)), .val (.int (3 : Int32)), .val (.int (0 : Int32)), .unset] []))
  refine Run.pre (fun _ k => XS.iload X0.here hx rfl (hb hby d29_3) rfl  k) ?_
  show Run p e below s _ _ _ (s₁.setTop (mkF m 5 #[.val (.ref ar), .val (.int (0 : Int32)), .val (.ref ds), .val (.int (0 : Int32)), .val (.int (3 : Int32)), .val (.int (0 : Int32)), .unset] [(.int (0 : Int32))]))
  refine Run.pre (fun _ k => XS.iload X0.here hx rfl (hb hby d29_5) rfl  k) ?_
  show Run p e below s _ _ _ (s₁.setTop (mkF m 7 #[.val (.ref ar), .val (.int (0 : Int32)), .val (.ref ds), .val (.int (0 : Int32)), .val (.int (3 : Int32)), .val (.int (0 : Int32)), .unset] [(.int (3 : Int32)), (.int (0 : Int32))]))
  refine Run.pre (fun _ k => XS.icmpNo X0.here hx rfl (hb hby d29_7) rfl (tlt ((by decide) : (0 : Int32) < (3 : Int32))).2.1 k) ?_
  show Run p e below s _ _ _ (s₁.setTop (mkF m 10 #[.val (.ref ar), .val (.int (0 : Int32)), .val (.ref ds), .val (.int (0 : Int32)), .val (.int (3 : Int32)), .val (.int (0 : Int32)), .unset] []))
  refine Run.pre (fun _ k => XS.aloadN X0.here hx rfl (hb hby d29_10) rfl rfl k) ?_
  show Run p e below s _ _ _ (s₁.setTop (mkF m 11 #[.val (.ref ar), .val (.int (0 : Int32)), .val (.ref ds), .val (.int (0 : Int32)), .val (.int (3 : Int32)), .val (.int (0 : Int32)), .unset] [(.ref ar)]))
  refine Run.pre (fun _ k => XS.iloadN X0.here hx rfl (hb hby d29_11) rfl  k) ?_
  show Run p e below s _ _ _ (s₁.setTop (mkF m 12 #[.val (.ref ar), .val (.int (0 : Int32)), .val (.ref ds), .val (.int (0 : Int32)), .val (.int (3 : Int32)), .val (.int (0 : Int32)), .unset] [(.int (0 : Int32)), (.ref ar)]))
  obtain ⟨c47, Ar47, -, S47, N47, H47, -⟩ := id AC
  have hin47 : ¬ ((0 : Int32) < 0 ∨ c47.slots.size ≤ ((0 : Int32)).toNatClampNeg) := inb_of S47 ⟨by decide, by decide⟩
  refine Run.pre (X0.caload hx (j := (0 : Int32)) (v := (.int c0)) (by rw [e0]; exact Ar47.1) (State.isArrayOf_alike hZ.alike Ar47.2.1) Ar47.2.2 hin47 (H47.at hin47 rfl) (g := (mkF m 12 #[.val (.ref ar), .val (.int (0 : Int32)), .val (.ref ds), .val (.int (0 : Int32)), .val (.int (3 : Int32)), .val (.int (0 : Int32)), .unset] [(.int (0 : Int32)), (.ref ar)])) rfl rfl (hb hby d29_12)) ?_
  show Run p e below s _ _ _ (s₁.setTop (mkF m 13 #[.val (.ref ar), .val (.int (0 : Int32)), .val (.ref ds), .val (.int (0 : Int32)), .val (.int (3 : Int32)), .val (.int (0 : Int32)), .unset] [(.int c0)]))
  refine Run.pre (fun _ k => XS.istore X0.here hx rfl (hb hby d29_13) rfl (l' := #[.val (.ref ar), .val (.int (0 : Int32)), .val (.ref ds), .val (.int (0 : Int32)), .val (.int (3 : Int32)), .val (.int (0 : Int32)), .val (.int c0)]) rfl k) ?_
  show Run p e below s _ _ _ (s₁.setTop (mkF m 15 #[.val (.ref ar), .val (.int (0 : Int32)), .val (.ref ds), .val (.int (0 : Int32)), .val (.int (3 : Int32)), .val (.int (0 : Int32)), .val (.int c0)] []))
  refine Run.pre (fun _ k => XS.iload X0.here hx rfl (hb hby d29_15) rfl  k) ?_
  show Run p e below s _ _ _ (s₁.setTop (mkF m 17 #[.val (.ref ar), .val (.int (0 : Int32)), .val (.ref ds), .val (.int (0 : Int32)), .val (.int (3 : Int32)), .val (.int (0 : Int32)), .val (.int c0)] [(.int c0)]))
  refine Run.pre (fun _ k => XS.sipush X0.here hx rfl (hb hby d29_17) k) ?_
  show Run p e below s _ _ _ (s₁.setTop (mkF m 20 #[.val (.ref ar), .val (.int (0 : Int32)), .val (.ref ds), .val (.int (0 : Int32)), .val (.int (3 : Int32)), .val (.int (0 : Int32)), .val (.int c0)] [(.int (255 : Int32)), (.int c0)]))
  refine Run.pre (fun _ k => XS.icmpYes X0.here hx rfl (pc0 := 20) (pc' := 26) rfl (hb hby d29_20) rfl (flt (q0 : ¬ ((255 : Int32) < c0))).2.2.2 (by decide) (by decide) k) ?_
  show Run p e below s _ _ _ (s₁.setTop (mkF m 26 #[.val (.ref ar), .val (.int (0 : Int32)), .val (.ref ds), .val (.int (0 : Int32)), .val (.int (3 : Int32)), .val (.int (0 : Int32)), .val (.int c0)] []))
  refine Run.pre (fun _ k => XS.aloadN X0.here hx rfl (hb hby d29_26) rfl rfl k) ?_
  show Run p e below s _ _ _ (s₁.setTop (mkF m 27 #[.val (.ref ar), .val (.int (0 : Int32)), .val (.ref ds), .val (.int (0 : Int32)), .val (.int (3 : Int32)), .val (.int (0 : Int32)), .val (.int c0)] [(.ref ds)]))
  refine Run.pre (fun _ k => XS.iloadN X0.here hx rfl (hb hby d29_27) rfl  k) ?_
  show Run p e below s _ _ _ (s₁.setTop (mkF m 28 #[.val (.ref ar), .val (.int (0 : Int32)), .val (.ref ds), .val (.int (0 : Int32)), .val (.int (3 : Int32)), .val (.int (0 : Int32)), .val (.int c0)] [(.int (0 : Int32)), (.ref ds)]))
  refine Run.pre (fun _ k => XS.iload X0.here hx rfl (hb hby d29_28) rfl  k) ?_
  show Run p e below s _ _ _ (s₁.setTop (mkF m 30 #[.val (.ref ar), .val (.int (0 : Int32)), .val (.ref ds), .val (.int (0 : Int32)), .val (.int (3 : Int32)), .val (.int (0 : Int32)), .val (.int c0)] [(.int c0), (.int (0 : Int32)), (.ref ds)]))
  refine Run.pre (fun _ k => XS.i2b X0.here hx rfl (hb hby d29_30) rfl k) ?_
  show Run p e below s _ _ _ (s₁.setTop (mkF m 31 #[.val (.ref ar), .val (.int (0 : Int32)), .val (.ref ds), .val (.int (0 : Int32)), .val (.int (3 : Int32)), .val (.int (0 : Int32)), .val (.int c0)] [(.int (c0.toInt8.toInt32)), (.int (0 : Int32)), (.ref ds)]))
  obtain ⟨c48, Ar48, q48, S48, N48, H48, G48⟩ := id AB
  have hin48 : ¬ ((0 : Int32) < 0 ∨ c48.slots.size ≤ ((0 : Int32)).toNatClampNeg) := inb_of S48 ⟨by decide, by decide⟩
  obtain ⟨T49, h49, X49, e49, W49, st49⟩ := stB X0 hx hZ e0 Ar48 (j := (0 : Int32)) hin48 (g := (mkF m 31 #[.val (.ref ar), .val (.int (0 : Int32)), .val (.ref ds), .val (.int (0 : Int32)), .val (.int (3 : Int32)), .val (.int (0 : Int32)), .val (.int c0)] [(.int (c0.toInt8.toInt32)), (.int (0 : Int32)), (.ref ds)])) rfl rfl (hb hby d29_31)
  refine Run.pre st49 ?_
  have V_ds_49 : Arv Z h49 ds kb .byte (3 : Int32) [(.int (nar .byte (c0.toInt8.toInt32))), (.int (0 : Int32)), (.int (0 : Int32))] (.int (0 : Int32)) := Arv.set Ar48 q48 S48 N48 H48 G48 (fits_nar_byte _) W49 0 rfl (Nat.le_of_ble_eq_true rfl)
  have K49 : Keep h0 h49 [ds] := (Keep.refl h0 [ds]).wr W49 (Or.inl (by simp))
  have N49 := Fr.snoc X49 N0 g_ds
  show Run p e below s _ _ _ (T49.setTop (mkF m 32 #[.val (.ref ar), .val (.int (0 : Int32)), .val (.ref ds), .val (.int (0 : Int32)), .val (.int (3 : Int32)), .val (.int (0 : Int32)), .val (.int c0)] []))
  refine Run.pre (fun _ k => XS.iinc X49.here hx rfl (hb hby d29_32) rfl (l' := #[.val (.ref ar), .val (.int (1 : Int32)), .val (.ref ds), .val (.int (0 : Int32)), .val (.int (3 : Int32)), .val (.int (0 : Int32)), .val (.int c0)]) rfl k) ?_
  show Run p e below s _ _ _ (T49.setTop (mkF m 35 #[.val (.ref ar), .val (.int (1 : Int32)), .val (.ref ds), .val (.int (0 : Int32)), .val (.int (3 : Int32)), .val (.int (0 : Int32)), .val (.int c0)] []))
  refine Run.pre (fun _ k => XS.iinc X49.here hx rfl (hb hby d29_35) rfl (l' := #[.val (.ref ar), .val (.int (1 : Int32)), .val (.ref ds), .val (.int (1 : Int32)), .val (.int (3 : Int32)), .val (.int (0 : Int32)), .val (.int c0)]) rfl k) ?_
  show Run p e below s _ _ _ (T49.setTop (mkF m 38 #[.val (.ref ar), .val (.int (1 : Int32)), .val (.ref ds), .val (.int (1 : Int32)), .val (.int (3 : Int32)), .val (.int (0 : Int32)), .val (.int c0)] []))
  refine Run.pre (fun _ k => XS.iinc X49.here hx rfl (hb hby d29_38) rfl (l' := #[.val (.ref ar), .val (.int (1 : Int32)), .val (.ref ds), .val (.int (1 : Int32)), .val (.int (3 : Int32)), .val (.int (1 : Int32)), .val (.int c0)]) rfl k) ?_
  show Run p e below s _ _ _ (T49.setTop (mkF m 41 #[.val (.ref ar), .val (.int (1 : Int32)), .val (.ref ds), .val (.int (1 : Int32)), .val (.int (3 : Int32)), .val (.int (1 : Int32)), .val (.int c0)] []))
  refine Run.pre (fun _ k => XS.goto X49.here hx rfl (pc0 := 41) (pc' := 3) rfl (hb hby d29_41) (by decide) (by decide) k) ?_
  show Run p e below s _ _ _ (T49.setTop (mkF m 3 #[.val (.ref ar), .val (.int (1 : Int32)), .val (.ref ds), .val (.int (1 : Int32)), .val (.int (3 : Int32)), .val (.int (1 : Int32)), .val (.int c0)] []))
  refine Run.pre (fun _ k => XS.iload X49.here hx rfl (hb hby d29_3) rfl  k) ?_
  show Run p e below s _ _ _ (T49.setTop (mkF m 5 #[.val (.ref ar), .val (.int (1 : Int32)), .val (.ref ds), .val (.int (1 : Int32)), .val (.int (3 : Int32)), .val (.int (1 : Int32)), .val (.int c0)] [(.int (1 : Int32))]))
  refine Run.pre (fun _ k => XS.iload X49.here hx rfl (hb hby d29_5) rfl  k) ?_
  show Run p e below s _ _ _ (T49.setTop (mkF m 7 #[.val (.ref ar), .val (.int (1 : Int32)), .val (.ref ds), .val (.int (1 : Int32)), .val (.int (3 : Int32)), .val (.int (1 : Int32)), .val (.int c0)] [(.int (3 : Int32)), (.int (1 : Int32))]))
  refine Run.pre (fun _ k => XS.icmpNo X49.here hx rfl (hb hby d29_7) rfl (tlt ((by decide) : (1 : Int32) < (3 : Int32))).2.1 k) ?_
  show Run p e below s _ _ _ (T49.setTop (mkF m 10 #[.val (.ref ar), .val (.int (1 : Int32)), .val (.ref ds), .val (.int (1 : Int32)), .val (.int (3 : Int32)), .val (.int (1 : Int32)), .val (.int c0)] []))
  refine Run.pre (fun _ k => XS.aloadN X49.here hx rfl (hb hby d29_10) rfl rfl k) ?_
  show Run p e below s _ _ _ (T49.setTop (mkF m 11 #[.val (.ref ar), .val (.int (1 : Int32)), .val (.ref ds), .val (.int (1 : Int32)), .val (.int (3 : Int32)), .val (.int (1 : Int32)), .val (.int c0)] [(.ref ar)]))
  refine Run.pre (fun _ k => XS.iloadN X49.here hx rfl (hb hby d29_11) rfl  k) ?_
  show Run p e below s _ _ _ (T49.setTop (mkF m 12 #[.val (.ref ar), .val (.int (1 : Int32)), .val (.ref ds), .val (.int (1 : Int32)), .val (.int (3 : Int32)), .val (.int (1 : Int32)), .val (.int c0)] [(.int (1 : Int32)), (.ref ar)]))
  have f50 := (AC.other W49 nad)
  obtain ⟨c51, Ar51, -, S51, N51, H51, -⟩ := id f50
  have hin51 : ¬ ((1 : Int32) < 0 ∨ c51.slots.size ≤ ((1 : Int32)).toNatClampNeg) := inb_of S51 ⟨by decide, by decide⟩
  refine Run.pre (X49.caload hx (j := (1 : Int32)) (v := (.int c1)) (by rw [e49]; exact Ar51.1) (State.isArrayOf_alike hZ.alike Ar51.2.1) Ar51.2.2 hin51 (H51.at hin51 rfl) (g := (mkF m 12 #[.val (.ref ar), .val (.int (1 : Int32)), .val (.ref ds), .val (.int (1 : Int32)), .val (.int (3 : Int32)), .val (.int (1 : Int32)), .val (.int c0)] [(.int (1 : Int32)), (.ref ar)])) rfl rfl (hb hby d29_12)) ?_
  show Run p e below s _ _ _ (T49.setTop (mkF m 13 #[.val (.ref ar), .val (.int (1 : Int32)), .val (.ref ds), .val (.int (1 : Int32)), .val (.int (3 : Int32)), .val (.int (1 : Int32)), .val (.int c0)] [(.int c1)]))
  refine Run.pre (fun _ k => XS.istore X49.here hx rfl (hb hby d29_13) rfl (l' := #[.val (.ref ar), .val (.int (1 : Int32)), .val (.ref ds), .val (.int (1 : Int32)), .val (.int (3 : Int32)), .val (.int (1 : Int32)), .val (.int c1)]) rfl k) ?_
  show Run p e below s _ _ _ (T49.setTop (mkF m 15 #[.val (.ref ar), .val (.int (1 : Int32)), .val (.ref ds), .val (.int (1 : Int32)), .val (.int (3 : Int32)), .val (.int (1 : Int32)), .val (.int c1)] []))
  refine Run.pre (fun _ k => XS.iload X49.here hx rfl (hb hby d29_15) rfl  k) ?_
  show Run p e below s _ _ _ (T49.setTop (mkF m 17 #[.val (.ref ar), .val (.int (1 : Int32)), .val (.ref ds), .val (.int (1 : Int32)), .val (.int (3 : Int32)), .val (.int (1 : Int32)), .val (.int c1)] [(.int c1)]))
  refine Run.pre (fun _ k => XS.sipush X49.here hx rfl (hb hby d29_17) k) ?_
  show Run p e below s _ _ _ (T49.setTop (mkF m 20 #[.val (.ref ar), .val (.int (1 : Int32)), .val (.ref ds), .val (.int (1 : Int32)), .val (.int (3 : Int32)), .val (.int (1 : Int32)), .val (.int c1)] [(.int (255 : Int32)), (.int c1)]))
  refine Run.pre (fun _ k => XS.icmpYes X49.here hx rfl (pc0 := 20) (pc' := 26) rfl (hb hby d29_20) rfl (flt (q1 : ¬ ((255 : Int32) < c1))).2.2.2 (by decide) (by decide) k) ?_
  show Run p e below s _ _ _ (T49.setTop (mkF m 26 #[.val (.ref ar), .val (.int (1 : Int32)), .val (.ref ds), .val (.int (1 : Int32)), .val (.int (3 : Int32)), .val (.int (1 : Int32)), .val (.int c1)] []))
  refine Run.pre (fun _ k => XS.aloadN X49.here hx rfl (hb hby d29_26) rfl rfl k) ?_
  show Run p e below s _ _ _ (T49.setTop (mkF m 27 #[.val (.ref ar), .val (.int (1 : Int32)), .val (.ref ds), .val (.int (1 : Int32)), .val (.int (3 : Int32)), .val (.int (1 : Int32)), .val (.int c1)] [(.ref ds)]))
  refine Run.pre (fun _ k => XS.iloadN X49.here hx rfl (hb hby d29_27) rfl  k) ?_
  show Run p e below s _ _ _ (T49.setTop (mkF m 28 #[.val (.ref ar), .val (.int (1 : Int32)), .val (.ref ds), .val (.int (1 : Int32)), .val (.int (3 : Int32)), .val (.int (1 : Int32)), .val (.int c1)] [(.int (1 : Int32)), (.ref ds)]))
  refine Run.pre (fun _ k => XS.iload X49.here hx rfl (hb hby d29_28) rfl  k) ?_
  show Run p e below s _ _ _ (T49.setTop (mkF m 30 #[.val (.ref ar), .val (.int (1 : Int32)), .val (.ref ds), .val (.int (1 : Int32)), .val (.int (3 : Int32)), .val (.int (1 : Int32)), .val (.int c1)] [(.int c1), (.int (1 : Int32)), (.ref ds)]))
  refine Run.pre (fun _ k => XS.i2b X49.here hx rfl (hb hby d29_30) rfl k) ?_
  show Run p e below s _ _ _ (T49.setTop (mkF m 31 #[.val (.ref ar), .val (.int (1 : Int32)), .val (.ref ds), .val (.int (1 : Int32)), .val (.int (3 : Int32)), .val (.int (1 : Int32)), .val (.int c1)] [(.int (c1.toInt8.toInt32)), (.int (1 : Int32)), (.ref ds)]))
  obtain ⟨c52, Ar52, q52, S52, N52, H52, G52⟩ := id V_ds_49
  have hin52 : ¬ ((1 : Int32) < 0 ∨ c52.slots.size ≤ ((1 : Int32)).toNatClampNeg) := inb_of S52 ⟨by decide, by decide⟩
  obtain ⟨T53, h53, X53, e53, W53, st53⟩ := stB X49 hx hZ e49 Ar52 (j := (1 : Int32)) hin52 (g := (mkF m 31 #[.val (.ref ar), .val (.int (1 : Int32)), .val (.ref ds), .val (.int (1 : Int32)), .val (.int (3 : Int32)), .val (.int (1 : Int32)), .val (.int c1)] [(.int (c1.toInt8.toInt32)), (.int (1 : Int32)), (.ref ds)])) rfl rfl (hb hby d29_31)
  refine Run.pre st53 ?_
  have V_ds_53 : Arv Z h53 ds kb .byte (3 : Int32) [(.int (nar .byte (c0.toInt8.toInt32))), (.int (nar .byte (c1.toInt8.toInt32))), (.int (0 : Int32))] (.int (0 : Int32)) := Arv.set Ar52 q52 S52 N52 H52 G52 (fits_nar_byte _) W53 1 rfl (Nat.le_of_ble_eq_true rfl)
  have K53 : Keep h0 h53 [ds] := K49.wr W53 (Or.inl (by simp))
  have N53 := Fr.snoc X53 N49 g_ds
  show Run p e below s _ _ _ (T53.setTop (mkF m 32 #[.val (.ref ar), .val (.int (1 : Int32)), .val (.ref ds), .val (.int (1 : Int32)), .val (.int (3 : Int32)), .val (.int (1 : Int32)), .val (.int c1)] []))
  refine Run.pre (fun _ k => XS.iinc X53.here hx rfl (hb hby d29_32) rfl (l' := #[.val (.ref ar), .val (.int (2 : Int32)), .val (.ref ds), .val (.int (1 : Int32)), .val (.int (3 : Int32)), .val (.int (1 : Int32)), .val (.int c1)]) rfl k) ?_
  show Run p e below s _ _ _ (T53.setTop (mkF m 35 #[.val (.ref ar), .val (.int (2 : Int32)), .val (.ref ds), .val (.int (1 : Int32)), .val (.int (3 : Int32)), .val (.int (1 : Int32)), .val (.int c1)] []))
  refine Run.pre (fun _ k => XS.iinc X53.here hx rfl (hb hby d29_35) rfl (l' := #[.val (.ref ar), .val (.int (2 : Int32)), .val (.ref ds), .val (.int (2 : Int32)), .val (.int (3 : Int32)), .val (.int (1 : Int32)), .val (.int c1)]) rfl k) ?_
  show Run p e below s _ _ _ (T53.setTop (mkF m 38 #[.val (.ref ar), .val (.int (2 : Int32)), .val (.ref ds), .val (.int (2 : Int32)), .val (.int (3 : Int32)), .val (.int (1 : Int32)), .val (.int c1)] []))
  refine Run.pre (fun _ k => XS.iinc X53.here hx rfl (hb hby d29_38) rfl (l' := #[.val (.ref ar), .val (.int (2 : Int32)), .val (.ref ds), .val (.int (2 : Int32)), .val (.int (3 : Int32)), .val (.int (2 : Int32)), .val (.int c1)]) rfl k) ?_
  show Run p e below s _ _ _ (T53.setTop (mkF m 41 #[.val (.ref ar), .val (.int (2 : Int32)), .val (.ref ds), .val (.int (2 : Int32)), .val (.int (3 : Int32)), .val (.int (2 : Int32)), .val (.int c1)] []))
  refine Run.pre (fun _ k => XS.goto X53.here hx rfl (pc0 := 41) (pc' := 3) rfl (hb hby d29_41) (by decide) (by decide) k) ?_
  show Run p e below s _ _ _ (T53.setTop (mkF m 3 #[.val (.ref ar), .val (.int (2 : Int32)), .val (.ref ds), .val (.int (2 : Int32)), .val (.int (3 : Int32)), .val (.int (2 : Int32)), .val (.int c1)] []))
  refine Run.pre (fun _ k => XS.iload X53.here hx rfl (hb hby d29_3) rfl  k) ?_
  show Run p e below s _ _ _ (T53.setTop (mkF m 5 #[.val (.ref ar), .val (.int (2 : Int32)), .val (.ref ds), .val (.int (2 : Int32)), .val (.int (3 : Int32)), .val (.int (2 : Int32)), .val (.int c1)] [(.int (2 : Int32))]))
  refine Run.pre (fun _ k => XS.iload X53.here hx rfl (hb hby d29_5) rfl  k) ?_
  show Run p e below s _ _ _ (T53.setTop (mkF m 7 #[.val (.ref ar), .val (.int (2 : Int32)), .val (.ref ds), .val (.int (2 : Int32)), .val (.int (3 : Int32)), .val (.int (2 : Int32)), .val (.int c1)] [(.int (3 : Int32)), (.int (2 : Int32))]))
  refine Run.pre (fun _ k => XS.icmpNo X53.here hx rfl (hb hby d29_7) rfl (tlt ((by decide) : (2 : Int32) < (3 : Int32))).2.1 k) ?_
  show Run p e below s _ _ _ (T53.setTop (mkF m 10 #[.val (.ref ar), .val (.int (2 : Int32)), .val (.ref ds), .val (.int (2 : Int32)), .val (.int (3 : Int32)), .val (.int (2 : Int32)), .val (.int c1)] []))
  refine Run.pre (fun _ k => XS.aloadN X53.here hx rfl (hb hby d29_10) rfl rfl k) ?_
  show Run p e below s _ _ _ (T53.setTop (mkF m 11 #[.val (.ref ar), .val (.int (2 : Int32)), .val (.ref ds), .val (.int (2 : Int32)), .val (.int (3 : Int32)), .val (.int (2 : Int32)), .val (.int c1)] [(.ref ar)]))
  refine Run.pre (fun _ k => XS.iloadN X53.here hx rfl (hb hby d29_11) rfl  k) ?_
  show Run p e below s _ _ _ (T53.setTop (mkF m 12 #[.val (.ref ar), .val (.int (2 : Int32)), .val (.ref ds), .val (.int (2 : Int32)), .val (.int (3 : Int32)), .val (.int (2 : Int32)), .val (.int c1)] [(.int (2 : Int32)), (.ref ar)]))
  have f54 := (f50.other W53 nad)
  obtain ⟨c55, Ar55, -, S55, N55, H55, -⟩ := id f54
  have hin55 : ¬ ((2 : Int32) < 0 ∨ c55.slots.size ≤ ((2 : Int32)).toNatClampNeg) := inb_of S55 ⟨by decide, by decide⟩
  refine Run.pre (X53.caload hx (j := (2 : Int32)) (v := (.int c2)) (by rw [e53]; exact Ar55.1) (State.isArrayOf_alike hZ.alike Ar55.2.1) Ar55.2.2 hin55 (H55.at hin55 rfl) (g := (mkF m 12 #[.val (.ref ar), .val (.int (2 : Int32)), .val (.ref ds), .val (.int (2 : Int32)), .val (.int (3 : Int32)), .val (.int (2 : Int32)), .val (.int c1)] [(.int (2 : Int32)), (.ref ar)])) rfl rfl (hb hby d29_12)) ?_
  show Run p e below s _ _ _ (T53.setTop (mkF m 13 #[.val (.ref ar), .val (.int (2 : Int32)), .val (.ref ds), .val (.int (2 : Int32)), .val (.int (3 : Int32)), .val (.int (2 : Int32)), .val (.int c1)] [(.int c2)]))
  refine Run.pre (fun _ k => XS.istore X53.here hx rfl (hb hby d29_13) rfl (l' := #[.val (.ref ar), .val (.int (2 : Int32)), .val (.ref ds), .val (.int (2 : Int32)), .val (.int (3 : Int32)), .val (.int (2 : Int32)), .val (.int c2)]) rfl k) ?_
  show Run p e below s _ _ _ (T53.setTop (mkF m 15 #[.val (.ref ar), .val (.int (2 : Int32)), .val (.ref ds), .val (.int (2 : Int32)), .val (.int (3 : Int32)), .val (.int (2 : Int32)), .val (.int c2)] []))
  refine Run.pre (fun _ k => XS.iload X53.here hx rfl (hb hby d29_15) rfl  k) ?_
  show Run p e below s _ _ _ (T53.setTop (mkF m 17 #[.val (.ref ar), .val (.int (2 : Int32)), .val (.ref ds), .val (.int (2 : Int32)), .val (.int (3 : Int32)), .val (.int (2 : Int32)), .val (.int c2)] [(.int c2)]))
  refine Run.pre (fun _ k => XS.sipush X53.here hx rfl (hb hby d29_17) k) ?_
  show Run p e below s _ _ _ (T53.setTop (mkF m 20 #[.val (.ref ar), .val (.int (2 : Int32)), .val (.ref ds), .val (.int (2 : Int32)), .val (.int (3 : Int32)), .val (.int (2 : Int32)), .val (.int c2)] [(.int (255 : Int32)), (.int c2)]))
  refine Run.pre (fun _ k => XS.icmpYes X53.here hx rfl (pc0 := 20) (pc' := 26) rfl (hb hby d29_20) rfl (flt (q2 : ¬ ((255 : Int32) < c2))).2.2.2 (by decide) (by decide) k) ?_
  show Run p e below s _ _ _ (T53.setTop (mkF m 26 #[.val (.ref ar), .val (.int (2 : Int32)), .val (.ref ds), .val (.int (2 : Int32)), .val (.int (3 : Int32)), .val (.int (2 : Int32)), .val (.int c2)] []))
  refine Run.pre (fun _ k => XS.aloadN X53.here hx rfl (hb hby d29_26) rfl rfl k) ?_
  show Run p e below s _ _ _ (T53.setTop (mkF m 27 #[.val (.ref ar), .val (.int (2 : Int32)), .val (.ref ds), .val (.int (2 : Int32)), .val (.int (3 : Int32)), .val (.int (2 : Int32)), .val (.int c2)] [(.ref ds)]))
  refine Run.pre (fun _ k => XS.iloadN X53.here hx rfl (hb hby d29_27) rfl  k) ?_
  show Run p e below s _ _ _ (T53.setTop (mkF m 28 #[.val (.ref ar), .val (.int (2 : Int32)), .val (.ref ds), .val (.int (2 : Int32)), .val (.int (3 : Int32)), .val (.int (2 : Int32)), .val (.int c2)] [(.int (2 : Int32)), (.ref ds)]))
  refine Run.pre (fun _ k => XS.iload X53.here hx rfl (hb hby d29_28) rfl  k) ?_
  show Run p e below s _ _ _ (T53.setTop (mkF m 30 #[.val (.ref ar), .val (.int (2 : Int32)), .val (.ref ds), .val (.int (2 : Int32)), .val (.int (3 : Int32)), .val (.int (2 : Int32)), .val (.int c2)] [(.int c2), (.int (2 : Int32)), (.ref ds)]))
  refine Run.pre (fun _ k => XS.i2b X53.here hx rfl (hb hby d29_30) rfl k) ?_
  show Run p e below s _ _ _ (T53.setTop (mkF m 31 #[.val (.ref ar), .val (.int (2 : Int32)), .val (.ref ds), .val (.int (2 : Int32)), .val (.int (3 : Int32)), .val (.int (2 : Int32)), .val (.int c2)] [(.int (c2.toInt8.toInt32)), (.int (2 : Int32)), (.ref ds)]))
  obtain ⟨c56, Ar56, q56, S56, N56, H56, G56⟩ := id V_ds_53
  have hin56 : ¬ ((2 : Int32) < 0 ∨ c56.slots.size ≤ ((2 : Int32)).toNatClampNeg) := inb_of S56 ⟨by decide, by decide⟩
  obtain ⟨T57, h57, X57, e57, W57, st57⟩ := stB X53 hx hZ e53 Ar56 (j := (2 : Int32)) hin56 (g := (mkF m 31 #[.val (.ref ar), .val (.int (2 : Int32)), .val (.ref ds), .val (.int (2 : Int32)), .val (.int (3 : Int32)), .val (.int (2 : Int32)), .val (.int c2)] [(.int (c2.toInt8.toInt32)), (.int (2 : Int32)), (.ref ds)])) rfl rfl (hb hby d29_31)
  refine Run.pre st57 ?_
  have V_ds_57 : Arv Z h57 ds kb .byte (3 : Int32) [(.int (nar .byte (c0.toInt8.toInt32))), (.int (nar .byte (c1.toInt8.toInt32))), (.int (nar .byte (c2.toInt8.toInt32)))] (.int (0 : Int32)) := Arv.set Ar56 q56 S56 N56 H56 G56 (fits_nar_byte _) W57 2 rfl (Nat.le_of_ble_eq_true rfl)
  have K57 : Keep h0 h57 [ds] := K53.wr W57 (Or.inl (by simp))
  have N57 := Fr.snoc X57 N53 g_ds
  show Run p e below s _ _ _ (T57.setTop (mkF m 32 #[.val (.ref ar), .val (.int (2 : Int32)), .val (.ref ds), .val (.int (2 : Int32)), .val (.int (3 : Int32)), .val (.int (2 : Int32)), .val (.int c2)] []))
  refine Run.pre (fun _ k => XS.iinc X57.here hx rfl (hb hby d29_32) rfl (l' := #[.val (.ref ar), .val (.int (3 : Int32)), .val (.ref ds), .val (.int (2 : Int32)), .val (.int (3 : Int32)), .val (.int (2 : Int32)), .val (.int c2)]) rfl k) ?_
  show Run p e below s _ _ _ (T57.setTop (mkF m 35 #[.val (.ref ar), .val (.int (3 : Int32)), .val (.ref ds), .val (.int (2 : Int32)), .val (.int (3 : Int32)), .val (.int (2 : Int32)), .val (.int c2)] []))
  refine Run.pre (fun _ k => XS.iinc X57.here hx rfl (hb hby d29_35) rfl (l' := #[.val (.ref ar), .val (.int (3 : Int32)), .val (.ref ds), .val (.int (3 : Int32)), .val (.int (3 : Int32)), .val (.int (2 : Int32)), .val (.int c2)]) rfl k) ?_
  show Run p e below s _ _ _ (T57.setTop (mkF m 38 #[.val (.ref ar), .val (.int (3 : Int32)), .val (.ref ds), .val (.int (3 : Int32)), .val (.int (3 : Int32)), .val (.int (2 : Int32)), .val (.int c2)] []))
  refine Run.pre (fun _ k => XS.iinc X57.here hx rfl (hb hby d29_38) rfl (l' := #[.val (.ref ar), .val (.int (3 : Int32)), .val (.ref ds), .val (.int (3 : Int32)), .val (.int (3 : Int32)), .val (.int (3 : Int32)), .val (.int c2)]) rfl k) ?_
  show Run p e below s _ _ _ (T57.setTop (mkF m 41 #[.val (.ref ar), .val (.int (3 : Int32)), .val (.ref ds), .val (.int (3 : Int32)), .val (.int (3 : Int32)), .val (.int (3 : Int32)), .val (.int c2)] []))
  refine Run.pre (fun _ k => XS.goto X57.here hx rfl (pc0 := 41) (pc' := 3) rfl (hb hby d29_41) (by decide) (by decide) k) ?_
  show Run p e below s _ _ _ (T57.setTop (mkF m 3 #[.val (.ref ar), .val (.int (3 : Int32)), .val (.ref ds), .val (.int (3 : Int32)), .val (.int (3 : Int32)), .val (.int (3 : Int32)), .val (.int c2)] []))
  refine Run.pre (fun _ k => XS.iload X57.here hx rfl (hb hby d29_3) rfl  k) ?_
  show Run p e below s _ _ _ (T57.setTop (mkF m 5 #[.val (.ref ar), .val (.int (3 : Int32)), .val (.ref ds), .val (.int (3 : Int32)), .val (.int (3 : Int32)), .val (.int (3 : Int32)), .val (.int c2)] [(.int (3 : Int32))]))
  refine Run.pre (fun _ k => XS.iload X57.here hx rfl (hb hby d29_5) rfl  k) ?_
  show Run p e below s _ _ _ (T57.setTop (mkF m 7 #[.val (.ref ar), .val (.int (3 : Int32)), .val (.ref ds), .val (.int (3 : Int32)), .val (.int (3 : Int32)), .val (.int (3 : Int32)), .val (.int c2)] [(.int (3 : Int32)), (.int (3 : Int32))]))
  refine Run.pre (fun _ k => XS.icmpYes X57.here hx rfl (pc0 := 7) (pc' := 44) rfl (hb hby d29_7) rfl (flt ((by decide) : ¬ ((3 : Int32) < (3 : Int32)))).2.1 (by decide) (by decide) k) ?_
  show Run p e below s _ _ _ (T57.setTop (mkF m 44 #[.val (.ref ar), .val (.int (3 : Int32)), .val (.ref ds), .val (.int (3 : Int32)), .val (.int (3 : Int32)), .val (.int (3 : Int32)), .val (.int c2)] []))
  refine Run.pre (fun _ k => XS.iload X57.here hx rfl (hb hby d29_44) rfl  k) ?_
  show Run p e below s _ _ _ (T57.setTop (mkF m 46 #[.val (.ref ar), .val (.int (3 : Int32)), .val (.ref ds), .val (.int (3 : Int32)), .val (.int (3 : Int32)), .val (.int (3 : Int32)), .val (.int c2)] [(.int (3 : Int32))]))
  exact Run.retI hS (by first | exact Nat.le_refl _ | (rw [e57]; exact (Nat.le_trans (Nat.le_trans (Nat.le_trans (Nat.zero_le _) (Keep.of_wr W49).1) (Keep.of_wr W53).1) (Keep.of_wr W57).1))) X57 hx hret hlk (hb hby d29_46) (by first | (rw [e57]; exact ⟨rfl, N57, K57, V_ds_57, X57.warmed.interned_eq.trans hI⟩) | exact ⟨rfl, N57, K57, V_ds_57, X57.warmed.interned_eq.trans hI⟩) (by decide) (by decide)
set_option maxRecDepth 65536 in
set_option maxHeartbeats 40000000 in
theorem rmC1_3 (l : Launch) (Z : State) (a0 : Array Value) (hw : ∀ d ∈ tables_1, d.before a0 Z = true) (I0 : Array (Array UInt16 × Addr)) (ar : Addr) (kc : ClassId) (c0 : Int32) (c1 : Int32) (c2 : Int32) (h0 : Heap) (n0 : Nat) (Z0 : n0 ≤ h0.size) (AC : Arv Z h0 ar kc .char 3 [(.int c0), (.int c1), (.int c2)] (.int 0)) (q0 : ¬ (255 : Int32) < c0) (q1 : ¬ (255 : Int32) < c1) (q2 : ¬ (255 : Int32) < c2) :
    Con l (⟨"java/lang/StringUTF16", "compress", "([CII)[B"⟩ : MethodName) jdk_52_method_16_code 6 (some (.array .byte)) ({ frames := 1, cells := 1, slots := 3, locals := 18 } : Room) Z #[(.ref ar), (.int (0 : Int32)), (.int (3 : Int32))] h0 (fun vm => vm.interned = I0) (fun v h L vm => ∃ b : Addr, ∃ k : ClassId, v = some (.ref b) ∧ Fr n0 L ∧ Keep h0 h [] ∧ h0.size ≤ b ∧ Arv Z h b k .byte 3 [(.int (nar .byte (c0.toInt8.toInt32))), (.int (nar .byte (c1.toInt8.toInt32))), (.int (nar .byte (c2.toInt8.toInt32)))] (.int 0) ∧ vm.interned = I0) := by
  refine Con.mk (plainFor_of_name pn_28) (fun m => show entryFrame m #[(.ref ar), (.int (0 : Int32)), (.int (3 : Int32))] 6 = mkF m 0 #[.val (.ref ar), .val (.int (0 : Int32)), .val (.int (3 : Int32)), .unset, .unset, .unset] [] by first | (simp [entryFrame, mkF, argsToLocals, Value.category]; done) | rfl) ?_
  intro p e s m below meth c s₁ vm0 hx hby hml hown hnm hret hlk hZ X0 e0 hS hs0 hP0
  have N0 := Fr.nil n0
  have hI : vm0.interned = I0 := hP0
  show Run p e below s _ _ _ (s₁.setTop (mkF m 0 #[.val (.ref ar), .val (.int (0 : Int32)), .val (.int (3 : Int32)), .unset, .unset, .unset] []))
  refine Run.pre (fun _ k => XS.iloadN X0.here hx rfl (hb hby d28_0) rfl  k) ?_
  show Run p e below s _ _ _ (s₁.setTop (mkF m 1 #[.val (.ref ar), .val (.int (0 : Int32)), .val (.int (3 : Int32)), .unset, .unset, .unset] [(.int (3 : Int32))]))
  obtain ⟨T58, h58, k58, X58, e58, E58, A58, st58⟩ := newP X0 hx hZ (hw _ (List.mem_of_getElem? (i := 19) rfl)) e0 (g := (mkF m 1 #[.val (.ref ar), .val (.int (0 : Int32)), .val (.int (3 : Int32)), .unset, .unset, .unset] [(.int (3 : Int32))])) rfl (hb hby d28_1) rfl (by decide) (cap := 3) (by decide) (by decide) (by decide) (by decide)
  obtain ⟨b58, g58⟩ : ∃ z, z = h0.size := ⟨_, rfl⟩
  rw [← g58] at A58 st58
  refine Run.pre st58 ?_
  have V_b58 : Arv Z h58 b58 k58 .byte (3 : Int32) [(.int (0 : Int32)), (.int (0 : Int32)), (.int (0 : Int32))] (.int (0 : Int32)) := (Arv.new A58 (by decide)).pad (pad_rep [] (.int (0 : Int32)) 3)
  have gn_b58 : n0 ≤ b58 := Nat.le_trans (Nat.le_trans Z0 (Keep.refl h0 []).1) (Nat.le_of_eq g58.symm)
  have sz_b58 : h0.size ≤ b58 := Nat.le_trans (Keep.refl h0 []).1 (Nat.le_of_eq g58.symm)
  have K58 : Keep h0 h58 [] := (Keep.refl h0 []).ext E58
  show Run p e below s _ _ _ (T58.setTop (mkF m 3 #[.val (.ref ar), .val (.int (0 : Int32)), .val (.int (3 : Int32)), .unset, .unset, .unset] [(.ref b58)]))
  refine Run.pre (fun _ k => XS.astoreN X58.here hx rfl (hb hby d28_3) rfl rfl (l' := #[.val (.ref ar), .val (.int (0 : Int32)), .val (.int (3 : Int32)), .val (.ref b58), .unset, .unset]) rfl k) ?_
  show Run p e below s _ _ _ (T58.setTop (mkF m 4 #[.val (.ref ar), .val (.int (0 : Int32)), .val (.int (3 : Int32)), .val (.ref b58), .unset, .unset] []))
  refine Run.pre (fun _ k => XS.aloadN X58.here hx rfl (hb hby d28_4) rfl rfl k) ?_
  show Run p e below s _ _ _ (T58.setTop (mkF m 5 #[.val (.ref ar), .val (.int (0 : Int32)), .val (.int (3 : Int32)), .val (.ref b58), .unset, .unset] [(.ref ar)]))
  refine Run.pre (fun _ k => XS.iloadN X58.here hx rfl (hb hby d28_5) rfl  k) ?_
  show Run p e below s _ _ _ (T58.setTop (mkF m 6 #[.val (.ref ar), .val (.int (0 : Int32)), .val (.int (3 : Int32)), .val (.ref b58), .unset, .unset] [(.int (0 : Int32)), (.ref ar)]))
  refine Run.pre (fun _ k => XS.aloadN X58.here hx rfl (hb hby d28_6) rfl rfl k) ?_
  show Run p e below s _ _ _ (T58.setTop (mkF m 7 #[.val (.ref ar), .val (.int (0 : Int32)), .val (.int (3 : Int32)), .val (.ref b58), .unset, .unset] [(.ref b58), (.int (0 : Int32)), (.ref ar)]))
  refine Run.pre (fun _ k => XS.iconst X58.here hx rfl (hb hby d28_7) k) ?_
  show Run p e below s _ _ _ (T58.setTop (mkF m 8 #[.val (.ref ar), .val (.int (0 : Int32)), .val (.int (3 : Int32)), .val (.ref b58), .unset, .unset] [(.int (0 : Int32)), (.ref b58), (.int (0 : Int32)), (.ref ar)]))
  refine Run.pre (fun _ k => XS.iloadN X58.here hx rfl (hb hby d28_8) rfl  k) ?_
  show Run p e below s _ _ _ (T58.setTop (mkF m 9 #[.val (.ref ar), .val (.int (0 : Int32)), .val (.int (3 : Int32)), .val (.ref b58), .unset, .unset] [(.int (3 : Int32)), (.int (0 : Int32)), (.ref b58), (.int (0 : Int32)), (.ref ar)]))
  have f59 := (AC.ext E58)
  refine Run.callS hS (by first | exact Nat.le_refl _ | (rw [e58]; exact (Nat.le_trans (Nat.zero_le _) E58.1))) X58 hx hZ (y := (⟨"java/lang/StringUTF16", "compress", "([CI[BII)I"⟩ : MethodName)) hown (hw _ (List.mem_of_getElem? (i := 176) rfl)) (hw _ (List.mem_of_getElem? (i := 177) rfl)) (hw _ (List.mem_of_getElem? (i := 174) rfl)) (hw _ (List.mem_of_getElem? (i := 178) rfl)) (by decide) (W := 0) (rmC2_3 l Z a0 hw _ ar b58 kc k58 c0 c1 c2 h58 n0 (Nat.le_trans Z0 K58.1) f59 V_b58 (Nat.ne_of_lt (Nat.lt_of_lt_of_le AC.lt (Nat.le_of_eq g58.symm))) gn_b58 q0 q1 q2) e58 (by decide) (by decide) (by decide) (by decide) (fun _ q => q.interned_eq) (g := (mkF m 9 #[.val (.ref ar), .val (.int (0 : Int32)), .val (.int (3 : Int32)), .val (.ref b58), .unset, .unset] [(.int (3 : Int32)), (.int (0 : Int32)), (.ref b58), (.int (0 : Int32)), (.ref ar)])) rfl (by rw [hml]; rfl) (argsL := [(.ref ar), (.int (0 : Int32)), (.ref b58), (.int (0 : Int32)), (.int (3 : Int32))]) (rest := []) (lenOf pd_0 rfl) rfl (by show 2 * 0 + _ ≤ _; exact Nat.le_of_eq rfl) (hb hby d28_9) ?_
  intro v60 T60 L60 X60 hS hZ hown hV60 hQ60
  obtain ⟨rfl, Nq60, Kc60, vb60, hI60⟩ := hQ60
  have N60 := Fr.app N0 Nq60
  have hI := hI60.trans hI
  have K60 : Keep h0 T60.heap [] := K58.trans Kc60 (allS (Or.inr sz_b58) all0)
  show Run p e below s _ _ _ (T60.setTop (mkF m 12 #[.val (.ref ar), .val (.int (0 : Int32)), .val (.int (3 : Int32)), .val (.ref b58), .unset, .unset] [(.int (3 : Int32))]))
  refine Run.pre (fun _ k => XS.istore X60.here hx rfl (hb hby d28_12) rfl (l' := #[.val (.ref ar), .val (.int (0 : Int32)), .val (.int (3 : Int32)), .val (.ref b58), .val (.int (3 : Int32)), .unset]) rfl k) ?_
  show Run p e below s _ _ _ (T60.setTop (mkF m 14 #[.val (.ref ar), .val (.int (0 : Int32)), .val (.int (3 : Int32)), .val (.ref b58), .val (.int (3 : Int32)), .unset] []))
  refine Run.pre (fun _ k => XS.iload X60.here hx rfl (hb hby d28_14) rfl  k) ?_
  show Run p e below s _ _ _ (T60.setTop (mkF m 16 #[.val (.ref ar), .val (.int (0 : Int32)), .val (.int (3 : Int32)), .val (.ref b58), .val (.int (3 : Int32)), .unset] [(.int (3 : Int32))]))
  refine Run.pre (fun _ k => XS.iloadN X60.here hx rfl (hb hby d28_16) rfl  k) ?_
  show Run p e below s _ _ _ (T60.setTop (mkF m 17 #[.val (.ref ar), .val (.int (0 : Int32)), .val (.int (3 : Int32)), .val (.ref b58), .val (.int (3 : Int32)), .unset] [(.int (3 : Int32)), (.int (3 : Int32))]))
  refine Run.pre (fun _ k => XS.icmpYes X60.here hx rfl (pc0 := 17) (pc' := 57) rfl (hb hby d28_17) rfl (teq ((by decide) : (3 : Int32) = (3 : Int32))).1 (by decide) (by decide) k) ?_
  show Run p e below s _ _ _ (T60.setTop (mkF m 57 #[.val (.ref ar), .val (.int (0 : Int32)), .val (.int (3 : Int32)), .val (.ref b58), .val (.int (3 : Int32)), .unset] []))
  refine Run.pre (fun _ k => XS.aloadN X60.here hx rfl (hb hby d28_57) rfl rfl k) ?_
  show Run p e below s _ _ _ (T60.setTop (mkF m 58 #[.val (.ref ar), .val (.int (0 : Int32)), .val (.int (3 : Int32)), .val (.ref b58), .val (.int (3 : Int32)), .unset] [(.ref b58)]))
  exact Run.retA hS (Nat.le_refl _) X60 hx hret rfl rfl hlk (hb hby d28_58) ⟨b58, k58, rfl, N60, K60, sz_b58, vb60, X60.warmed.interned_eq.trans hI⟩ (by decide) (by decide)
set_option maxRecDepth 65536 in
set_option maxHeartbeats 40000000 in
theorem rmCo_3 (l : Launch) (Z : State) (a0 : Array Value) (hw : ∀ d ∈ tables_1, d.before a0 Z = true) (I0 : Array (Array UInt16 × Addr)) (b : Addr) (kb : ClassId) (c0 : Int32) (c1 : Int32) (c2 : Int32) (h0 : Heap) (n0 : Nat) (Z0 : n0 ≤ h0.size) (AB : Arv Z h0 b kb .byte 3 [(.int (nar .byte (c0.toInt8.toInt32))), (.int (nar .byte (c1.toInt8.toInt32))), (.int (nar .byte (c2.toInt8.toInt32)))] (.int 0)) :
    Con l (⟨"java/lang/StringUTF16", "coderFromArrayLen", "([BI)B"⟩ : MethodName) jdk_52_method_15_code 2 (some .byte) ({ frames := 0, cells := 0, slots := 0, locals := 0 } : Room) Z #[(.ref b), (.int (3 : Int32))] h0 (fun vm => vm.interned = I0) (fun v h L vm => v = some (.int 0) ∧ Fr n0 L ∧ h = h0 ∧ vm.interned = I0) := by
  refine Con.mk (plainFor_of_name pn_30) (fun m => show entryFrame m #[(.ref b), (.int (3 : Int32))] 2 = mkF m 0 #[.val (.ref b), .val (.int (3 : Int32))] [] by first | (simp [entryFrame, mkF, argsToLocals, Value.category]; done) | rfl) ?_
  intro p e s m below meth c s₁ vm0 hx hby hml hown hnm hret hlk hZ X0 e0 hS hs0 hP0
  have N0 := Fr.nil n0
  have hI : vm0.interned = I0 := hP0
  show Run p e below s _ _ _ (s₁.setTop (mkF m 0 #[.val (.ref b), .val (.int (3 : Int32))] []))
  refine Run.pre (fun _ k => XS.iloadN X0.here hx rfl (hb hby d30_0) rfl  k) ?_
  show Run p e below s _ _ _ (s₁.setTop (mkF m 1 #[.val (.ref b), .val (.int (3 : Int32))] [(.int (3 : Int32))]))
  refine Run.pre (fun _ k => XS.aloadN X0.here hx rfl (hb hby d30_1) rfl rfl k) ?_
  show Run p e below s _ _ _ (s₁.setTop (mkF m 2 #[.val (.ref b), .val (.int (3 : Int32))] [(.ref b), (.int (3 : Int32))]))
  obtain ⟨c61, Ar61, -, S61, N61, -, -⟩ := id AB
  refine Run.pre (X0.arraylength hx (by rw [e0]; exact Ar61.1) (State.isArrayOf_alike hZ.alike Ar61.2.1) (g := (mkF m 2 #[.val (.ref b), .val (.int (3 : Int32))] [(.ref b), (.int (3 : Int32))])) rfl rfl (hb hby d30_2)) ?_
  rw [len_of S61 N61]
  show Run p e below s _ _ _ (s₁.setTop (mkF m 3 #[.val (.ref b), .val (.int (3 : Int32))] [(.int (3 : Int32)), (.int (3 : Int32))]))
  refine Run.pre (fun _ k => XS.isub X0.here hx rfl (hb hby d30_3) rfl k) ?_
  show Run p e below s _ _ _ (s₁.setTop (mkF m 4 #[.val (.ref b), .val (.int (3 : Int32))] [(.int (0 : Int32))]))
  refine Run.pre (fun _ k => XS.bipush X0.here hx rfl (hb hby d30_4) k) ?_
  show Run p e below s _ _ _ (s₁.setTop (mkF m 6 #[.val (.ref b), .val (.int (3 : Int32))] [(.int (31 : Int32)), (.int (0 : Int32))]))
  refine Run.pre (fun _ k => XS.iushr X0.here hx rfl (hb hby d30_6) rfl k) ?_
  show Run p e below s _ _ _ (s₁.setTop (mkF m 7 #[.val (.ref b), .val (.int (3 : Int32))] [(.int (0 : Int32))]))
  refine Run.pre (fun _ k => XS.i2b X0.here hx rfl (hb hby d30_7) rfl k) ?_
  show Run p e below s _ _ _ (s₁.setTop (mkF m 8 #[.val (.ref b), .val (.int (3 : Int32))] [(.int ((0 : Int32).toInt8.toInt32))]))
  exact Run.retN hS (by first | exact Nat.le_refl _ | (rw [e0]; exact (Nat.zero_le _))) X0 hx hret (t := .byte) (by simp) hlk (hb hby d30_8) (by first | (rw [e0]; exact ⟨by decide, N0, rfl, X0.warmed.interned_eq.trans hI⟩) | exact ⟨by decide, N0, rfl, X0.warmed.interned_eq.trans hI⟩) (by decide) (by decide)
set_option maxRecDepth 65536 in
set_option maxHeartbeats 40000000 in
theorem rmI4_3 (l : Launch) (Z : State) (a0 : Array Value) (hw : ∀ d ∈ tables_1, d.before a0 Z = true) (I0 : Array (Array UInt16 × Addr)) (a : Addr) (ar : Addr) (kc : ClassId) (c0 : Int32) (c1 : Int32) (c2 : Int32) (cs : Int32) (h0 : Heap) (n0 : Nat) (Z0 : n0 ≤ h0.size) (OL : Old Z n0 h0) (SC : Sta Z Z.heap "java/lang/String" "COMPACT_STRINGS" "Z" (.int cs)) (hcs : ¬ cs = 0) (AC : Arv Z h0 ar kc .char 3 [(.int c0), (.int c1), (.int c2)] (.int 0)) (E_a : Exa Z h0 a "java/lang/String") (FV : Fld Z h0 a "java/lang/String" "value" "[B" .null) (FCo : Fld Z h0 a "java/lang/String" "coder" "B" (.int 0)) (g_a : n0 ≤ a) (nar_ : ar ≠ a) (q0 : ¬ (255 : Int32) < c0) (q1 : ¬ (255 : Int32) < c1) (q2 : ¬ (255 : Int32) < c2) :
    Con l (⟨"java/lang/String", "<init>", "([CIILjava/lang/Void;)V"⟩ : MethodName) jdk_42_method_149_code 6 none ({ frames := 2, cells := 1, slots := 3, locals := 35 } : Room) Z #[(.ref a), (.ref ar), (.int (0 : Int32)), (.int (3 : Int32)), .null] h0 (fun vm => vm.interned = I0) (fun v h L vm => ∃ b : Addr, ∃ k : ClassId, v = none ∧ Fr n0 L ∧ Keep h0 h [a] ∧ h0.size ≤ b ∧ Fld Z h a "java/lang/String" "coder" "B" (.int 0) ∧ Fld Z h a "java/lang/String" "value" "[B" (.ref b) ∧ Arv Z h b k .byte 3 [(.int (nar .byte (c0.toInt8.toInt32))), (.int (nar .byte (c1.toInt8.toInt32))), (.int (nar .byte (c2.toInt8.toInt32)))] (.int 0) ∧ vm.interned = I0) := by
  refine Con.mk (plainFor_of_name pn_3) (fun m => show entryFrame m #[(.ref a), (.ref ar), (.int (0 : Int32)), (.int (3 : Int32)), .null] 6 = mkF m 0 #[.val (.ref a), .val (.ref ar), .val (.int (0 : Int32)), .val (.int (3 : Int32)), .val .null, .unset] [] by first | (simp [entryFrame, mkF, argsToLocals, Value.category]; done) | rfl) ?_
  intro p e s m below meth c s₁ vm0 hx hby hml hown hnm hret hlk hZ X0 e0 hS hs0 hP0
  have N0 := Fr.nil n0
  have hI : vm0.interned = I0 := hP0
  show Run p e below s _ _ _ (s₁.setTop (mkF m 0 #[.val (.ref a), .val (.ref ar), .val (.int (0 : Int32)), .val (.int (3 : Int32)), .val .null, .unset] []))
  refine Run.pre (fun _ k => XS.aloadN X0.here hx rfl (hb hby d3_0) rfl rfl k) ?_
  show Run p e below s _ _ _ (s₁.setTop (mkF m 1 #[.val (.ref a), .val (.ref ar), .val (.int (0 : Int32)), .val (.int (3 : Int32)), .val .null, .unset] [(.ref a)]))
  obtain ⟨T62, X62, e62, st62⟩ := initO X0 hx hZ hown (hw _ (List.mem_of_getElem? (i := 15) rfl)) (hw _ (List.mem_of_getElem? (i := 16) rfl)) (hw _ (List.mem_of_getElem? (i := 17) rfl)) e0 (g := (mkF m 1 #[.val (.ref a), .val (.ref ar), .val (.int (0 : Int32)), .val (.int (3 : Int32)), .val .null, .unset] [(.ref a)])) rfl (by rw [hml]; rfl) rfl (hb hby d3_1) (by decide) (W := 0) (by show 2 * 0 + _ ≤ _; exact Nat.le_of_eq rfl) (by decide)
  refine Run.pre st62 ?_
  show Run p e below s _ _ _ (T62.setTop (mkF m 4 #[.val (.ref a), .val (.ref ar), .val (.int (0 : Int32)), .val (.int (3 : Int32)), .val .null, .unset] []))
  refine Run.pre (fun _ k => XS.iloadN X62.here hx rfl (hb hby d3_4) rfl  k) ?_
  show Run p e below s _ _ _ (T62.setTop (mkF m 5 #[.val (.ref a), .val (.ref ar), .val (.int (0 : Int32)), .val (.int (3 : Int32)), .val .null, .unset] [(.int (3 : Int32))]))
  refine Run.pre (fun _ k => XS.ifYes X62.here hx rfl (pc0 := 5) (pc' := 27) rfl (hb hby d3_5) rfl ((if0 _ _).trans (feq ((by decide) : ¬ ((3 : Int32) = (0 : Int32)))).2) (by decide) (by decide) k) ?_
  show Run p e below s _ _ _ (T62.setTop (mkF m 27 #[.val (.ref a), .val (.ref ar), .val (.int (0 : Int32)), .val (.int (3 : Int32)), .val .null, .unset] []))
  obtain ⟨T63, X63, e63, st63⟩ := getS2 X62 hx hZ hown (host := "") (Or.inl (hw _ (List.mem_of_getElem? (i := 171) rfl))) Via.refl e62 (SC.ext OL.2) (g := (mkF m 27 #[.val (.ref a), .val (.ref ar), .val (.int (0 : Int32)), .val (.int (3 : Int32)), .val .null, .unset] [])) rfl (hb hby d3_27)
  refine Run.pre st63 ?_
  show Run p e below s _ _ _ (T63.setTop (mkF m 30 #[.val (.ref a), .val (.ref ar), .val (.int (0 : Int32)), .val (.int (3 : Int32)), .val .null, .unset] [(.int cs)]))
  refine Run.pre (fun _ k => XS.ifNo X63.here hx rfl (hb hby d3_30) rfl ((if0 _ _).trans (feq (hcs : ¬ (cs = (0 : Int32)))).1) k) ?_
  show Run p e below s _ _ _ (T63.setTop (mkF m 33 #[.val (.ref a), .val (.ref ar), .val (.int (0 : Int32)), .val (.int (3 : Int32)), .val .null, .unset] []))
  refine Run.pre (fun _ k => XS.aloadN X63.here hx rfl (hb hby d3_33) rfl rfl k) ?_
  show Run p e below s _ _ _ (T63.setTop (mkF m 34 #[.val (.ref a), .val (.ref ar), .val (.int (0 : Int32)), .val (.int (3 : Int32)), .val .null, .unset] [(.ref ar)]))
  refine Run.pre (fun _ k => XS.iloadN X63.here hx rfl (hb hby d3_34) rfl  k) ?_
  show Run p e below s _ _ _ (T63.setTop (mkF m 35 #[.val (.ref a), .val (.ref ar), .val (.int (0 : Int32)), .val (.int (3 : Int32)), .val .null, .unset] [(.int (0 : Int32)), (.ref ar)]))
  refine Run.pre (fun _ k => XS.iloadN X63.here hx rfl (hb hby d3_35) rfl  k) ?_
  show Run p e below s _ _ _ (T63.setTop (mkF m 36 #[.val (.ref a), .val (.ref ar), .val (.int (0 : Int32)), .val (.int (3 : Int32)), .val .null, .unset] [(.int (3 : Int32)), (.int (0 : Int32)), (.ref ar)]))
  refine Run.callS hS (by first | exact Nat.le_refl _ | (rw [e63]; exact (Nat.zero_le _))) X63 hx hZ (y := (⟨"java/lang/StringUTF16", "compress", "([CII)[B"⟩ : MethodName)) hown (hw _ (List.mem_of_getElem? (i := 172) rfl)) (hw _ (List.mem_of_getElem? (i := 173) rfl)) (hw _ (List.mem_of_getElem? (i := 174) rfl)) (hw _ (List.mem_of_getElem? (i := 175) rfl)) (by decide) (W := 0) (rmC1_3 l Z a0 hw _ ar kc c0 c1 c2 h0 n0 (Nat.le_trans Z0 (Keep.refl h0 [a]).1) AC q0 q1 q2) e63 (by decide) (by decide) (by decide) (by decide) (fun _ q => q.interned_eq) (g := (mkF m 36 #[.val (.ref a), .val (.ref ar), .val (.int (0 : Int32)), .val (.int (3 : Int32)), .val .null, .unset] [(.int (3 : Int32)), (.int (0 : Int32)), (.ref ar)])) rfl (by rw [hml]; rfl) (argsL := [(.ref ar), (.int (0 : Int32)), (.int (3 : Int32))]) (rest := []) (lenOf pd_1 rfl) rfl (by show 2 * 0 + _ ≤ _; exact Nat.le_of_eq rfl) (hb hby d3_36) ?_
  intro v64 T64 L64 X64 hS hZ hown hV64 hQ64
  obtain ⟨b64, k64, rfl, Nq64, Kc64, sz64, vb64, hI64⟩ := hQ64
  have N64 := Fr.app N0 Nq64
  have hI := hI64.trans hI
  have K64 : Keep h0 T64.heap [a] := (Keep.refl h0 [a]).trans Kc64 all0
  have sz_b64 : h0.size ≤ b64 := Nat.le_trans (Keep.refl h0 [a]).1 sz64
  have gn_b64 : n0 ≤ b64 := Nat.le_trans Z0 sz_b64
  show Run p e below s _ _ _ (T64.setTop (mkF m 39 #[.val (.ref a), .val (.ref ar), .val (.int (0 : Int32)), .val (.int (3 : Int32)), .val .null, .unset] [(.ref b64)]))
  refine Run.pre (fun _ k => XS.astore X64.here hx rfl (hb hby d3_39) rfl rfl (l' := #[.val (.ref a), .val (.ref ar), .val (.int (0 : Int32)), .val (.int (3 : Int32)), .val .null, .val (.ref b64)]) rfl k) ?_
  show Run p e below s _ _ _ (T64.setTop (mkF m 41 #[.val (.ref a), .val (.ref ar), .val (.int (0 : Int32)), .val (.int (3 : Int32)), .val .null, .val (.ref b64)] []))
  refine Run.pre (fun _ k => XS.aloadN X64.here hx rfl (hb hby d3_41) rfl rfl k) ?_
  show Run p e below s _ _ _ (T64.setTop (mkF m 42 #[.val (.ref a), .val (.ref ar), .val (.int (0 : Int32)), .val (.int (3 : Int32)), .val .null, .val (.ref b64)] [(.ref a)]))
  refine Run.pre (fun _ k => XS.aload X64.here hx rfl (hb hby d3_42) rfl rfl k) ?_
  show Run p e below s _ _ _ (T64.setTop (mkF m 44 #[.val (.ref a), .val (.ref ar), .val (.int (0 : Int32)), .val (.int (3 : Int32)), .val .null, .val (.ref b64)] [(.ref b64), (.ref a)]))
  refine Run.pre (fun _ k => XS.iloadN X64.here hx rfl (hb hby d3_44) rfl  k) ?_
  show Run p e below s _ _ _ (T64.setTop (mkF m 45 #[.val (.ref a), .val (.ref ar), .val (.int (0 : Int32)), .val (.int (3 : Int32)), .val .null, .val (.ref b64)] [(.int (3 : Int32)), (.ref b64), (.ref a)]))
  refine Run.callS hS (Nat.le_refl _) X64 hx hZ (y := (⟨"java/lang/StringUTF16", "coderFromArrayLen", "([BI)B"⟩ : MethodName)) hown (hw _ (List.mem_of_getElem? (i := 179) rfl)) (hw _ (List.mem_of_getElem? (i := 180) rfl)) (hw _ (List.mem_of_getElem? (i := 174) rfl)) (hw _ (List.mem_of_getElem? (i := 181) rfl)) (by decide) (W := 1) (rmCo_3 l Z a0 hw _ b64 k64 c0 c1 c2 T64.heap n0 (Nat.le_trans Z0 K64.1) vb64) rfl (by decide) (by decide) (by decide) (by decide) (fun _ q => q.interned_eq) (g := (mkF m 45 #[.val (.ref a), .val (.ref ar), .val (.int (0 : Int32)), .val (.int (3 : Int32)), .val .null, .val (.ref b64)] [(.int (3 : Int32)), (.ref b64), (.ref a)])) rfl (by rw [hml]; rfl) (argsL := [(.ref b64), (.int (3 : Int32))]) (rest := [(.ref a)]) (lenOf pd_2 rfl) rfl (by show 2 * 0 + _ ≤ _; exact Nat.le_of_eq rfl) (hb hby d3_45) ?_
  intro v65 T65 L65 X65 hS hZ hown hV65 hQ65
  obtain ⟨rfl, Nq65, he65, hI65⟩ := hQ65
  have N65 := Fr.app N64 Nq65
  have hI := hI65.trans hI
  have e65 : T65.heap = T64.heap := he65
  show Run p e below s _ _ _ (T65.setTop (mkF m 48 #[.val (.ref a), .val (.ref ar), .val (.int (0 : Int32)), .val (.int (3 : Int32)), .val .null, .val (.ref b64)] [(.int (0 : Int32)), (.ref a)]))
  have f66 := (E_a.keep Kc64)
  have f67 := (FCo.keep Kc64 nin0)
  obtain ⟨T68, h68, X68, e68, W68, st68⟩ := putFN X65 hx hZ hown (hw _ (List.mem_of_getElem? (i := 25) rfl)) Via.refl e65 f67 f66 (Or.inr ⟨(hw _ (List.mem_of_getElem? (i := 21) rfl)), rfl, hnm⟩) (hw _ (List.mem_of_getElem? (i := 5) rfl)) (ty := .byte) (v' := (.int (nar .byte (0 : Int32)))) (by decide) rfl (fits_nar_byte _) (g := (mkF m 48 #[.val (.ref a), .val (.ref ar), .val (.int (0 : Int32)), .val (.int (3 : Int32)), .val .null, .val (.ref b64)] [(.int (0 : Int32)), (.ref a)])) rfl rfl (hb hby d3_48)
  refine Run.pre st68 ?_
  have Fw68 := f67.same W68
  have K68 : Keep h0 h68 [a] := K64.wr W68 (Or.inl (by simp))
  have N68 := Fr.snoc X68 N65 g_a
  show Run p e below s _ _ _ (T68.setTop (mkF m 51 #[.val (.ref a), .val (.ref ar), .val (.int (0 : Int32)), .val (.int (3 : Int32)), .val .null, .val (.ref b64)] []))
  refine Run.pre (fun _ k => XS.aloadN X68.here hx rfl (hb hby d3_51) rfl rfl k) ?_
  show Run p e below s _ _ _ (T68.setTop (mkF m 52 #[.val (.ref a), .val (.ref ar), .val (.int (0 : Int32)), .val (.int (3 : Int32)), .val .null, .val (.ref b64)] [(.ref a)]))
  refine Run.pre (fun _ k => XS.aload X68.here hx rfl (hb hby d3_52) rfl rfl k) ?_
  show Run p e below s _ _ _ (T68.setTop (mkF m 54 #[.val (.ref a), .val (.ref ar), .val (.int (0 : Int32)), .val (.int (3 : Int32)), .val .null, .val (.ref b64)] [(.ref b64), (.ref a)]))
  have f69 := (f66.wr W68)
  have f70 := ((FV.keep Kc64 nin0).other W68 (Or.inr (slot_ne (Or.inr (hw _ (List.mem_of_getElem? (i := 20) rfl))) (Or.inr (hw _ (List.mem_of_getElem? (i := 21) rfl))) (by decide) (t := (.array .byte)) (t' := .byte) (by decide) (by decide))))
  obtain ⟨T71, h71, X71, e71, W71, st71⟩ := putF X68 hx hZ hown (host := "") (Or.inl (hw _ (List.mem_of_getElem? (i := 24) rfl))) Via.refl e68 f70 f69 (Or.inr ⟨(hw _ (List.mem_of_getElem? (i := 20) rfl)), rfl, hnm⟩) (hw _ (List.mem_of_getElem? (i := 5) rfl)) (ty := (.array .byte)) (by decide) rfl rfl (g := (mkF m 54 #[.val (.ref a), .val (.ref ar), .val (.int (0 : Int32)), .val (.int (3 : Int32)), .val .null, .val (.ref b64)] [(.ref b64), (.ref a)])) rfl rfl (hb hby d3_54)
  refine Run.pre st71 ?_
  have Fw71 := f70.same W71
  have K71 : Keep h0 h71 [a] := K68.wr W71 (Or.inl (by simp))
  have N71 := Fr.snoc X71 N68 g_a
  show Run p e below s _ _ _ (T71.setTop (mkF m 57 #[.val (.ref a), .val (.ref ar), .val (.int (0 : Int32)), .val (.int (3 : Int32)), .val .null, .val (.ref b64)] []))
  have f72 := (Fw68.other W71 (Or.inr (slot_ne (Or.inr (hw _ (List.mem_of_getElem? (i := 21) rfl))) (Or.inr (hw _ (List.mem_of_getElem? (i := 20) rfl))) (by decide) (t := .byte) (t' := (.array .byte)) (by decide) (by decide))))
  have f73 := ((vb64.other W68 (Ne.symm (Nat.ne_of_lt (Nat.lt_of_lt_of_le E_a.lt sz64)))).other W71 (Ne.symm (Nat.ne_of_lt (Nat.lt_of_lt_of_le E_a.lt sz64))))
  exact Run.retV hS (by first | exact Nat.le_refl _ | (rw [e71]; exact (Nat.le_trans (Nat.le_trans (Nat.le_of_eq (congrArg Array.size e65)) (Keep.of_wr W68).1) (Keep.of_wr W71).1))) X71 hx hret hlk (hb hby d3_57) (by first | (rw [e71]; exact ⟨b64, k64, rfl, N71, K71, sz_b64, f72, Fw71, f73, X71.warmed.interned_eq.trans hI⟩) | exact ⟨b64, k64, rfl, N71, K71, sz_b64, f72, Fw71, f73, X71.warmed.interned_eq.trans hI⟩) (by decide) (by decide)
set_option maxRecDepth 65536 in
set_option maxHeartbeats 40000000 in
theorem rmI_3 (l : Launch) (Z : State) (a0 : Array Value) (hw : ∀ d ∈ tables_1, d.before a0 Z = true) (I0 : Array (Array UInt16 × Addr)) (a : Addr) (ar : Addr) (kc : ClassId) (c0 : Int32) (c1 : Int32) (c2 : Int32) (cs : Int32) (h0 : Heap) (n0 : Nat) (Z0 : n0 ≤ h0.size) (OL : Old Z n0 h0) (SC : Sta Z Z.heap "java/lang/String" "COMPACT_STRINGS" "Z" (.int cs)) (hcs : ¬ cs = 0) (AC : Arv Z h0 ar kc .char 3 [(.int c0), (.int c1), (.int c2)] (.int 0)) (E_a : Exa Z h0 a "java/lang/String") (FV : Fld Z h0 a "java/lang/String" "value" "[B" .null) (FCo : Fld Z h0 a "java/lang/String" "coder" "B" (.int 0)) (g_a : n0 ≤ a) (nar_ : ar ≠ a) (q0 : ¬ (255 : Int32) < c0) (q1 : ¬ (255 : Int32) < c1) (q2 : ¬ (255 : Int32) < c2) :
    Con l (⟨"java/lang/String", "<init>", "([C)V"⟩ : MethodName) jdk_42_method_3_code 2 none ({ frames := 3, cells := 1, slots := 3, locals := 52 } : Room) Z #[(.ref a), (.ref ar)] h0 (fun vm => vm.interned = I0) (fun v h L vm => ∃ b : Addr, ∃ k : ClassId, v = none ∧ Fr n0 L ∧ Keep h0 h [a] ∧ h0.size ≤ b ∧ Fld Z h a "java/lang/String" "coder" "B" (.int 0) ∧ Fld Z h a "java/lang/String" "value" "[B" (.ref b) ∧ Arv Z h b k .byte 3 [(.int (nar .byte (c0.toInt8.toInt32))), (.int (nar .byte (c1.toInt8.toInt32))), (.int (nar .byte (c2.toInt8.toInt32)))] (.int 0) ∧ vm.interned = I0) := by
  refine Con.mk (plainFor_of_name pn_2) (fun m => show entryFrame m #[(.ref a), (.ref ar)] 2 = mkF m 0 #[.val (.ref a), .val (.ref ar)] [] by first | (simp [entryFrame, mkF, argsToLocals, Value.category]; done) | rfl) ?_
  intro p e s m below meth c s₁ vm0 hx hby hml hown hnm hret hlk hZ X0 e0 hS hs0 hP0
  have N0 := Fr.nil n0
  have hI : vm0.interned = I0 := hP0
  show Run p e below s _ _ _ (s₁.setTop (mkF m 0 #[.val (.ref a), .val (.ref ar)] []))
  refine Run.pre (fun _ k => XS.aloadN X0.here hx rfl (hb hby d2_0) rfl rfl k) ?_
  show Run p e below s _ _ _ (s₁.setTop (mkF m 1 #[.val (.ref a), .val (.ref ar)] [(.ref a)]))
  refine Run.pre (fun _ k => XS.aloadN X0.here hx rfl (hb hby d2_1) rfl rfl k) ?_
  show Run p e below s _ _ _ (s₁.setTop (mkF m 2 #[.val (.ref a), .val (.ref ar)] [(.ref ar), (.ref a)]))
  refine Run.pre (fun _ k => XS.iconst X0.here hx rfl (hb hby d2_2) k) ?_
  show Run p e below s _ _ _ (s₁.setTop (mkF m 3 #[.val (.ref a), .val (.ref ar)] [(.int (0 : Int32)), (.ref ar), (.ref a)]))
  refine Run.pre (fun _ k => XS.aloadN X0.here hx rfl (hb hby d2_3) rfl rfl k) ?_
  show Run p e below s _ _ _ (s₁.setTop (mkF m 4 #[.val (.ref a), .val (.ref ar)] [(.ref ar), (.int (0 : Int32)), (.ref ar), (.ref a)]))
  obtain ⟨c74, Ar74, -, S74, N74, -, -⟩ := id AC
  refine Run.pre (X0.arraylength hx (by rw [e0]; exact Ar74.1) (State.isArrayOf_alike hZ.alike Ar74.2.1) (g := (mkF m 4 #[.val (.ref a), .val (.ref ar)] [(.ref ar), (.int (0 : Int32)), (.ref ar), (.ref a)])) rfl rfl (hb hby d2_4)) ?_
  rw [len_of S74 N74]
  show Run p e below s _ _ _ (s₁.setTop (mkF m 5 #[.val (.ref a), .val (.ref ar)] [(.int (3 : Int32)), (.int (0 : Int32)), (.ref ar), (.ref a)]))
  refine Run.pre (fun _ k => XS.aconstNull X0.here hx rfl (hb hby d2_5) k) ?_
  show Run p e below s _ _ _ (s₁.setTop (mkF m 6 #[.val (.ref a), .val (.ref ar)] [.null, (.int (3 : Int32)), (.int (0 : Int32)), (.ref ar), (.ref a)]))
  refine Run.callI hS (by first | exact Nat.le_refl _ | (rw [e0]; exact (Nat.zero_le _))) X0 hx hZ (y := (⟨"java/lang/String", "<init>", "([CIILjava/lang/Void;)V"⟩ : MethodName)) rfl hown (hw _ (List.mem_of_getElem? (i := 11) rfl)) (hw _ (List.mem_of_getElem? (i := 12) rfl)) (hw _ (List.mem_of_getElem? (i := 14) rfl)) (hw _ (List.mem_of_getElem? (i := 6) rfl)) (by decide) (a := a) (W := 0) (rmI4_3 l Z a0 hw _ a ar kc c0 c1 c2 cs h0 n0 (Nat.le_trans Z0 (Keep.refl h0 [a]).1) OL SC hcs AC E_a FV FCo g_a nar_ q0 q1 q2) e0 (by decide) (by decide) (by decide) (by decide) (fun _ q => q.interned_eq) (g := (mkF m 6 #[.val (.ref a), .val (.ref ar)] [.null, (.int (3 : Int32)), (.int (0 : Int32)), (.ref ar), (.ref a)])) rfl (by rw [hml]; rfl) (argsL := [(.ref ar), (.int (0 : Int32)), (.int (3 : Int32)), .null]) (rest := []) (lenOf pd_3 rfl) rfl (by show 2 * 0 + _ ≤ _; exact Nat.le_of_eq rfl) (hb hby d2_6) ?_
  intro v75 T75 L75 X75 hS hZ hown hV75 hQ75
  obtain ⟨b75, k75, rfl, Nq75, Kc75, sz75, fc75, fv75, vb75, hI75⟩ := hQ75
  have N75 := Fr.app N0 Nq75
  have hI := hI75.trans hI
  have K75 : Keep h0 T75.heap [a] := (Keep.refl h0 [a]).trans Kc75 (allS (Or.inl (by simp)) all0)
  have sz_b75 : h0.size ≤ b75 := Nat.le_trans (Keep.refl h0 [a]).1 sz75
  have gn_b75 : n0 ≤ b75 := Nat.le_trans Z0 sz_b75
  show Run p e below s _ _ _ (T75.setTop (mkF m 9 #[.val (.ref a), .val (.ref ar)] []))
  exact Run.retV hS (Nat.le_refl _) X75 hx hret hlk (hb hby d2_9) ⟨b75, k75, rfl, N75, K75, sz_b75, fc75, fv75, vb75, X75.warmed.interned_eq.trans hI⟩ (by decide) (by decide)
theorem own_strAtoms {Z : State} {a0 : Array Value} (hw : ∀ d ∈ tables_1, d.before a0 Z = true) : ∀ a ∈ Bundle.stringAtoms, a.before a0 Z = true := by
  intro d hd
  simp only [Bundle.stringAtoms, Bundle.sN, List.mem_cons, List.not_mem_nil, or_false] at hd
  rcases hd with rfl | rfl | rfl | rfl | rfl | rfl | rfl
  · exact (hw _ (List.mem_of_getElem? (i := 6) rfl))
  · exact (hw _ (List.mem_of_getElem? (i := 5) rfl))
  · exact (hw _ (List.mem_of_getElem? (i := 19) rfl))
  · exact (hw _ (List.mem_of_getElem? (i := 20) rfl))
  · exact (hw _ (List.mem_of_getElem? (i := 21) rfl))
  · exact (hw _ (List.mem_of_getElem? (i := 22) rfl))
  · exact (hw _ (List.mem_of_getElem? (i := 23) rfl))
def own_LB (Z : State) (h : Heap) (vm : Vm) : Prop := IB Z vm [] ∨ ∃ (al bl : Addr) (kl : ClassId), Lit (Z.setVm vm) "java/lang/String" 7 al ∧ Exa Z h al "java/lang/String" ∧ Fld Z h al "java/lang/String" "coder" "B" (.int 0) ∧ Fld Z h al "java/lang/String" "value" "[B" (.ref bl) ∧ Arv Z h bl kl .byte 0 [] (.int 0)
theorem own_LBstep {Z s : State} {h h' : Heap} {vm vm' : Vm} (q : own_LB Z h vm) (hi : vm'.interned = vm.interned) (hW : (s.setVm vm).Warmed39 vm') (K : Keep h h' []) : own_LB Z h' vm' := by
  rcases q with ⟨more, e, r⟩ | ⟨al, bl, kl, L, E, C, V, B⟩
  · exact Or.inl ⟨more, by rw [hi]; exact e, r⟩
  · exact Or.inr ⟨al, bl, kl, Lit.stays (s := s) (vm0 := vm) L hW, E.keep K, C.keep K nin0, V.keep K nin0, B.keep K nin0⟩
theorem own_LBgo {Z s : State} {h h' : Heap} {vm vm' : Vm} (q : own_LB Z h vm) (w : (s.setVm vm).WarmedH vm') (K : Keep h h' []) : own_LB Z h' vm' := own_LBstep q w.interned_eq w.wide K
theorem d3_8 : decode jdk_42_method_149_code 8 = .ok (.aload_n 0, 1) := by decide +kernel
theorem d3_9 : decode jdk_42_method_149_code 9 = .ok (.ldc 7, 2) := by decide +kernel
theorem d3_11 : decode jdk_42_method_149_code 11 = .ok (.getfield 9, 3) := by decide +kernel
theorem d3_14 : decode jdk_42_method_149_code 14 = .ok (.putfield 9, 3) := by decide +kernel
theorem d3_17 : decode jdk_42_method_149_code 17 = .ok (.aload_n 0, 1) := by decide +kernel
theorem d3_18 : decode jdk_42_method_149_code 18 = .ok (.ldc 7, 2) := by decide +kernel
theorem d3_20 : decode jdk_42_method_149_code 20 = .ok (.getfield 15, 3) := by decide +kernel
theorem d3_23 : decode jdk_42_method_149_code 23 = .ok (.putfield 15, 3) := by decide +kernel
theorem d3_26 : decode jdk_42_method_149_code 26 = .ok (.return_, 1) := by decide +kernel
set_option maxRecDepth 65536 in
set_option maxHeartbeats 40000000 in
theorem rmI4_0 (l : Launch) (Z : State) (a0 : Array Value) (hw : ∀ d ∈ tables_1, d.before a0 Z = true) (a : Addr) (ar : Addr) (h0 : Heap) (n0 : Nat) (Z0 : n0 ≤ h0.size) (OL : Old Z n0 h0) (E_a : Exa Z h0 a "java/lang/String") (FV : Fld Z h0 a "java/lang/String" "value" "[B" .null) (FCo : Fld Z h0 a "java/lang/String" "coder" "B" (.int 0)) (g_a : n0 ≤ a) (hH : Jvm.Lit.constHeld Z "java/lang/String" 7) (hcw : Jvm.Lit.compactW.before a0 Z = true) :
    Con l (⟨"java/lang/String", "<init>", "([CIILjava/lang/Void;)V"⟩ : MethodName) jdk_42_method_149_code 6 none ({ frames := 1, cells := 2, slots := 4, locals := 12 } : Room) Z #[(.ref a), (.ref ar), (.int (0 : Int32)), (.int (0 : Int32)), .null] h0 (own_LB Z h0) (fun v h L vm => ∃ b : Addr, ∃ k : ClassId, v = none ∧ Fr n0 L ∧ Keep h0 h [a] ∧ b ≠ a ∧ Fld Z h a "java/lang/String" "coder" "B" (.int 0) ∧ Fld Z h a "java/lang/String" "value" "[B" (.ref b) ∧ Arv Z h b k .byte 0 [] (.int 0) ∧ own_LB Z h vm) := by
  refine Con.mk (plainFor_of_name pn_3) (fun m => show entryFrame m #[(.ref a), (.ref ar), (.int (0 : Int32)), (.int (0 : Int32)), .null] 6 = mkF m 0 #[.val (.ref a), .val (.ref ar), .val (.int (0 : Int32)), .val (.int (0 : Int32)), .val .null, .unset] [] by first | (simp [entryFrame, mkF, argsToLocals, Value.category]; done) | rfl) ?_
  intro p e s m below meth c s₁ vm0 hx hby hml hown hnm hret hlk hZ X0 e0 hS hs0 hP0
  have N0 := Fr.nil n0
  show Run p e below s _ _ _ (s₁.setTop (mkF m 0 #[.val (.ref a), .val (.ref ar), .val (.int (0 : Int32)), .val (.int (0 : Int32)), .val .null, .unset] []))
  refine Run.pre (fun _ k => XS.aloadN X0.here hx rfl (hb hby d3_0) rfl rfl k) ?_
  show Run p e below s _ _ _ (s₁.setTop (mkF m 1 #[.val (.ref a), .val (.ref ar), .val (.int (0 : Int32)), .val (.int (0 : Int32)), .val .null, .unset] [(.ref a)]))
  obtain ⟨T76, X76, e76, st76⟩ := initO X0 hx hZ hown (hw _ (List.mem_of_getElem? (i := 15) rfl)) (hw _ (List.mem_of_getElem? (i := 16) rfl)) (hw _ (List.mem_of_getElem? (i := 17) rfl)) e0 (g := (mkF m 1 #[.val (.ref a), .val (.ref ar), .val (.int (0 : Int32)), .val (.int (0 : Int32)), .val .null, .unset] [(.ref a)])) rfl (by rw [hml]; rfl) rfl (hb hby d3_1) (by decide) (W := 0) (by show 2 * 0 + _ ≤ _; exact Nat.le_of_eq rfl) (by decide)
  refine Run.pre st76 ?_
  show Run p e below s _ _ _ (T76.setTop (mkF m 4 #[.val (.ref a), .val (.ref ar), .val (.int (0 : Int32)), .val (.int (0 : Int32)), .val .null, .unset] []))
  refine Run.pre (fun _ k => XS.iloadN X76.here hx rfl (hb hby d3_4) rfl  k) ?_
  show Run p e below s _ _ _ (T76.setTop (mkF m 5 #[.val (.ref a), .val (.ref ar), .val (.int (0 : Int32)), .val (.int (0 : Int32)), .val .null, .unset] [(.int (0 : Int32))]))
  refine Run.pre (fun _ k => XS.ifNo X76.here hx rfl (hb hby d3_5) rfl ((if0 _ _).trans (teq ((by decide) : (0 : Int32) = (0 : Int32))).2) k) ?_
  show Run p e below s _ _ _ (T76.setTop (mkF m 8 #[.val (.ref a), .val (.ref ar), .val (.int (0 : Int32)), .val (.int (0 : Int32)), .val .null, .unset] []))
  refine Run.pre (fun _ k => XS.aloadN X76.here hx rfl (hb hby d3_8) rfl rfl k) ?_
  show Run p e below s _ _ _ (T76.setTop (mkF m 9 #[.val (.ref a), .val (.ref ar), .val (.int (0 : Int32)), .val (.int (0 : Int32)), .val .null, .unset] [(.ref a)]))
  rcases hP0 with hP0 | ⟨al, bl, kl, Lt9, El, Cl, Vl, Bl⟩
  · skip
    show Run p e below s _ _ _ (T76.setTop (mkF m 9 #[.val (.ref a), .val (.ref ar), .val (.int (0 : Int32)), .val (.int (0 : Int32)), .val .null, .unset] [(.ref a)]))
    obtain ⟨al, T9, h9, k9, bl, kl, X9, e9, E9, hS, hk9, hZ, hown, El, Cl, Vl, Bl, -, -, I9, Lt9, st9⟩ := ldcSVL (s := s) X76 hx hZ hown (hw _ (List.mem_of_getElem? (i := 18) rfl)) (own_strAtoms hw) e76 hS (Nat.zero_le _) (Fr.nil _) (fun b cl q => by rw [hs0]; exact OL.2.2 b cl q) hP0 (by simp) hH hcw (vs := []) (z := 0) ⟨by simp, rfl⟩ (by decide) rfl (g := (mkF m 9 #[.val (.ref a), .val (.ref ar), .val (.int (0 : Int32)), .val (.int (0 : Int32)), .val .null, .unset] [(.ref a)])) rfl (hb hby d3_9) (n := 0) (by decide) (by decide) (by decide) (by decide)
    refine Run.pre st9 ?_
    have K9 : Keep h0 h9 [a] := (Keep.refl h0 [a]).ext E9
    have f77 := (FV.ext E9)
    have nala : al ≠ a := Vl.ne f77 (by simp)
    have f78 := (E_a.ext E9)
    have nbla : bl ≠ a := own_neArv f78 (hw _ (List.mem_of_getElem? (i := 5) rfl)) Bl
    show Run p e below s _ _ _ (T9.setTop (mkF m 11 #[.val (.ref a), .val (.ref ar), .val (.int (0 : Int32)), .val (.int (0 : Int32)), .val .null, .unset] [(.ref al), (.ref a)]))
    obtain ⟨T79, X79, e79, st79⟩ := getF X9 hx hZ hown (host := "") (Or.inl (hw _ (List.mem_of_getElem? (i := 24) rfl))) Via.refl e9 Vl (g := (mkF m 11 #[.val (.ref a), .val (.ref ar), .val (.int (0 : Int32)), .val (.int (0 : Int32)), .val .null, .unset] [(.ref al), (.ref a)])) rfl rfl (hb hby d3_11)
    refine Run.pre st79 ?_
    show Run p e below s _ _ _ (T79.setTop (mkF m 14 #[.val (.ref a), .val (.ref ar), .val (.int (0 : Int32)), .val (.int (0 : Int32)), .val .null, .unset] [(.ref bl), (.ref a)]))
    obtain ⟨T80, h80, X80, e80, W80, st80⟩ := putF X79 hx hZ hown (host := "") (Or.inl (hw _ (List.mem_of_getElem? (i := 24) rfl))) Via.refl e79 f77 f78 (Or.inr ⟨(hw _ (List.mem_of_getElem? (i := 20) rfl)), rfl, hnm⟩) (hw _ (List.mem_of_getElem? (i := 5) rfl)) (ty := (.array .byte)) (by decide) rfl rfl (g := (mkF m 14 #[.val (.ref a), .val (.ref ar), .val (.int (0 : Int32)), .val (.int (0 : Int32)), .val .null, .unset] [(.ref bl), (.ref a)])) rfl rfl (hb hby d3_14)
    refine Run.pre st80 ?_
    have Fw80 := f77.same W80
    have K80 : Keep h0 h80 [a] := K9.wr W80 (Or.inl (by simp))
    have N80 := Fr.snoc X80 N0 g_a
    show Run p e below s _ _ _ (T80.setTop (mkF m 17 #[.val (.ref a), .val (.ref ar), .val (.int (0 : Int32)), .val (.int (0 : Int32)), .val .null, .unset] []))
    refine Run.pre (fun _ k => XS.aloadN X80.here hx rfl (hb hby d3_17) rfl rfl k) ?_
    show Run p e below s _ _ _ (T80.setTop (mkF m 18 #[.val (.ref a), .val (.ref ar), .val (.int (0 : Int32)), .val (.int (0 : Int32)), .val .null, .unset] [(.ref a)]))
    refine Run.pre (ldcAgain (s := s) (vm0 := T9.vm) X80 hx hZ hown (hw _ (List.mem_of_getElem? (i := 18) rfl)) (a := al) Lt9 (g := (mkF m 18 #[.val (.ref a), .val (.ref ar), .val (.int (0 : Int32)), .val (.int (0 : Int32)), .val .null, .unset] [(.ref a)])) rfl (hb hby d3_18)) ?_
    show Run p e below s _ _ _ (T80.setTop (mkF m 20 #[.val (.ref a), .val (.ref ar), .val (.int (0 : Int32)), .val (.int (0 : Int32)), .val .null, .unset] [(.ref al), (.ref a)]))
    have f81 := (Cl.other W80 (Or.inl nala))
    obtain ⟨T82, X82, e82, st82⟩ := getF X80 hx hZ hown (host := "") (Or.inl (hw _ (List.mem_of_getElem? (i := 25) rfl))) Via.refl e80 f81 (g := (mkF m 20 #[.val (.ref a), .val (.ref ar), .val (.int (0 : Int32)), .val (.int (0 : Int32)), .val .null, .unset] [(.ref al), (.ref a)])) rfl rfl (hb hby d3_20)
    refine Run.pre st82 ?_
    show Run p e below s _ _ _ (T82.setTop (mkF m 23 #[.val (.ref a), .val (.ref ar), .val (.int (0 : Int32)), .val (.int (0 : Int32)), .val .null, .unset] [(.int (0 : Int32)), (.ref a)]))
    have f83 := (f78.wr W80)
    have f84 := ((FCo.ext E9).other W80 (Or.inr (slot_ne (Or.inr (hw _ (List.mem_of_getElem? (i := 21) rfl))) (Or.inr (hw _ (List.mem_of_getElem? (i := 20) rfl))) (by decide) (t := .byte) (t' := (.array .byte)) (by decide) (by decide))))
    obtain ⟨T85, h85, X85, e85, W85, st85⟩ := putFN X82 hx hZ hown (hw _ (List.mem_of_getElem? (i := 25) rfl)) Via.refl e82 f84 f83 (Or.inr ⟨(hw _ (List.mem_of_getElem? (i := 21) rfl)), rfl, hnm⟩) (hw _ (List.mem_of_getElem? (i := 5) rfl)) (ty := .byte) (v' := (.int (nar .byte (0 : Int32)))) (by decide) rfl (fits_nar_byte _) (g := (mkF m 23 #[.val (.ref a), .val (.ref ar), .val (.int (0 : Int32)), .val (.int (0 : Int32)), .val .null, .unset] [(.int (0 : Int32)), (.ref a)])) rfl rfl (hb hby d3_23)
    refine Run.pre st85 ?_
    have Fw85 := f84.same W85
    have K85 : Keep h0 h85 [a] := K80.wr W85 (Or.inl (by simp))
    have N85 := Fr.snoc X85 N80 g_a
    show Run p e below s _ _ _ (T85.setTop (mkF m 26 #[.val (.ref a), .val (.ref ar), .val (.int (0 : Int32)), .val (.int (0 : Int32)), .val .null, .unset] []))
    have f86 := ((Bl.other W80 nbla).other W85 nbla)
    have f87 := (Fw80.other W85 (Or.inr (slot_ne (Or.inr (hw _ (List.mem_of_getElem? (i := 20) rfl))) (Or.inr (hw _ (List.mem_of_getElem? (i := 21) rfl))) (by decide) (t := (.array .byte)) (t' := .byte) (by decide) (by decide))))
    have f88 := ((El.wr W80).wr W85)
    have f89 := (f81.other W85 (Or.inl nala))
    have f90 := ((Vl.other W80 (Or.inl nala)).other W85 (Or.inl nala))
    exact Run.retV hS (by first | exact Nat.le_refl _ | (rw [e85]; exact (Nat.le_trans (Nat.le_trans hk9 (Keep.of_wr W80).1) (Keep.of_wr W85).1))) X85 hx hret hlk (hb hby d3_26) (by first | (rw [e85]; exact ⟨bl, kl, rfl, N85, K85, nbla, Fw85, f87, f86, Or.inr ⟨al, bl, kl, Lit.stays (s := s) (vm0 := T9.vm) Lt9 X85.warmed.wide, f88, f89, f90, f86⟩⟩) | exact ⟨bl, kl, rfl, N85, K85, nbla, Fw85, f87, f86, Or.inr ⟨al, bl, kl, Lit.stays (s := s) (vm0 := T9.vm) Lt9 X85.warmed.wide, f88, f89, f90, f86⟩⟩) (by decide) (by decide)
  · skip
    have nala : al ≠ a := Vl.ne FV (by simp)
    have nbla : bl ≠ a := own_neArv E_a (hw _ (List.mem_of_getElem? (i := 5) rfl)) Bl
    show Run p e below s _ _ _ (T76.setTop (mkF m 9 #[.val (.ref a), .val (.ref ar), .val (.int (0 : Int32)), .val (.int (0 : Int32)), .val .null, .unset] [(.ref a)]))
    refine Run.pre (ldcAgain (s := s) (vm0 := vm0) X76 hx hZ hown (hw _ (List.mem_of_getElem? (i := 18) rfl)) (a := al) Lt9 (g := (mkF m 9 #[.val (.ref a), .val (.ref ar), .val (.int (0 : Int32)), .val (.int (0 : Int32)), .val .null, .unset] [(.ref a)])) rfl (hb hby d3_9)) ?_
    show Run p e below s _ _ _ (T76.setTop (mkF m 11 #[.val (.ref a), .val (.ref ar), .val (.int (0 : Int32)), .val (.int (0 : Int32)), .val .null, .unset] [(.ref al), (.ref a)]))
    obtain ⟨T91, X91, e91, st91⟩ := getF X76 hx hZ hown (host := "") (Or.inl (hw _ (List.mem_of_getElem? (i := 24) rfl))) Via.refl e76 Vl (g := (mkF m 11 #[.val (.ref a), .val (.ref ar), .val (.int (0 : Int32)), .val (.int (0 : Int32)), .val .null, .unset] [(.ref al), (.ref a)])) rfl rfl (hb hby d3_11)
    refine Run.pre st91 ?_
    show Run p e below s _ _ _ (T91.setTop (mkF m 14 #[.val (.ref a), .val (.ref ar), .val (.int (0 : Int32)), .val (.int (0 : Int32)), .val .null, .unset] [(.ref bl), (.ref a)]))
    obtain ⟨T92, h92, X92, e92, W92, st92⟩ := putF X91 hx hZ hown (host := "") (Or.inl (hw _ (List.mem_of_getElem? (i := 24) rfl))) Via.refl e91 FV E_a (Or.inr ⟨(hw _ (List.mem_of_getElem? (i := 20) rfl)), rfl, hnm⟩) (hw _ (List.mem_of_getElem? (i := 5) rfl)) (ty := (.array .byte)) (by decide) rfl rfl (g := (mkF m 14 #[.val (.ref a), .val (.ref ar), .val (.int (0 : Int32)), .val (.int (0 : Int32)), .val .null, .unset] [(.ref bl), (.ref a)])) rfl rfl (hb hby d3_14)
    refine Run.pre st92 ?_
    have Fw92 := FV.same W92
    have K92 : Keep h0 h92 [a] := (Keep.refl h0 [a]).wr W92 (Or.inl (by simp))
    have N92 := Fr.snoc X92 N0 g_a
    show Run p e below s _ _ _ (T92.setTop (mkF m 17 #[.val (.ref a), .val (.ref ar), .val (.int (0 : Int32)), .val (.int (0 : Int32)), .val .null, .unset] []))
    refine Run.pre (fun _ k => XS.aloadN X92.here hx rfl (hb hby d3_17) rfl rfl k) ?_
    show Run p e below s _ _ _ (T92.setTop (mkF m 18 #[.val (.ref a), .val (.ref ar), .val (.int (0 : Int32)), .val (.int (0 : Int32)), .val .null, .unset] [(.ref a)]))
    refine Run.pre (ldcAgain (s := s) (vm0 := vm0) X92 hx hZ hown (hw _ (List.mem_of_getElem? (i := 18) rfl)) (a := al) Lt9 (g := (mkF m 18 #[.val (.ref a), .val (.ref ar), .val (.int (0 : Int32)), .val (.int (0 : Int32)), .val .null, .unset] [(.ref a)])) rfl (hb hby d3_18)) ?_
    show Run p e below s _ _ _ (T92.setTop (mkF m 20 #[.val (.ref a), .val (.ref ar), .val (.int (0 : Int32)), .val (.int (0 : Int32)), .val .null, .unset] [(.ref al), (.ref a)]))
    have f93 := (Cl.other W92 (Or.inl nala))
    obtain ⟨T94, X94, e94, st94⟩ := getF X92 hx hZ hown (host := "") (Or.inl (hw _ (List.mem_of_getElem? (i := 25) rfl))) Via.refl e92 f93 (g := (mkF m 20 #[.val (.ref a), .val (.ref ar), .val (.int (0 : Int32)), .val (.int (0 : Int32)), .val .null, .unset] [(.ref al), (.ref a)])) rfl rfl (hb hby d3_20)
    refine Run.pre st94 ?_
    show Run p e below s _ _ _ (T94.setTop (mkF m 23 #[.val (.ref a), .val (.ref ar), .val (.int (0 : Int32)), .val (.int (0 : Int32)), .val .null, .unset] [(.int (0 : Int32)), (.ref a)]))
    have f95 := (E_a.wr W92)
    have f96 := (FCo.other W92 (Or.inr (slot_ne (Or.inr (hw _ (List.mem_of_getElem? (i := 21) rfl))) (Or.inr (hw _ (List.mem_of_getElem? (i := 20) rfl))) (by decide) (t := .byte) (t' := (.array .byte)) (by decide) (by decide))))
    obtain ⟨T97, h97, X97, e97, W97, st97⟩ := putFN X94 hx hZ hown (hw _ (List.mem_of_getElem? (i := 25) rfl)) Via.refl e94 f96 f95 (Or.inr ⟨(hw _ (List.mem_of_getElem? (i := 21) rfl)), rfl, hnm⟩) (hw _ (List.mem_of_getElem? (i := 5) rfl)) (ty := .byte) (v' := (.int (nar .byte (0 : Int32)))) (by decide) rfl (fits_nar_byte _) (g := (mkF m 23 #[.val (.ref a), .val (.ref ar), .val (.int (0 : Int32)), .val (.int (0 : Int32)), .val .null, .unset] [(.int (0 : Int32)), (.ref a)])) rfl rfl (hb hby d3_23)
    refine Run.pre st97 ?_
    have Fw97 := f96.same W97
    have K97 : Keep h0 h97 [a] := K92.wr W97 (Or.inl (by simp))
    have N97 := Fr.snoc X97 N92 g_a
    show Run p e below s _ _ _ (T97.setTop (mkF m 26 #[.val (.ref a), .val (.ref ar), .val (.int (0 : Int32)), .val (.int (0 : Int32)), .val .null, .unset] []))
    have f98 := ((Bl.other W92 nbla).other W97 nbla)
    have f99 := (Fw92.other W97 (Or.inr (slot_ne (Or.inr (hw _ (List.mem_of_getElem? (i := 20) rfl))) (Or.inr (hw _ (List.mem_of_getElem? (i := 21) rfl))) (by decide) (t := (.array .byte)) (t' := .byte) (by decide) (by decide))))
    have f100 := ((El.wr W92).wr W97)
    have f101 := (f93.other W97 (Or.inl nala))
    have f102 := ((Vl.other W92 (Or.inl nala)).other W97 (Or.inl nala))
    exact Run.retV hS (by first | exact Nat.le_refl _ | (rw [e97]; exact (Nat.le_trans (Nat.le_trans (Nat.zero_le _) (Keep.of_wr W92).1) (Keep.of_wr W97).1))) X97 hx hret hlk (hb hby d3_26) (by first | (rw [e97]; exact ⟨bl, kl, rfl, N97, K97, nbla, Fw97, f99, f98, Or.inr ⟨al, bl, kl, Lit.stays (s := s) (vm0 := vm0) Lt9 X97.warmed.wide, f100, f101, f102, f98⟩⟩) | exact ⟨bl, kl, rfl, N97, K97, nbla, Fw97, f99, f98, Or.inr ⟨al, bl, kl, Lit.stays (s := s) (vm0 := vm0) Lt9 X97.warmed.wide, f100, f101, f102, f98⟩⟩) (by decide) (by decide)
set_option maxRecDepth 65536 in
set_option maxHeartbeats 40000000 in
theorem rmI_0 (l : Launch) (Z : State) (a0 : Array Value) (hw : ∀ d ∈ tables_1, d.before a0 Z = true) (a : Addr) (ar : Addr) (kc : ClassId) (h0 : Heap) (n0 : Nat) (Z0 : n0 ≤ h0.size) (OL : Old Z n0 h0) (E_a : Exa Z h0 a "java/lang/String") (FV : Fld Z h0 a "java/lang/String" "value" "[B" .null) (FCo : Fld Z h0 a "java/lang/String" "coder" "B" (.int 0)) (g_a : n0 ≤ a) (hH : Jvm.Lit.constHeld Z "java/lang/String" 7) (hcw : Jvm.Lit.compactW.before a0 Z = true) (AC : Arv Z h0 ar kc .char 0 [] (.int 0)) :
    Con l (⟨"java/lang/String", "<init>", "([C)V"⟩ : MethodName) jdk_42_method_3_code 2 none ({ frames := 2, cells := 2, slots := 4, locals := 29 } : Room) Z #[(.ref a), (.ref ar)] h0 (own_LB Z h0) (fun v h L vm => ∃ b : Addr, ∃ k : ClassId, v = none ∧ Fr n0 L ∧ Keep h0 h [a] ∧ b ≠ a ∧ Fld Z h a "java/lang/String" "coder" "B" (.int 0) ∧ Fld Z h a "java/lang/String" "value" "[B" (.ref b) ∧ Arv Z h b k .byte 0 [] (.int 0) ∧ own_LB Z h vm) := by
  refine Con.mk (plainFor_of_name pn_2) (fun m => show entryFrame m #[(.ref a), (.ref ar)] 2 = mkF m 0 #[.val (.ref a), .val (.ref ar)] [] by first | (simp [entryFrame, mkF, argsToLocals, Value.category]; done) | rfl) ?_
  intro p e s m below meth c s₁ vm0 hx hby hml hown hnm hret hlk hZ X0 e0 hS hs0 hP0
  have N0 := Fr.nil n0
  show Run p e below s _ _ _ (s₁.setTop (mkF m 0 #[.val (.ref a), .val (.ref ar)] []))
  refine Run.pre (fun _ k => XS.aloadN X0.here hx rfl (hb hby d2_0) rfl rfl k) ?_
  show Run p e below s _ _ _ (s₁.setTop (mkF m 1 #[.val (.ref a), .val (.ref ar)] [(.ref a)]))
  refine Run.pre (fun _ k => XS.aloadN X0.here hx rfl (hb hby d2_1) rfl rfl k) ?_
  show Run p e below s _ _ _ (s₁.setTop (mkF m 2 #[.val (.ref a), .val (.ref ar)] [(.ref ar), (.ref a)]))
  refine Run.pre (fun _ k => XS.iconst X0.here hx rfl (hb hby d2_2) k) ?_
  show Run p e below s _ _ _ (s₁.setTop (mkF m 3 #[.val (.ref a), .val (.ref ar)] [(.int (0 : Int32)), (.ref ar), (.ref a)]))
  refine Run.pre (fun _ k => XS.aloadN X0.here hx rfl (hb hby d2_3) rfl rfl k) ?_
  show Run p e below s _ _ _ (s₁.setTop (mkF m 4 #[.val (.ref a), .val (.ref ar)] [(.ref ar), (.int (0 : Int32)), (.ref ar), (.ref a)]))
  obtain ⟨c103, Ar103, -, S103, N103, -, -⟩ := id AC
  refine Run.pre (X0.arraylength hx (by rw [e0]; exact Ar103.1) (State.isArrayOf_alike hZ.alike Ar103.2.1) (g := (mkF m 4 #[.val (.ref a), .val (.ref ar)] [(.ref ar), (.int (0 : Int32)), (.ref ar), (.ref a)])) rfl rfl (hb hby d2_4)) ?_
  rw [len_of S103 N103]
  show Run p e below s _ _ _ (s₁.setTop (mkF m 5 #[.val (.ref a), .val (.ref ar)] [(.int (0 : Int32)), (.int (0 : Int32)), (.ref ar), (.ref a)]))
  refine Run.pre (fun _ k => XS.aconstNull X0.here hx rfl (hb hby d2_5) k) ?_
  show Run p e below s _ _ _ (s₁.setTop (mkF m 6 #[.val (.ref a), .val (.ref ar)] [.null, (.int (0 : Int32)), (.int (0 : Int32)), (.ref ar), (.ref a)]))
  refine Run.callI hS (by first | exact Nat.le_refl _ | (rw [e0]; exact (Nat.zero_le _))) X0 hx hZ (y := (⟨"java/lang/String", "<init>", "([CIILjava/lang/Void;)V"⟩ : MethodName)) rfl hown (hw _ (List.mem_of_getElem? (i := 11) rfl)) (hw _ (List.mem_of_getElem? (i := 12) rfl)) (hw _ (List.mem_of_getElem? (i := 14) rfl)) (hw _ (List.mem_of_getElem? (i := 6) rfl)) (by decide) (a := a) (W := 0) (rmI4_0 l Z a0 hw a ar h0 n0 (Nat.le_trans Z0 (Keep.refl h0 [a]).1) OL E_a FV FCo g_a hH hcw) e0 (by decide) (by decide) (by decide) (by decide) (fun _ q => own_LBgo hP0 q (Keep.refl _ [])) (g := (mkF m 6 #[.val (.ref a), .val (.ref ar)] [.null, (.int (0 : Int32)), (.int (0 : Int32)), (.ref ar), (.ref a)])) rfl (by rw [hml]; rfl) (argsL := [(.ref ar), (.int (0 : Int32)), (.int (0 : Int32)), .null]) (rest := []) (lenOf pd_3 rfl) rfl (by show 2 * 0 + _ ≤ _; exact Nat.le_of_eq rfl) (hb hby d2_6) ?_
  intro v104 T104 L104 X104 hS hZ hown hV104 hQ104
  obtain ⟨b104, k104, rfl, Nq104, Kc104, nb104, fc104, fv104, vb104, lb104⟩ := hQ104
  have N104 := Fr.app N0 Nq104
  have K104 : Keep h0 T104.heap [a] := (Keep.refl h0 [a]).trans Kc104 (allS (Or.inl (by simp)) all0)
  show Run p e below s _ _ _ (T104.setTop (mkF m 9 #[.val (.ref a), .val (.ref ar)] []))
  exact Run.retV hS (Nat.le_refl _) X104 hx hret hlk (hb hby d2_9) ⟨b104, k104, rfl, N104, K104, nb104, fc104, fv104, vb104, own_LBgo lb104 X104.warmed (Keep.refl _ [])⟩ (by decide) (by decide)
theorem d1_0 : decode method_3_code 0 = .ok (.iload_n 0, 1) := by decide +kernel
theorem d1_1 : decode method_3_code 1 = .ok (.sipush 255, 3) := by decide +kernel
theorem d1_4 : decode method_3_code 4 = .ok (.iand, 1) := by decide +kernel
theorem d1_5 : decode method_3_code 5 = .ok (.i2c, 1) := by decide +kernel
theorem d1_6 : decode method_3_code 6 = .ok (.istore_n 1, 1) := by decide +kernel
theorem d1_7 : decode method_3_code 7 = .ok (.iload_n 0, 1) := by decide +kernel
theorem d1_8 : decode method_3_code 8 = .ok (.bipush 8, 2) := by decide +kernel
theorem d1_10 : decode method_3_code 10 = .ok (.iushr, 1) := by decide +kernel
theorem d1_11 : decode method_3_code 11 = .ok (.sipush 255, 3) := by decide +kernel
theorem d1_14 : decode method_3_code 14 = .ok (.iand, 1) := by decide +kernel
theorem d1_15 : decode method_3_code 15 = .ok (.i2c, 1) := by decide +kernel
theorem d1_16 : decode method_3_code 16 = .ok (.istore_n 2, 1) := by decide +kernel
theorem d1_17 : decode method_3_code 17 = .ok (.iload_n 0, 1) := by decide +kernel
theorem d1_18 : decode method_3_code 18 = .ok (.bipush 16, 2) := by decide +kernel
theorem d1_20 : decode method_3_code 20 = .ok (.iushr, 1) := by decide +kernel
theorem d1_21 : decode method_3_code 21 = .ok (.sipush 255, 3) := by decide +kernel
theorem d1_24 : decode method_3_code 24 = .ok (.iand, 1) := by decide +kernel
theorem d1_25 : decode method_3_code 25 = .ok (.i2c, 1) := by decide +kernel
theorem d1_26 : decode method_3_code 26 = .ok (.istore_n 3, 1) := by decide +kernel
theorem d1_27 : decode method_3_code 27 = .ok (.iload_n 0, 1) := by decide +kernel
theorem d1_28 : decode method_3_code 28 = .ok (.bipush 24, 2) := by decide +kernel
theorem d1_30 : decode method_3_code 30 = .ok (.iushr, 1) := by decide +kernel
theorem d1_31 : decode method_3_code 31 = .ok (.iconst 3, 1) := by decide +kernel
theorem d1_32 : decode method_3_code 32 = .ok (.iand, 1) := by decide +kernel
theorem d1_33 : decode method_3_code 33 = .ok (.istore 4, 2) := by decide +kernel
theorem d1_35 : decode method_3_code 35 = .ok (.iload 4, 2) := by decide +kernel
theorem d1_37 : decode method_3_code 37 = .ok (.ifCond .ne 14, 3) := by decide +kernel
theorem d1_40 : decode method_3_code 40 = .ok (.new 57, 3) := by decide +kernel
theorem d1_43 : decode method_3_code 43 = .ok (.dup, 1) := by decide +kernel
theorem d1_44 : decode method_3_code 44 = .ok (.iconst 0, 1) := by decide +kernel
theorem d1_45 : decode method_3_code 45 = .ok (.newarray .char, 2) := by decide +kernel
theorem pd_4 : parseMethodDescriptor "([C)V" = some ⟨[(.array .char)], none⟩ := by decide +kernel
theorem d1_47 : decode method_3_code 47 = .ok (.invokespecial 61, 3) := by decide +kernel
theorem d1_50 : decode method_3_code 50 = .ok (.areturn, 1) := by decide +kernel
theorem d1_51 : decode method_3_code 51 = .ok (.iload 4, 2) := by decide +kernel
theorem d1_53 : decode method_3_code 53 = .ok (.iconst 1, 1) := by decide +kernel
theorem d1_54 : decode method_3_code 54 = .ok (.if_icmp .ne 18, 3) := by decide +kernel
theorem d1_57 : decode method_3_code 57 = .ok (.new 57, 3) := by decide +kernel
theorem d1_60 : decode method_3_code 60 = .ok (.dup, 1) := by decide +kernel
theorem d1_61 : decode method_3_code 61 = .ok (.iconst 1, 1) := by decide +kernel
theorem d1_62 : decode method_3_code 62 = .ok (.newarray .char, 2) := by decide +kernel
theorem d1_64 : decode method_3_code 64 = .ok (.dup, 1) := by decide +kernel
theorem d1_65 : decode method_3_code 65 = .ok (.iconst 0, 1) := by decide +kernel
theorem d1_66 : decode method_3_code 66 = .ok (.iload_n 1, 1) := by decide +kernel
theorem d1_67 : decode method_3_code 67 = .ok (.castore, 1) := by decide +kernel
theorem d1_68 : decode method_3_code 68 = .ok (.invokespecial 61, 3) := by decide +kernel
theorem d1_71 : decode method_3_code 71 = .ok (.areturn, 1) := by decide +kernel
theorem d1_72 : decode method_3_code 72 = .ok (.iload 4, 2) := by decide +kernel
theorem d1_74 : decode method_3_code 74 = .ok (.iconst 2, 1) := by decide +kernel
theorem d1_75 : decode method_3_code 75 = .ok (.if_icmp .ne 22, 3) := by decide +kernel
theorem d1_78 : decode method_3_code 78 = .ok (.new 57, 3) := by decide +kernel
theorem d1_81 : decode method_3_code 81 = .ok (.dup, 1) := by decide +kernel
theorem d1_82 : decode method_3_code 82 = .ok (.iconst 2, 1) := by decide +kernel
theorem d1_83 : decode method_3_code 83 = .ok (.newarray .char, 2) := by decide +kernel
theorem d1_85 : decode method_3_code 85 = .ok (.dup, 1) := by decide +kernel
theorem d1_86 : decode method_3_code 86 = .ok (.iconst 0, 1) := by decide +kernel
theorem d1_87 : decode method_3_code 87 = .ok (.iload_n 1, 1) := by decide +kernel
theorem d1_88 : decode method_3_code 88 = .ok (.castore, 1) := by decide +kernel
theorem d1_89 : decode method_3_code 89 = .ok (.dup, 1) := by decide +kernel
theorem d1_90 : decode method_3_code 90 = .ok (.iconst 1, 1) := by decide +kernel
theorem d1_91 : decode method_3_code 91 = .ok (.iload_n 2, 1) := by decide +kernel
theorem d1_92 : decode method_3_code 92 = .ok (.castore, 1) := by decide +kernel
theorem d1_93 : decode method_3_code 93 = .ok (.invokespecial 61, 3) := by decide +kernel
theorem d1_96 : decode method_3_code 96 = .ok (.areturn, 1) := by decide +kernel
theorem d1_97 : decode method_3_code 97 = .ok (.new 57, 3) := by decide +kernel
theorem d1_100 : decode method_3_code 100 = .ok (.dup, 1) := by decide +kernel
theorem d1_101 : decode method_3_code 101 = .ok (.iconst 3, 1) := by decide +kernel
theorem d1_102 : decode method_3_code 102 = .ok (.newarray .char, 2) := by decide +kernel
theorem d1_104 : decode method_3_code 104 = .ok (.dup, 1) := by decide +kernel
theorem d1_105 : decode method_3_code 105 = .ok (.iconst 0, 1) := by decide +kernel
theorem d1_106 : decode method_3_code 106 = .ok (.iload_n 1, 1) := by decide +kernel
theorem d1_107 : decode method_3_code 107 = .ok (.castore, 1) := by decide +kernel
theorem d1_108 : decode method_3_code 108 = .ok (.dup, 1) := by decide +kernel
theorem d1_109 : decode method_3_code 109 = .ok (.iconst 1, 1) := by decide +kernel
theorem d1_110 : decode method_3_code 110 = .ok (.iload_n 2, 1) := by decide +kernel
theorem d1_111 : decode method_3_code 111 = .ok (.castore, 1) := by decide +kernel
theorem d1_112 : decode method_3_code 112 = .ok (.dup, 1) := by decide +kernel
theorem d1_113 : decode method_3_code 113 = .ok (.iconst 2, 1) := by decide +kernel
theorem d1_114 : decode method_3_code 114 = .ok (.iload_n 3, 1) := by decide +kernel
theorem d1_115 : decode method_3_code 115 = .ok (.castore, 1) := by decide +kernel
theorem d1_116 : decode method_3_code 116 = .ok (.invokespecial 61, 3) := by decide +kernel
theorem d1_119 : decode method_3_code 119 = .ok (.areturn, 1) := by decide +kernel
theorem pn_1 : plainName "com/example/portcullis/portcullis/http/GateDecisionChallengedPinLaw" = true := by first | (simp [plainName, overriddenIn]; done) | decide +kernel
set_option maxRecDepth 65536 in
set_option maxHeartbeats 40000000 in
theorem rmMk (l : Launch) (Z : State) (a0 : Array Value) (hw : ∀ d ∈ tables_1, d.before a0 Z = true) (xx : Int32) (cs : Int32) (h0 : Heap) (n0 : Nat) (Z0 : n0 ≤ h0.size) (OL : Old Z n0 h0) (SC : Sta Z Z.heap "java/lang/String" "COMPACT_STRINGS" "Z" (.int cs)) (hcs : ¬ cs = 0) (hH : Jvm.Lit.constHeld Z "java/lang/String" 7) (hcw : Jvm.Lit.compactW.before a0 Z = true) :
    Con l (⟨"com/example/portcullis/portcullis/http/GateDecisionChallengedPinLaw", "mk", "(I)Ljava/lang/String;"⟩ : MethodName) method_3_code 5 (some (.object "java/lang/String")) ({ frames := 4, cells := 4, slots := 10, locals := 66 } : Room) Z #[(.int xx)] h0 (own_LB Z h0) (fun v h L vm => ∃ o : Addr, v = some (.ref o) ∧ Fr n0 L ∧ Keep h0 h [] ∧ h0.size ≤ o ∧ Exa Z h o "java/lang/String" ∧ own_LB Z h vm) := by
  refine Con.mk (plainFor_of_name pn_1) (fun m => show entryFrame m #[(.int xx)] 5 = mkF m 0 #[.val (.int xx), .unset, .unset, .unset, .unset] [] by first | (simp [entryFrame, mkF, argsToLocals, Value.category]; done) | rfl) ?_
  intro p e s m below meth c s₁ vm0 hx hby hml hown hnm hret hlk hZ X0 e0 hS hs0 hP0
  have N0 := Fr.nil n0
  show Run p e below s _ _ _ (s₁.setTop (mkF m 0 #[.val (.int xx), .unset, .unset, .unset, .unset] []))
  refine Run.pre (fun _ k => XS.iloadN X0.here hx rfl (hb hby d1_0) rfl  k) ?_
  show Run p e below s _ _ _ (s₁.setTop (mkF m 1 #[.val (.int xx), .unset, .unset, .unset, .unset] [(.int xx)]))
  refine Run.pre (fun _ k => XS.sipush X0.here hx rfl (hb hby d1_1) k) ?_
  show Run p e below s _ _ _ (s₁.setTop (mkF m 4 #[.val (.int xx), .unset, .unset, .unset, .unset] [(.int (255 : Int32)), (.int xx)]))
  refine Run.pre (fun _ k => XS.iand X0.here hx rfl (hb hby d1_4) rfl k) ?_
  show Run p e below s _ _ _ (s₁.setTop (mkF m 5 #[.val (.int xx), .unset, .unset, .unset, .unset] [(.int (xx &&& (255 : Int32)))]))
  refine Run.pre (fun _ k => XS.i2c X0.here hx rfl (hb hby d1_5) rfl k) ?_
  show Run p e below s _ _ _ (s₁.setTop (mkF m 6 #[.val (.int xx), .unset, .unset, .unset, .unset] [(.int ((xx &&& (255 : Int32)).toUInt32.toUInt16.toUInt32.toInt32))]))
  refine Run.pre (fun _ k => XS.istoreN X0.here hx rfl (hb hby d1_6) rfl (l' := #[.val (.int xx), .val (.int ((xx &&& (255 : Int32)).toUInt32.toUInt16.toUInt32.toInt32)), .unset, .unset, .unset]) rfl k) ?_
  show Run p e below s _ _ _ (s₁.setTop (mkF m 7 #[.val (.int xx), .val (.int ((xx &&& (255 : Int32)).toUInt32.toUInt16.toUInt32.toInt32)), .unset, .unset, .unset] []))
  refine Run.pre (fun _ k => XS.iloadN X0.here hx rfl (hb hby d1_7) rfl  k) ?_
  show Run p e below s _ _ _ (s₁.setTop (mkF m 8 #[.val (.int xx), .val (.int ((xx &&& (255 : Int32)).toUInt32.toUInt16.toUInt32.toInt32)), .unset, .unset, .unset] [(.int xx)]))
  refine Run.pre (fun _ k => XS.bipush X0.here hx rfl (hb hby d1_8) k) ?_
  show Run p e below s _ _ _ (s₁.setTop (mkF m 10 #[.val (.int xx), .val (.int ((xx &&& (255 : Int32)).toUInt32.toUInt16.toUInt32.toInt32)), .unset, .unset, .unset] [(.int (8 : Int32)), (.int xx)]))
  refine Run.pre (fun _ k => XS.iushr X0.here hx rfl (hb hby d1_10) rfl k) ?_
  show Run p e below s _ _ _ (s₁.setTop (mkF m 11 #[.val (.int xx), .val (.int ((xx &&& (255 : Int32)).toUInt32.toUInt16.toUInt32.toInt32)), .unset, .unset, .unset] [(.int ((xx.toUInt32 >>> ((8 : Int32) &&& 31).toUInt32).toInt32))]))
  refine Run.pre (fun _ k => XS.sipush X0.here hx rfl (hb hby d1_11) k) ?_
  show Run p e below s _ _ _ (s₁.setTop (mkF m 14 #[.val (.int xx), .val (.int ((xx &&& (255 : Int32)).toUInt32.toUInt16.toUInt32.toInt32)), .unset, .unset, .unset] [(.int (255 : Int32)), (.int ((xx.toUInt32 >>> ((8 : Int32) &&& 31).toUInt32).toInt32))]))
  refine Run.pre (fun _ k => XS.iand X0.here hx rfl (hb hby d1_14) rfl k) ?_
  show Run p e below s _ _ _ (s₁.setTop (mkF m 15 #[.val (.int xx), .val (.int ((xx &&& (255 : Int32)).toUInt32.toUInt16.toUInt32.toInt32)), .unset, .unset, .unset] [(.int (((xx.toUInt32 >>> ((8 : Int32) &&& 31).toUInt32).toInt32) &&& (255 : Int32)))]))
  refine Run.pre (fun _ k => XS.i2c X0.here hx rfl (hb hby d1_15) rfl k) ?_
  show Run p e below s _ _ _ (s₁.setTop (mkF m 16 #[.val (.int xx), .val (.int ((xx &&& (255 : Int32)).toUInt32.toUInt16.toUInt32.toInt32)), .unset, .unset, .unset] [(.int ((((xx.toUInt32 >>> ((8 : Int32) &&& 31).toUInt32).toInt32) &&& (255 : Int32)).toUInt32.toUInt16.toUInt32.toInt32))]))
  refine Run.pre (fun _ k => XS.istoreN X0.here hx rfl (hb hby d1_16) rfl (l' := #[.val (.int xx), .val (.int ((xx &&& (255 : Int32)).toUInt32.toUInt16.toUInt32.toInt32)), .val (.int ((((xx.toUInt32 >>> ((8 : Int32) &&& 31).toUInt32).toInt32) &&& (255 : Int32)).toUInt32.toUInt16.toUInt32.toInt32)), .unset, .unset]) rfl k) ?_
  show Run p e below s _ _ _ (s₁.setTop (mkF m 17 #[.val (.int xx), .val (.int ((xx &&& (255 : Int32)).toUInt32.toUInt16.toUInt32.toInt32)), .val (.int ((((xx.toUInt32 >>> ((8 : Int32) &&& 31).toUInt32).toInt32) &&& (255 : Int32)).toUInt32.toUInt16.toUInt32.toInt32)), .unset, .unset] []))
  refine Run.pre (fun _ k => XS.iloadN X0.here hx rfl (hb hby d1_17) rfl  k) ?_
  show Run p e below s _ _ _ (s₁.setTop (mkF m 18 #[.val (.int xx), .val (.int ((xx &&& (255 : Int32)).toUInt32.toUInt16.toUInt32.toInt32)), .val (.int ((((xx.toUInt32 >>> ((8 : Int32) &&& 31).toUInt32).toInt32) &&& (255 : Int32)).toUInt32.toUInt16.toUInt32.toInt32)), .unset, .unset] [(.int xx)]))
  refine Run.pre (fun _ k => XS.bipush X0.here hx rfl (hb hby d1_18) k) ?_
  show Run p e below s _ _ _ (s₁.setTop (mkF m 20 #[.val (.int xx), .val (.int ((xx &&& (255 : Int32)).toUInt32.toUInt16.toUInt32.toInt32)), .val (.int ((((xx.toUInt32 >>> ((8 : Int32) &&& 31).toUInt32).toInt32) &&& (255 : Int32)).toUInt32.toUInt16.toUInt32.toInt32)), .unset, .unset] [(.int (16 : Int32)), (.int xx)]))
  refine Run.pre (fun _ k => XS.iushr X0.here hx rfl (hb hby d1_20) rfl k) ?_
  show Run p e below s _ _ _ (s₁.setTop (mkF m 21 #[.val (.int xx), .val (.int ((xx &&& (255 : Int32)).toUInt32.toUInt16.toUInt32.toInt32)), .val (.int ((((xx.toUInt32 >>> ((8 : Int32) &&& 31).toUInt32).toInt32) &&& (255 : Int32)).toUInt32.toUInt16.toUInt32.toInt32)), .unset, .unset] [(.int ((xx.toUInt32 >>> ((16 : Int32) &&& 31).toUInt32).toInt32))]))
  refine Run.pre (fun _ k => XS.sipush X0.here hx rfl (hb hby d1_21) k) ?_
  show Run p e below s _ _ _ (s₁.setTop (mkF m 24 #[.val (.int xx), .val (.int ((xx &&& (255 : Int32)).toUInt32.toUInt16.toUInt32.toInt32)), .val (.int ((((xx.toUInt32 >>> ((8 : Int32) &&& 31).toUInt32).toInt32) &&& (255 : Int32)).toUInt32.toUInt16.toUInt32.toInt32)), .unset, .unset] [(.int (255 : Int32)), (.int ((xx.toUInt32 >>> ((16 : Int32) &&& 31).toUInt32).toInt32))]))
  refine Run.pre (fun _ k => XS.iand X0.here hx rfl (hb hby d1_24) rfl k) ?_
  show Run p e below s _ _ _ (s₁.setTop (mkF m 25 #[.val (.int xx), .val (.int ((xx &&& (255 : Int32)).toUInt32.toUInt16.toUInt32.toInt32)), .val (.int ((((xx.toUInt32 >>> ((8 : Int32) &&& 31).toUInt32).toInt32) &&& (255 : Int32)).toUInt32.toUInt16.toUInt32.toInt32)), .unset, .unset] [(.int (((xx.toUInt32 >>> ((16 : Int32) &&& 31).toUInt32).toInt32) &&& (255 : Int32)))]))
  refine Run.pre (fun _ k => XS.i2c X0.here hx rfl (hb hby d1_25) rfl k) ?_
  show Run p e below s _ _ _ (s₁.setTop (mkF m 26 #[.val (.int xx), .val (.int ((xx &&& (255 : Int32)).toUInt32.toUInt16.toUInt32.toInt32)), .val (.int ((((xx.toUInt32 >>> ((8 : Int32) &&& 31).toUInt32).toInt32) &&& (255 : Int32)).toUInt32.toUInt16.toUInt32.toInt32)), .unset, .unset] [(.int ((((xx.toUInt32 >>> ((16 : Int32) &&& 31).toUInt32).toInt32) &&& (255 : Int32)).toUInt32.toUInt16.toUInt32.toInt32))]))
  refine Run.pre (fun _ k => XS.istoreN X0.here hx rfl (hb hby d1_26) rfl (l' := #[.val (.int xx), .val (.int ((xx &&& (255 : Int32)).toUInt32.toUInt16.toUInt32.toInt32)), .val (.int ((((xx.toUInt32 >>> ((8 : Int32) &&& 31).toUInt32).toInt32) &&& (255 : Int32)).toUInt32.toUInt16.toUInt32.toInt32)), .val (.int ((((xx.toUInt32 >>> ((16 : Int32) &&& 31).toUInt32).toInt32) &&& (255 : Int32)).toUInt32.toUInt16.toUInt32.toInt32)), .unset]) rfl k) ?_
  show Run p e below s _ _ _ (s₁.setTop (mkF m 27 #[.val (.int xx), .val (.int ((xx &&& (255 : Int32)).toUInt32.toUInt16.toUInt32.toInt32)), .val (.int ((((xx.toUInt32 >>> ((8 : Int32) &&& 31).toUInt32).toInt32) &&& (255 : Int32)).toUInt32.toUInt16.toUInt32.toInt32)), .val (.int ((((xx.toUInt32 >>> ((16 : Int32) &&& 31).toUInt32).toInt32) &&& (255 : Int32)).toUInt32.toUInt16.toUInt32.toInt32)), .unset] []))
  refine Run.pre (fun _ k => XS.iloadN X0.here hx rfl (hb hby d1_27) rfl  k) ?_
  show Run p e below s _ _ _ (s₁.setTop (mkF m 28 #[.val (.int xx), .val (.int ((xx &&& (255 : Int32)).toUInt32.toUInt16.toUInt32.toInt32)), .val (.int ((((xx.toUInt32 >>> ((8 : Int32) &&& 31).toUInt32).toInt32) &&& (255 : Int32)).toUInt32.toUInt16.toUInt32.toInt32)), .val (.int ((((xx.toUInt32 >>> ((16 : Int32) &&& 31).toUInt32).toInt32) &&& (255 : Int32)).toUInt32.toUInt16.toUInt32.toInt32)), .unset] [(.int xx)]))
  refine Run.pre (fun _ k => XS.bipush X0.here hx rfl (hb hby d1_28) k) ?_
  show Run p e below s _ _ _ (s₁.setTop (mkF m 30 #[.val (.int xx), .val (.int ((xx &&& (255 : Int32)).toUInt32.toUInt16.toUInt32.toInt32)), .val (.int ((((xx.toUInt32 >>> ((8 : Int32) &&& 31).toUInt32).toInt32) &&& (255 : Int32)).toUInt32.toUInt16.toUInt32.toInt32)), .val (.int ((((xx.toUInt32 >>> ((16 : Int32) &&& 31).toUInt32).toInt32) &&& (255 : Int32)).toUInt32.toUInt16.toUInt32.toInt32)), .unset] [(.int (24 : Int32)), (.int xx)]))
  refine Run.pre (fun _ k => XS.iushr X0.here hx rfl (hb hby d1_30) rfl k) ?_
  show Run p e below s _ _ _ (s₁.setTop (mkF m 31 #[.val (.int xx), .val (.int ((xx &&& (255 : Int32)).toUInt32.toUInt16.toUInt32.toInt32)), .val (.int ((((xx.toUInt32 >>> ((8 : Int32) &&& 31).toUInt32).toInt32) &&& (255 : Int32)).toUInt32.toUInt16.toUInt32.toInt32)), .val (.int ((((xx.toUInt32 >>> ((16 : Int32) &&& 31).toUInt32).toInt32) &&& (255 : Int32)).toUInt32.toUInt16.toUInt32.toInt32)), .unset] [(.int ((xx.toUInt32 >>> ((24 : Int32) &&& 31).toUInt32).toInt32))]))
  refine Run.pre (fun _ k => XS.iconst X0.here hx rfl (hb hby d1_31) k) ?_
  show Run p e below s _ _ _ (s₁.setTop (mkF m 32 #[.val (.int xx), .val (.int ((xx &&& (255 : Int32)).toUInt32.toUInt16.toUInt32.toInt32)), .val (.int ((((xx.toUInt32 >>> ((8 : Int32) &&& 31).toUInt32).toInt32) &&& (255 : Int32)).toUInt32.toUInt16.toUInt32.toInt32)), .val (.int ((((xx.toUInt32 >>> ((16 : Int32) &&& 31).toUInt32).toInt32) &&& (255 : Int32)).toUInt32.toUInt16.toUInt32.toInt32)), .unset] [(.int (3 : Int32)), (.int ((xx.toUInt32 >>> ((24 : Int32) &&& 31).toUInt32).toInt32))]))
  refine Run.pre (fun _ k => XS.iand X0.here hx rfl (hb hby d1_32) rfl k) ?_
  show Run p e below s _ _ _ (s₁.setTop (mkF m 33 #[.val (.int xx), .val (.int ((xx &&& (255 : Int32)).toUInt32.toUInt16.toUInt32.toInt32)), .val (.int ((((xx.toUInt32 >>> ((8 : Int32) &&& 31).toUInt32).toInt32) &&& (255 : Int32)).toUInt32.toUInt16.toUInt32.toInt32)), .val (.int ((((xx.toUInt32 >>> ((16 : Int32) &&& 31).toUInt32).toInt32) &&& (255 : Int32)).toUInt32.toUInt16.toUInt32.toInt32)), .unset] [(.int (((xx.toUInt32 >>> ((24 : Int32) &&& 31).toUInt32).toInt32) &&& (3 : Int32)))]))
  refine Run.pre (fun _ k => XS.istore X0.here hx rfl (hb hby d1_33) rfl (l' := #[.val (.int xx), .val (.int ((xx &&& (255 : Int32)).toUInt32.toUInt16.toUInt32.toInt32)), .val (.int ((((xx.toUInt32 >>> ((8 : Int32) &&& 31).toUInt32).toInt32) &&& (255 : Int32)).toUInt32.toUInt16.toUInt32.toInt32)), .val (.int ((((xx.toUInt32 >>> ((16 : Int32) &&& 31).toUInt32).toInt32) &&& (255 : Int32)).toUInt32.toUInt16.toUInt32.toInt32)), .val (.int (((xx.toUInt32 >>> ((24 : Int32) &&& 31).toUInt32).toInt32) &&& (3 : Int32)))]) rfl k) ?_
  show Run p e below s _ _ _ (s₁.setTop (mkF m 35 #[.val (.int xx), .val (.int ((xx &&& (255 : Int32)).toUInt32.toUInt16.toUInt32.toInt32)), .val (.int ((((xx.toUInt32 >>> ((8 : Int32) &&& 31).toUInt32).toInt32) &&& (255 : Int32)).toUInt32.toUInt16.toUInt32.toInt32)), .val (.int ((((xx.toUInt32 >>> ((16 : Int32) &&& 31).toUInt32).toInt32) &&& (255 : Int32)).toUInt32.toUInt16.toUInt32.toInt32)), .val (.int (((xx.toUInt32 >>> ((24 : Int32) &&& 31).toUInt32).toInt32) &&& (3 : Int32)))] []))
  rcases own_and3 ((xx.toUInt32 >>> ((24 : Int32) &&& 31).toUInt32).toInt32) with hn | hn | hn | hn
  · rw [hn]
    show Run p e below s _ _ _ (s₁.setTop (mkF m 35 #[.val (.int xx), .val (.int ((xx &&& (255 : Int32)).toUInt32.toUInt16.toUInt32.toInt32)), .val (.int ((((xx.toUInt32 >>> ((8 : Int32) &&& 31).toUInt32).toInt32) &&& (255 : Int32)).toUInt32.toUInt16.toUInt32.toInt32)), .val (.int ((((xx.toUInt32 >>> ((16 : Int32) &&& 31).toUInt32).toInt32) &&& (255 : Int32)).toUInt32.toUInt16.toUInt32.toInt32)), .val (.int (0 : Int32))] []))
    refine Run.pre (fun _ k => XS.iload X0.here hx rfl (hb hby d1_35) rfl  k) ?_
    show Run p e below s _ _ _ (s₁.setTop (mkF m 37 #[.val (.int xx), .val (.int ((xx &&& (255 : Int32)).toUInt32.toUInt16.toUInt32.toInt32)), .val (.int ((((xx.toUInt32 >>> ((8 : Int32) &&& 31).toUInt32).toInt32) &&& (255 : Int32)).toUInt32.toUInt16.toUInt32.toInt32)), .val (.int ((((xx.toUInt32 >>> ((16 : Int32) &&& 31).toUInt32).toInt32) &&& (255 : Int32)).toUInt32.toUInt16.toUInt32.toInt32)), .val (.int (0 : Int32))] [(.int (0 : Int32))]))
    refine Run.pre (fun _ k => XS.ifNo X0.here hx rfl (hb hby d1_37) rfl ((if0 _ _).trans (teq ((by decide) : (0 : Int32) = (0 : Int32))).2) k) ?_
    show Run p e below s _ _ _ (s₁.setTop (mkF m 40 #[.val (.int xx), .val (.int ((xx &&& (255 : Int32)).toUInt32.toUInt16.toUInt32.toInt32)), .val (.int ((((xx.toUInt32 >>> ((8 : Int32) &&& 31).toUInt32).toInt32) &&& (255 : Int32)).toUInt32.toUInt16.toUInt32.toInt32)), .val (.int ((((xx.toUInt32 >>> ((16 : Int32) &&& 31).toUInt32).toInt32) &&& (255 : Int32)).toUInt32.toUInt16.toUInt32.toInt32)), .val (.int (0 : Int32))] []))
    obtain ⟨T105, h105, X105, e105, E105, A105, D105, -, st105⟩ := newO X0 hx hZ hown (hw _ (List.mem_of_getElem? (i := 4) rfl)) (hw _ (List.mem_of_getElem? (i := 5) rfl)) (hw _ (List.mem_of_getElem? (i := 6) rfl)) e0 (g := (mkF m 40 #[.val (.int xx), .val (.int ((xx &&& (255 : Int32)).toUInt32.toUInt16.toUInt32.toInt32)), .val (.int ((((xx.toUInt32 >>> ((8 : Int32) &&& 31).toUInt32).toInt32) &&& (255 : Int32)).toUInt32.toUInt16.toUInt32.toInt32)), .val (.int ((((xx.toUInt32 >>> ((16 : Int32) &&& 31).toUInt32).toInt32) &&& (255 : Int32)).toUInt32.toUInt16.toUInt32.toInt32)), .val (.int (0 : Int32))] [])) rfl (hb hby d1_40) (by decide) (by decide)
    obtain ⟨b105, g105⟩ : ∃ z, z = h0.size := ⟨_, rfl⟩
    rw [← g105] at A105 D105 st105
    refine Run.pre st105 ?_
    have gn_b105 : n0 ≤ b105 := Nat.le_trans (Nat.le_trans Z0 (Keep.refl h0 []).1) (Nat.le_of_eq g105.symm)
    have sz_b105 : h0.size ≤ b105 := Nat.le_trans (Keep.refl h0 []).1 (Nat.le_of_eq g105.symm)
    have K105 : Keep h0 h105 [] := (Keep.refl h0 []).ext E105
    have F_value_b105 : Fld Z h105 b105 "java/lang/String" "value" "[B" .null := D105 (Or.inr (hw _ (List.mem_of_getElem? (i := 20) rfl))) (ty := (.array .byte)) (by decide)
    have F_coder_b105 : Fld Z h105 b105 "java/lang/String" "coder" "B" (.int (0 : Int32)) := D105 (Or.inr (hw _ (List.mem_of_getElem? (i := 21) rfl))) (ty := .byte) (by decide)
    show Run p e below s _ _ _ (T105.setTop (mkF m 43 #[.val (.int xx), .val (.int ((xx &&& (255 : Int32)).toUInt32.toUInt16.toUInt32.toInt32)), .val (.int ((((xx.toUInt32 >>> ((8 : Int32) &&& 31).toUInt32).toInt32) &&& (255 : Int32)).toUInt32.toUInt16.toUInt32.toInt32)), .val (.int ((((xx.toUInt32 >>> ((16 : Int32) &&& 31).toUInt32).toInt32) &&& (255 : Int32)).toUInt32.toUInt16.toUInt32.toInt32)), .val (.int (0 : Int32))] [(.ref b105)]))
    refine Run.pre (fun _ k => XS.dup X105.here hx rfl (hb hby d1_43) rfl rfl k) ?_
    show Run p e below s _ _ _ (T105.setTop (mkF m 44 #[.val (.int xx), .val (.int ((xx &&& (255 : Int32)).toUInt32.toUInt16.toUInt32.toInt32)), .val (.int ((((xx.toUInt32 >>> ((8 : Int32) &&& 31).toUInt32).toInt32) &&& (255 : Int32)).toUInt32.toUInt16.toUInt32.toInt32)), .val (.int ((((xx.toUInt32 >>> ((16 : Int32) &&& 31).toUInt32).toInt32) &&& (255 : Int32)).toUInt32.toUInt16.toUInt32.toInt32)), .val (.int (0 : Int32))] [(.ref b105), (.ref b105)]))
    refine Run.pre (fun _ k => XS.iconst X105.here hx rfl (hb hby d1_44) k) ?_
    show Run p e below s _ _ _ (T105.setTop (mkF m 45 #[.val (.int xx), .val (.int ((xx &&& (255 : Int32)).toUInt32.toUInt16.toUInt32.toInt32)), .val (.int ((((xx.toUInt32 >>> ((8 : Int32) &&& 31).toUInt32).toInt32) &&& (255 : Int32)).toUInt32.toUInt16.toUInt32.toInt32)), .val (.int ((((xx.toUInt32 >>> ((16 : Int32) &&& 31).toUInt32).toInt32) &&& (255 : Int32)).toUInt32.toUInt16.toUInt32.toInt32)), .val (.int (0 : Int32))] [(.int (0 : Int32)), (.ref b105), (.ref b105)]))
    obtain ⟨T106, h106, k106, X106, e106, E106, A106, st106⟩ := newP X105 hx hZ (hw _ (List.mem_of_getElem? (i := 7) rfl)) e105 (g := (mkF m 45 #[.val (.int xx), .val (.int ((xx &&& (255 : Int32)).toUInt32.toUInt16.toUInt32.toInt32)), .val (.int ((((xx.toUInt32 >>> ((8 : Int32) &&& 31).toUInt32).toInt32) &&& (255 : Int32)).toUInt32.toUInt16.toUInt32.toInt32)), .val (.int ((((xx.toUInt32 >>> ((16 : Int32) &&& 31).toUInt32).toInt32) &&& (255 : Int32)).toUInt32.toUInt16.toUInt32.toInt32)), .val (.int (0 : Int32))] [(.int (0 : Int32)), (.ref b105), (.ref b105)])) rfl (hb hby d1_45) rfl (by decide) (cap := 0) (by decide) (by decide) (by decide) (by decide)
    obtain ⟨b106, g106⟩ : ∃ z, z = h105.size := ⟨_, rfl⟩
    rw [← g106] at A106 st106
    refine Run.pre st106 ?_
    have V_b106 : Arv Z h106 b106 k106 .char (0 : Int32) [] (.int (0 : Int32)) := Arv.new A106 (by decide)
    have gn_b106 : n0 ≤ b106 := Nat.le_trans (Nat.le_trans Z0 K105.1) (Nat.le_of_eq g106.symm)
    have sz_b106 : h0.size ≤ b106 := Nat.le_trans K105.1 (Nat.le_of_eq g106.symm)
    have K106 : Keep h0 h106 [] := K105.ext E106
    show Run p e below s _ _ _ (T106.setTop (mkF m 47 #[.val (.int xx), .val (.int ((xx &&& (255 : Int32)).toUInt32.toUInt16.toUInt32.toInt32)), .val (.int ((((xx.toUInt32 >>> ((8 : Int32) &&& 31).toUInt32).toInt32) &&& (255 : Int32)).toUInt32.toUInt16.toUInt32.toInt32)), .val (.int ((((xx.toUInt32 >>> ((16 : Int32) &&& 31).toUInt32).toInt32) &&& (255 : Int32)).toUInt32.toUInt16.toUInt32.toInt32)), .val (.int (0 : Int32))] [(.ref b106), (.ref b105), (.ref b105)]))
    have f107 := ((OL.ext E105).ext E106)
    have f108 := (A105.ext E106)
    have f109 := (F_value_b105.ext E106)
    have f110 := (F_coder_b105.ext E106)
    refine Run.callI hS (by first | exact Nat.le_refl _ | (rw [e106]; exact (Nat.le_trans (Nat.le_trans (Nat.zero_le _) E105.1) E106.1))) X106 hx hZ (y := (⟨"java/lang/String", "<init>", "([C)V"⟩ : MethodName)) rfl hown (hw _ (List.mem_of_getElem? (i := 8) rfl)) (hw _ (List.mem_of_getElem? (i := 9) rfl)) (hw _ (List.mem_of_getElem? (i := 10) rfl)) (hw _ (List.mem_of_getElem? (i := 6) rfl)) (by decide) (a := b105) (W := 1) (rmI_0 l Z a0 hw b105 b106 k106 h106 n0 (Nat.le_trans Z0 K106.1) f107 f108 f109 f110 gn_b105 hH hcw V_b106) e106 (by decide) (by decide) (by decide) (by decide) (fun _ q => own_LBgo hP0 q K106) (g := (mkF m 47 #[.val (.int xx), .val (.int ((xx &&& (255 : Int32)).toUInt32.toUInt16.toUInt32.toInt32)), .val (.int ((((xx.toUInt32 >>> ((8 : Int32) &&& 31).toUInt32).toInt32) &&& (255 : Int32)).toUInt32.toUInt16.toUInt32.toInt32)), .val (.int ((((xx.toUInt32 >>> ((16 : Int32) &&& 31).toUInt32).toInt32) &&& (255 : Int32)).toUInt32.toUInt16.toUInt32.toInt32)), .val (.int (0 : Int32))] [(.ref b106), (.ref b105), (.ref b105)])) rfl (by rw [hml]; rfl) (argsL := [(.ref b106)]) (rest := [(.ref b105)]) (lenOf pd_4 rfl) rfl (by show 2 * 0 + _ ≤ _; exact Nat.le_of_eq rfl) (hb hby d1_47) ?_
    intro v111 T111 L111 X111 hS hZ hown hV111 hQ111
    obtain ⟨b111, k111, rfl, Nq111, Kc111, nb111, fc111, fv111, vb111, lb111⟩ := hQ111
    have N111 := Fr.app N0 Nq111
    have K111 : Keep h0 T111.heap [] := K106.trans Kc111 (allS (Or.inr sz_b105) all0)
    show Run p e below s _ _ _ (T111.setTop (mkF m 50 #[.val (.int xx), .val (.int ((xx &&& (255 : Int32)).toUInt32.toUInt16.toUInt32.toInt32)), .val (.int ((((xx.toUInt32 >>> ((8 : Int32) &&& 31).toUInt32).toInt32) &&& (255 : Int32)).toUInt32.toUInt16.toUInt32.toInt32)), .val (.int ((((xx.toUInt32 >>> ((16 : Int32) &&& 31).toUInt32).toInt32) &&& (255 : Int32)).toUInt32.toUInt16.toUInt32.toInt32)), .val (.int (0 : Int32))] [(.ref b105)]))
    have f112 := (f108.keep Kc111)
    exact Run.retA hS (Nat.le_refl _) X111 hx hret rfl rfl hlk (hb hby d1_50) ⟨b105, rfl, N111, K111, sz_b105, f112, own_LBgo lb111 X111.warmed (Keep.refl _ [])⟩ (by decide) (by decide)
  · rw [hn]
    show Run p e below s _ _ _ (s₁.setTop (mkF m 35 #[.val (.int xx), .val (.int ((xx &&& (255 : Int32)).toUInt32.toUInt16.toUInt32.toInt32)), .val (.int ((((xx.toUInt32 >>> ((8 : Int32) &&& 31).toUInt32).toInt32) &&& (255 : Int32)).toUInt32.toUInt16.toUInt32.toInt32)), .val (.int ((((xx.toUInt32 >>> ((16 : Int32) &&& 31).toUInt32).toInt32) &&& (255 : Int32)).toUInt32.toUInt16.toUInt32.toInt32)), .val (.int (1 : Int32))] []))
    refine Run.pre (fun _ k => XS.iload X0.here hx rfl (hb hby d1_35) rfl  k) ?_
    show Run p e below s _ _ _ (s₁.setTop (mkF m 37 #[.val (.int xx), .val (.int ((xx &&& (255 : Int32)).toUInt32.toUInt16.toUInt32.toInt32)), .val (.int ((((xx.toUInt32 >>> ((8 : Int32) &&& 31).toUInt32).toInt32) &&& (255 : Int32)).toUInt32.toUInt16.toUInt32.toInt32)), .val (.int ((((xx.toUInt32 >>> ((16 : Int32) &&& 31).toUInt32).toInt32) &&& (255 : Int32)).toUInt32.toUInt16.toUInt32.toInt32)), .val (.int (1 : Int32))] [(.int (1 : Int32))]))
    refine Run.pre (fun _ k => XS.ifYes X0.here hx rfl (pc0 := 37) (pc' := 51) rfl (hb hby d1_37) rfl ((if0 _ _).trans (feq ((by decide) : ¬ ((1 : Int32) = (0 : Int32)))).2) (by decide) (by decide) k) ?_
    show Run p e below s _ _ _ (s₁.setTop (mkF m 51 #[.val (.int xx), .val (.int ((xx &&& (255 : Int32)).toUInt32.toUInt16.toUInt32.toInt32)), .val (.int ((((xx.toUInt32 >>> ((8 : Int32) &&& 31).toUInt32).toInt32) &&& (255 : Int32)).toUInt32.toUInt16.toUInt32.toInt32)), .val (.int ((((xx.toUInt32 >>> ((16 : Int32) &&& 31).toUInt32).toInt32) &&& (255 : Int32)).toUInt32.toUInt16.toUInt32.toInt32)), .val (.int (1 : Int32))] []))
    refine Run.pre (fun _ k => XS.iload X0.here hx rfl (hb hby d1_51) rfl  k) ?_
    show Run p e below s _ _ _ (s₁.setTop (mkF m 53 #[.val (.int xx), .val (.int ((xx &&& (255 : Int32)).toUInt32.toUInt16.toUInt32.toInt32)), .val (.int ((((xx.toUInt32 >>> ((8 : Int32) &&& 31).toUInt32).toInt32) &&& (255 : Int32)).toUInt32.toUInt16.toUInt32.toInt32)), .val (.int ((((xx.toUInt32 >>> ((16 : Int32) &&& 31).toUInt32).toInt32) &&& (255 : Int32)).toUInt32.toUInt16.toUInt32.toInt32)), .val (.int (1 : Int32))] [(.int (1 : Int32))]))
    refine Run.pre (fun _ k => XS.iconst X0.here hx rfl (hb hby d1_53) k) ?_
    show Run p e below s _ _ _ (s₁.setTop (mkF m 54 #[.val (.int xx), .val (.int ((xx &&& (255 : Int32)).toUInt32.toUInt16.toUInt32.toInt32)), .val (.int ((((xx.toUInt32 >>> ((8 : Int32) &&& 31).toUInt32).toInt32) &&& (255 : Int32)).toUInt32.toUInt16.toUInt32.toInt32)), .val (.int ((((xx.toUInt32 >>> ((16 : Int32) &&& 31).toUInt32).toInt32) &&& (255 : Int32)).toUInt32.toUInt16.toUInt32.toInt32)), .val (.int (1 : Int32))] [(.int (1 : Int32)), (.int (1 : Int32))]))
    refine Run.pre (fun _ k => XS.icmpNo X0.here hx rfl (hb hby d1_54) rfl (teq ((by decide) : (1 : Int32) = (1 : Int32))).2 k) ?_
    show Run p e below s _ _ _ (s₁.setTop (mkF m 57 #[.val (.int xx), .val (.int ((xx &&& (255 : Int32)).toUInt32.toUInt16.toUInt32.toInt32)), .val (.int ((((xx.toUInt32 >>> ((8 : Int32) &&& 31).toUInt32).toInt32) &&& (255 : Int32)).toUInt32.toUInt16.toUInt32.toInt32)), .val (.int ((((xx.toUInt32 >>> ((16 : Int32) &&& 31).toUInt32).toInt32) &&& (255 : Int32)).toUInt32.toUInt16.toUInt32.toInt32)), .val (.int (1 : Int32))] []))
    obtain ⟨T113, h113, X113, e113, E113, A113, D113, -, st113⟩ := newO X0 hx hZ hown (hw _ (List.mem_of_getElem? (i := 4) rfl)) (hw _ (List.mem_of_getElem? (i := 5) rfl)) (hw _ (List.mem_of_getElem? (i := 6) rfl)) e0 (g := (mkF m 57 #[.val (.int xx), .val (.int ((xx &&& (255 : Int32)).toUInt32.toUInt16.toUInt32.toInt32)), .val (.int ((((xx.toUInt32 >>> ((8 : Int32) &&& 31).toUInt32).toInt32) &&& (255 : Int32)).toUInt32.toUInt16.toUInt32.toInt32)), .val (.int ((((xx.toUInt32 >>> ((16 : Int32) &&& 31).toUInt32).toInt32) &&& (255 : Int32)).toUInt32.toUInt16.toUInt32.toInt32)), .val (.int (1 : Int32))] [])) rfl (hb hby d1_57) (by decide) (by decide)
    obtain ⟨b113, g113⟩ : ∃ z, z = h0.size := ⟨_, rfl⟩
    rw [← g113] at A113 D113 st113
    refine Run.pre st113 ?_
    have gn_b113 : n0 ≤ b113 := Nat.le_trans (Nat.le_trans Z0 (Keep.refl h0 []).1) (Nat.le_of_eq g113.symm)
    have sz_b113 : h0.size ≤ b113 := Nat.le_trans (Keep.refl h0 []).1 (Nat.le_of_eq g113.symm)
    have K113 : Keep h0 h113 [] := (Keep.refl h0 []).ext E113
    have F_value_b113 : Fld Z h113 b113 "java/lang/String" "value" "[B" .null := D113 (Or.inr (hw _ (List.mem_of_getElem? (i := 20) rfl))) (ty := (.array .byte)) (by decide)
    have F_coder_b113 : Fld Z h113 b113 "java/lang/String" "coder" "B" (.int (0 : Int32)) := D113 (Or.inr (hw _ (List.mem_of_getElem? (i := 21) rfl))) (ty := .byte) (by decide)
    show Run p e below s _ _ _ (T113.setTop (mkF m 60 #[.val (.int xx), .val (.int ((xx &&& (255 : Int32)).toUInt32.toUInt16.toUInt32.toInt32)), .val (.int ((((xx.toUInt32 >>> ((8 : Int32) &&& 31).toUInt32).toInt32) &&& (255 : Int32)).toUInt32.toUInt16.toUInt32.toInt32)), .val (.int ((((xx.toUInt32 >>> ((16 : Int32) &&& 31).toUInt32).toInt32) &&& (255 : Int32)).toUInt32.toUInt16.toUInt32.toInt32)), .val (.int (1 : Int32))] [(.ref b113)]))
    refine Run.pre (fun _ k => XS.dup X113.here hx rfl (hb hby d1_60) rfl rfl k) ?_
    show Run p e below s _ _ _ (T113.setTop (mkF m 61 #[.val (.int xx), .val (.int ((xx &&& (255 : Int32)).toUInt32.toUInt16.toUInt32.toInt32)), .val (.int ((((xx.toUInt32 >>> ((8 : Int32) &&& 31).toUInt32).toInt32) &&& (255 : Int32)).toUInt32.toUInt16.toUInt32.toInt32)), .val (.int ((((xx.toUInt32 >>> ((16 : Int32) &&& 31).toUInt32).toInt32) &&& (255 : Int32)).toUInt32.toUInt16.toUInt32.toInt32)), .val (.int (1 : Int32))] [(.ref b113), (.ref b113)]))
    refine Run.pre (fun _ k => XS.iconst X113.here hx rfl (hb hby d1_61) k) ?_
    show Run p e below s _ _ _ (T113.setTop (mkF m 62 #[.val (.int xx), .val (.int ((xx &&& (255 : Int32)).toUInt32.toUInt16.toUInt32.toInt32)), .val (.int ((((xx.toUInt32 >>> ((8 : Int32) &&& 31).toUInt32).toInt32) &&& (255 : Int32)).toUInt32.toUInt16.toUInt32.toInt32)), .val (.int ((((xx.toUInt32 >>> ((16 : Int32) &&& 31).toUInt32).toInt32) &&& (255 : Int32)).toUInt32.toUInt16.toUInt32.toInt32)), .val (.int (1 : Int32))] [(.int (1 : Int32)), (.ref b113), (.ref b113)]))
    obtain ⟨T114, h114, k114, X114, e114, E114, A114, st114⟩ := newP X113 hx hZ (hw _ (List.mem_of_getElem? (i := 7) rfl)) e113 (g := (mkF m 62 #[.val (.int xx), .val (.int ((xx &&& (255 : Int32)).toUInt32.toUInt16.toUInt32.toInt32)), .val (.int ((((xx.toUInt32 >>> ((8 : Int32) &&& 31).toUInt32).toInt32) &&& (255 : Int32)).toUInt32.toUInt16.toUInt32.toInt32)), .val (.int ((((xx.toUInt32 >>> ((16 : Int32) &&& 31).toUInt32).toInt32) &&& (255 : Int32)).toUInt32.toUInt16.toUInt32.toInt32)), .val (.int (1 : Int32))] [(.int (1 : Int32)), (.ref b113), (.ref b113)])) rfl (hb hby d1_62) rfl (by decide) (cap := 1) (by decide) (by decide) (by decide) (by decide)
    obtain ⟨b114, g114⟩ : ∃ z, z = h113.size := ⟨_, rfl⟩
    rw [← g114] at A114 st114
    refine Run.pre st114 ?_
    have V_b114 : Arv Z h114 b114 k114 .char (1 : Int32) [(.int (0 : Int32))] (.int (0 : Int32)) := (Arv.new A114 (by decide)).pad (pad_rep [] (.int (0 : Int32)) 1)
    have gn_b114 : n0 ≤ b114 := Nat.le_trans (Nat.le_trans Z0 K113.1) (Nat.le_of_eq g114.symm)
    have sz_b114 : h0.size ≤ b114 := Nat.le_trans K113.1 (Nat.le_of_eq g114.symm)
    have K114 : Keep h0 h114 [] := K113.ext E114
    show Run p e below s _ _ _ (T114.setTop (mkF m 64 #[.val (.int xx), .val (.int ((xx &&& (255 : Int32)).toUInt32.toUInt16.toUInt32.toInt32)), .val (.int ((((xx.toUInt32 >>> ((8 : Int32) &&& 31).toUInt32).toInt32) &&& (255 : Int32)).toUInt32.toUInt16.toUInt32.toInt32)), .val (.int ((((xx.toUInt32 >>> ((16 : Int32) &&& 31).toUInt32).toInt32) &&& (255 : Int32)).toUInt32.toUInt16.toUInt32.toInt32)), .val (.int (1 : Int32))] [(.ref b114), (.ref b113), (.ref b113)]))
    refine Run.pre (fun _ k => XS.dup X114.here hx rfl (hb hby d1_64) rfl rfl k) ?_
    show Run p e below s _ _ _ (T114.setTop (mkF m 65 #[.val (.int xx), .val (.int ((xx &&& (255 : Int32)).toUInt32.toUInt16.toUInt32.toInt32)), .val (.int ((((xx.toUInt32 >>> ((8 : Int32) &&& 31).toUInt32).toInt32) &&& (255 : Int32)).toUInt32.toUInt16.toUInt32.toInt32)), .val (.int ((((xx.toUInt32 >>> ((16 : Int32) &&& 31).toUInt32).toInt32) &&& (255 : Int32)).toUInt32.toUInt16.toUInt32.toInt32)), .val (.int (1 : Int32))] [(.ref b114), (.ref b114), (.ref b113), (.ref b113)]))
    refine Run.pre (fun _ k => XS.iconst X114.here hx rfl (hb hby d1_65) k) ?_
    show Run p e below s _ _ _ (T114.setTop (mkF m 66 #[.val (.int xx), .val (.int ((xx &&& (255 : Int32)).toUInt32.toUInt16.toUInt32.toInt32)), .val (.int ((((xx.toUInt32 >>> ((8 : Int32) &&& 31).toUInt32).toInt32) &&& (255 : Int32)).toUInt32.toUInt16.toUInt32.toInt32)), .val (.int ((((xx.toUInt32 >>> ((16 : Int32) &&& 31).toUInt32).toInt32) &&& (255 : Int32)).toUInt32.toUInt16.toUInt32.toInt32)), .val (.int (1 : Int32))] [(.int (0 : Int32)), (.ref b114), (.ref b114), (.ref b113), (.ref b113)]))
    refine Run.pre (fun _ k => XS.iloadN X114.here hx rfl (hb hby d1_66) rfl  k) ?_
    show Run p e below s _ _ _ (T114.setTop (mkF m 67 #[.val (.int xx), .val (.int ((xx &&& (255 : Int32)).toUInt32.toUInt16.toUInt32.toInt32)), .val (.int ((((xx.toUInt32 >>> ((8 : Int32) &&& 31).toUInt32).toInt32) &&& (255 : Int32)).toUInt32.toUInt16.toUInt32.toInt32)), .val (.int ((((xx.toUInt32 >>> ((16 : Int32) &&& 31).toUInt32).toInt32) &&& (255 : Int32)).toUInt32.toUInt16.toUInt32.toInt32)), .val (.int (1 : Int32))] [(.int ((xx &&& (255 : Int32)).toUInt32.toUInt16.toUInt32.toInt32)), (.int (0 : Int32)), (.ref b114), (.ref b114), (.ref b113), (.ref b113)]))
    obtain ⟨c115, Ar115, q115, S115, N115, H115, G115⟩ := id V_b114
    have hin115 : ¬ ((0 : Int32) < 0 ∨ c115.slots.size ≤ ((0 : Int32)).toNatClampNeg) := inb_of S115 ⟨by decide, by decide⟩
    obtain ⟨T116, h116, X116, e116, W116, st116⟩ := stC X114 hx hZ e114 Ar115 (j := (0 : Int32)) hin115 (g := (mkF m 67 #[.val (.int xx), .val (.int ((xx &&& (255 : Int32)).toUInt32.toUInt16.toUInt32.toInt32)), .val (.int ((((xx.toUInt32 >>> ((8 : Int32) &&& 31).toUInt32).toInt32) &&& (255 : Int32)).toUInt32.toUInt16.toUInt32.toInt32)), .val (.int ((((xx.toUInt32 >>> ((16 : Int32) &&& 31).toUInt32).toInt32) &&& (255 : Int32)).toUInt32.toUInt16.toUInt32.toInt32)), .val (.int (1 : Int32))] [(.int ((xx &&& (255 : Int32)).toUInt32.toUInt16.toUInt32.toInt32)), (.int (0 : Int32)), (.ref b114), (.ref b114), (.ref b113), (.ref b113)])) rfl rfl (hb hby d1_67)
    refine Run.pre st116 ?_
    have V_b114_116 : Arv Z h116 b114 k114 .char (1 : Int32) [(.int (nar .char ((xx &&& (255 : Int32)).toUInt32.toUInt16.toUInt32.toInt32)))] (.int (0 : Int32)) := Arv.set Ar115 q115 S115 N115 H115 G115 (fits_nar_char _) W116 0 rfl (Nat.le_of_ble_eq_true rfl)
    have K116 : Keep h0 h116 [] := K114.wr W116 (Or.inr sz_b114)
    have N116 := Fr.snoc X116 N0 gn_b114
    show Run p e below s _ _ _ (T116.setTop (mkF m 68 #[.val (.int xx), .val (.int ((xx &&& (255 : Int32)).toUInt32.toUInt16.toUInt32.toInt32)), .val (.int ((((xx.toUInt32 >>> ((8 : Int32) &&& 31).toUInt32).toInt32) &&& (255 : Int32)).toUInt32.toUInt16.toUInt32.toInt32)), .val (.int ((((xx.toUInt32 >>> ((16 : Int32) &&& 31).toUInt32).toInt32) &&& (255 : Int32)).toUInt32.toUInt16.toUInt32.toInt32)), .val (.int (1 : Int32))] [(.ref b114), (.ref b113), (.ref b113)]))
    have f117 := (((OL.ext E113).ext E114).wr W116 gn_b114)
    have f118 := ((A113.ext E114).wr W116)
    have f119 := ((F_value_b113.ext E114).other W116 (Or.inl (Nat.ne_of_lt (Nat.lt_of_lt_of_le A113.lt (Nat.le_of_eq g114.symm)))))
    have f120 := ((F_coder_b113.ext E114).other W116 (Or.inl (Nat.ne_of_lt (Nat.lt_of_lt_of_le A113.lt (Nat.le_of_eq g114.symm)))))
    refine Run.callI hS (by first | exact Nat.le_refl _ | (rw [e116]; exact (Nat.le_trans (Nat.le_trans (Nat.le_trans (Nat.zero_le _) E113.1) E114.1) (Keep.of_wr W116).1))) X116 hx hZ (y := (⟨"java/lang/String", "<init>", "([C)V"⟩ : MethodName)) rfl hown (hw _ (List.mem_of_getElem? (i := 8) rfl)) (hw _ (List.mem_of_getElem? (i := 9) rfl)) (hw _ (List.mem_of_getElem? (i := 10) rfl)) (hw _ (List.mem_of_getElem? (i := 6) rfl)) (by decide) (a := b113) (W := 1) (rmI_1 l Z a0 hw _ b113 b114 k114 (nar .char ((xx &&& (255 : Int32)).toUInt32.toUInt16.toUInt32.toInt32)) cs h116 n0 (Nat.le_trans Z0 K116.1) f117 SC hcs V_b114_116 f118 f119 f120 gn_b113 (Ne.symm (Nat.ne_of_lt (Nat.lt_of_lt_of_le A113.lt (Nat.le_of_eq g114.symm)))) (own_and255 _)) e116 (by decide) (by decide) (by decide) (by decide) (fun _ q => q.interned_eq) (g := (mkF m 68 #[.val (.int xx), .val (.int ((xx &&& (255 : Int32)).toUInt32.toUInt16.toUInt32.toInt32)), .val (.int ((((xx.toUInt32 >>> ((8 : Int32) &&& 31).toUInt32).toInt32) &&& (255 : Int32)).toUInt32.toUInt16.toUInt32.toInt32)), .val (.int ((((xx.toUInt32 >>> ((16 : Int32) &&& 31).toUInt32).toInt32) &&& (255 : Int32)).toUInt32.toUInt16.toUInt32.toInt32)), .val (.int (1 : Int32))] [(.ref b114), (.ref b113), (.ref b113)])) rfl (by rw [hml]; rfl) (argsL := [(.ref b114)]) (rest := [(.ref b113)]) (lenOf pd_4 rfl) rfl (by show 2 * 0 + _ ≤ _; exact Nat.le_of_eq rfl) (hb hby d1_68) ?_
    intro v121 T121 L121 X121 hS hZ hown hV121 hQ121
    obtain ⟨b121, k121, rfl, Nq121, Kc121, sz121, fc121, fv121, vb121, hI121⟩ := hQ121
    have N121 := Fr.app N116 Nq121
    have K121 : Keep h0 T121.heap [] := K116.trans Kc121 (allS (Or.inr sz_b113) all0)
    have sz_b121 : h0.size ≤ b121 := Nat.le_trans K116.1 sz121
    have gn_b121 : n0 ≤ b121 := Nat.le_trans Z0 sz_b121
    have lb121 := own_LBstep hP0 hI121 hV121 K121
    show Run p e below s _ _ _ (T121.setTop (mkF m 71 #[.val (.int xx), .val (.int ((xx &&& (255 : Int32)).toUInt32.toUInt16.toUInt32.toInt32)), .val (.int ((((xx.toUInt32 >>> ((8 : Int32) &&& 31).toUInt32).toInt32) &&& (255 : Int32)).toUInt32.toUInt16.toUInt32.toInt32)), .val (.int ((((xx.toUInt32 >>> ((16 : Int32) &&& 31).toUInt32).toInt32) &&& (255 : Int32)).toUInt32.toUInt16.toUInt32.toInt32)), .val (.int (1 : Int32))] [(.ref b113)]))
    have f122 := (f118.keep Kc121)
    exact Run.retA hS (Nat.le_refl _) X121 hx hret rfl rfl hlk (hb hby d1_71) ⟨b113, rfl, N121, K121, sz_b113, f122, own_LBgo lb121 X121.warmed (Keep.refl _ [])⟩ (by decide) (by decide)
  · rw [hn]
    show Run p e below s _ _ _ (s₁.setTop (mkF m 35 #[.val (.int xx), .val (.int ((xx &&& (255 : Int32)).toUInt32.toUInt16.toUInt32.toInt32)), .val (.int ((((xx.toUInt32 >>> ((8 : Int32) &&& 31).toUInt32).toInt32) &&& (255 : Int32)).toUInt32.toUInt16.toUInt32.toInt32)), .val (.int ((((xx.toUInt32 >>> ((16 : Int32) &&& 31).toUInt32).toInt32) &&& (255 : Int32)).toUInt32.toUInt16.toUInt32.toInt32)), .val (.int (2 : Int32))] []))
    refine Run.pre (fun _ k => XS.iload X0.here hx rfl (hb hby d1_35) rfl  k) ?_
    show Run p e below s _ _ _ (s₁.setTop (mkF m 37 #[.val (.int xx), .val (.int ((xx &&& (255 : Int32)).toUInt32.toUInt16.toUInt32.toInt32)), .val (.int ((((xx.toUInt32 >>> ((8 : Int32) &&& 31).toUInt32).toInt32) &&& (255 : Int32)).toUInt32.toUInt16.toUInt32.toInt32)), .val (.int ((((xx.toUInt32 >>> ((16 : Int32) &&& 31).toUInt32).toInt32) &&& (255 : Int32)).toUInt32.toUInt16.toUInt32.toInt32)), .val (.int (2 : Int32))] [(.int (2 : Int32))]))
    refine Run.pre (fun _ k => XS.ifYes X0.here hx rfl (pc0 := 37) (pc' := 51) rfl (hb hby d1_37) rfl ((if0 _ _).trans (feq ((by decide) : ¬ ((2 : Int32) = (0 : Int32)))).2) (by decide) (by decide) k) ?_
    show Run p e below s _ _ _ (s₁.setTop (mkF m 51 #[.val (.int xx), .val (.int ((xx &&& (255 : Int32)).toUInt32.toUInt16.toUInt32.toInt32)), .val (.int ((((xx.toUInt32 >>> ((8 : Int32) &&& 31).toUInt32).toInt32) &&& (255 : Int32)).toUInt32.toUInt16.toUInt32.toInt32)), .val (.int ((((xx.toUInt32 >>> ((16 : Int32) &&& 31).toUInt32).toInt32) &&& (255 : Int32)).toUInt32.toUInt16.toUInt32.toInt32)), .val (.int (2 : Int32))] []))
    refine Run.pre (fun _ k => XS.iload X0.here hx rfl (hb hby d1_51) rfl  k) ?_
    show Run p e below s _ _ _ (s₁.setTop (mkF m 53 #[.val (.int xx), .val (.int ((xx &&& (255 : Int32)).toUInt32.toUInt16.toUInt32.toInt32)), .val (.int ((((xx.toUInt32 >>> ((8 : Int32) &&& 31).toUInt32).toInt32) &&& (255 : Int32)).toUInt32.toUInt16.toUInt32.toInt32)), .val (.int ((((xx.toUInt32 >>> ((16 : Int32) &&& 31).toUInt32).toInt32) &&& (255 : Int32)).toUInt32.toUInt16.toUInt32.toInt32)), .val (.int (2 : Int32))] [(.int (2 : Int32))]))
    refine Run.pre (fun _ k => XS.iconst X0.here hx rfl (hb hby d1_53) k) ?_
    show Run p e below s _ _ _ (s₁.setTop (mkF m 54 #[.val (.int xx), .val (.int ((xx &&& (255 : Int32)).toUInt32.toUInt16.toUInt32.toInt32)), .val (.int ((((xx.toUInt32 >>> ((8 : Int32) &&& 31).toUInt32).toInt32) &&& (255 : Int32)).toUInt32.toUInt16.toUInt32.toInt32)), .val (.int ((((xx.toUInt32 >>> ((16 : Int32) &&& 31).toUInt32).toInt32) &&& (255 : Int32)).toUInt32.toUInt16.toUInt32.toInt32)), .val (.int (2 : Int32))] [(.int (1 : Int32)), (.int (2 : Int32))]))
    refine Run.pre (fun _ k => XS.icmpYes X0.here hx rfl (pc0 := 54) (pc' := 72) rfl (hb hby d1_54) rfl (feq ((by decide) : ¬ ((2 : Int32) = (1 : Int32)))).2 (by decide) (by decide) k) ?_
    show Run p e below s _ _ _ (s₁.setTop (mkF m 72 #[.val (.int xx), .val (.int ((xx &&& (255 : Int32)).toUInt32.toUInt16.toUInt32.toInt32)), .val (.int ((((xx.toUInt32 >>> ((8 : Int32) &&& 31).toUInt32).toInt32) &&& (255 : Int32)).toUInt32.toUInt16.toUInt32.toInt32)), .val (.int ((((xx.toUInt32 >>> ((16 : Int32) &&& 31).toUInt32).toInt32) &&& (255 : Int32)).toUInt32.toUInt16.toUInt32.toInt32)), .val (.int (2 : Int32))] []))
    refine Run.pre (fun _ k => XS.iload X0.here hx rfl (hb hby d1_72) rfl  k) ?_
    show Run p e below s _ _ _ (s₁.setTop (mkF m 74 #[.val (.int xx), .val (.int ((xx &&& (255 : Int32)).toUInt32.toUInt16.toUInt32.toInt32)), .val (.int ((((xx.toUInt32 >>> ((8 : Int32) &&& 31).toUInt32).toInt32) &&& (255 : Int32)).toUInt32.toUInt16.toUInt32.toInt32)), .val (.int ((((xx.toUInt32 >>> ((16 : Int32) &&& 31).toUInt32).toInt32) &&& (255 : Int32)).toUInt32.toUInt16.toUInt32.toInt32)), .val (.int (2 : Int32))] [(.int (2 : Int32))]))
    refine Run.pre (fun _ k => XS.iconst X0.here hx rfl (hb hby d1_74) k) ?_
    show Run p e below s _ _ _ (s₁.setTop (mkF m 75 #[.val (.int xx), .val (.int ((xx &&& (255 : Int32)).toUInt32.toUInt16.toUInt32.toInt32)), .val (.int ((((xx.toUInt32 >>> ((8 : Int32) &&& 31).toUInt32).toInt32) &&& (255 : Int32)).toUInt32.toUInt16.toUInt32.toInt32)), .val (.int ((((xx.toUInt32 >>> ((16 : Int32) &&& 31).toUInt32).toInt32) &&& (255 : Int32)).toUInt32.toUInt16.toUInt32.toInt32)), .val (.int (2 : Int32))] [(.int (2 : Int32)), (.int (2 : Int32))]))
    refine Run.pre (fun _ k => XS.icmpNo X0.here hx rfl (hb hby d1_75) rfl (teq ((by decide) : (2 : Int32) = (2 : Int32))).2 k) ?_
    show Run p e below s _ _ _ (s₁.setTop (mkF m 78 #[.val (.int xx), .val (.int ((xx &&& (255 : Int32)).toUInt32.toUInt16.toUInt32.toInt32)), .val (.int ((((xx.toUInt32 >>> ((8 : Int32) &&& 31).toUInt32).toInt32) &&& (255 : Int32)).toUInt32.toUInt16.toUInt32.toInt32)), .val (.int ((((xx.toUInt32 >>> ((16 : Int32) &&& 31).toUInt32).toInt32) &&& (255 : Int32)).toUInt32.toUInt16.toUInt32.toInt32)), .val (.int (2 : Int32))] []))
    obtain ⟨T123, h123, X123, e123, E123, A123, D123, -, st123⟩ := newO X0 hx hZ hown (hw _ (List.mem_of_getElem? (i := 4) rfl)) (hw _ (List.mem_of_getElem? (i := 5) rfl)) (hw _ (List.mem_of_getElem? (i := 6) rfl)) e0 (g := (mkF m 78 #[.val (.int xx), .val (.int ((xx &&& (255 : Int32)).toUInt32.toUInt16.toUInt32.toInt32)), .val (.int ((((xx.toUInt32 >>> ((8 : Int32) &&& 31).toUInt32).toInt32) &&& (255 : Int32)).toUInt32.toUInt16.toUInt32.toInt32)), .val (.int ((((xx.toUInt32 >>> ((16 : Int32) &&& 31).toUInt32).toInt32) &&& (255 : Int32)).toUInt32.toUInt16.toUInt32.toInt32)), .val (.int (2 : Int32))] [])) rfl (hb hby d1_78) (by decide) (by decide)
    obtain ⟨b123, g123⟩ : ∃ z, z = h0.size := ⟨_, rfl⟩
    rw [← g123] at A123 D123 st123
    refine Run.pre st123 ?_
    have gn_b123 : n0 ≤ b123 := Nat.le_trans (Nat.le_trans Z0 (Keep.refl h0 []).1) (Nat.le_of_eq g123.symm)
    have sz_b123 : h0.size ≤ b123 := Nat.le_trans (Keep.refl h0 []).1 (Nat.le_of_eq g123.symm)
    have K123 : Keep h0 h123 [] := (Keep.refl h0 []).ext E123
    have F_value_b123 : Fld Z h123 b123 "java/lang/String" "value" "[B" .null := D123 (Or.inr (hw _ (List.mem_of_getElem? (i := 20) rfl))) (ty := (.array .byte)) (by decide)
    have F_coder_b123 : Fld Z h123 b123 "java/lang/String" "coder" "B" (.int (0 : Int32)) := D123 (Or.inr (hw _ (List.mem_of_getElem? (i := 21) rfl))) (ty := .byte) (by decide)
    show Run p e below s _ _ _ (T123.setTop (mkF m 81 #[.val (.int xx), .val (.int ((xx &&& (255 : Int32)).toUInt32.toUInt16.toUInt32.toInt32)), .val (.int ((((xx.toUInt32 >>> ((8 : Int32) &&& 31).toUInt32).toInt32) &&& (255 : Int32)).toUInt32.toUInt16.toUInt32.toInt32)), .val (.int ((((xx.toUInt32 >>> ((16 : Int32) &&& 31).toUInt32).toInt32) &&& (255 : Int32)).toUInt32.toUInt16.toUInt32.toInt32)), .val (.int (2 : Int32))] [(.ref b123)]))
    refine Run.pre (fun _ k => XS.dup X123.here hx rfl (hb hby d1_81) rfl rfl k) ?_
    show Run p e below s _ _ _ (T123.setTop (mkF m 82 #[.val (.int xx), .val (.int ((xx &&& (255 : Int32)).toUInt32.toUInt16.toUInt32.toInt32)), .val (.int ((((xx.toUInt32 >>> ((8 : Int32) &&& 31).toUInt32).toInt32) &&& (255 : Int32)).toUInt32.toUInt16.toUInt32.toInt32)), .val (.int ((((xx.toUInt32 >>> ((16 : Int32) &&& 31).toUInt32).toInt32) &&& (255 : Int32)).toUInt32.toUInt16.toUInt32.toInt32)), .val (.int (2 : Int32))] [(.ref b123), (.ref b123)]))
    refine Run.pre (fun _ k => XS.iconst X123.here hx rfl (hb hby d1_82) k) ?_
    show Run p e below s _ _ _ (T123.setTop (mkF m 83 #[.val (.int xx), .val (.int ((xx &&& (255 : Int32)).toUInt32.toUInt16.toUInt32.toInt32)), .val (.int ((((xx.toUInt32 >>> ((8 : Int32) &&& 31).toUInt32).toInt32) &&& (255 : Int32)).toUInt32.toUInt16.toUInt32.toInt32)), .val (.int ((((xx.toUInt32 >>> ((16 : Int32) &&& 31).toUInt32).toInt32) &&& (255 : Int32)).toUInt32.toUInt16.toUInt32.toInt32)), .val (.int (2 : Int32))] [(.int (2 : Int32)), (.ref b123), (.ref b123)]))
    obtain ⟨T124, h124, k124, X124, e124, E124, A124, st124⟩ := newP X123 hx hZ (hw _ (List.mem_of_getElem? (i := 7) rfl)) e123 (g := (mkF m 83 #[.val (.int xx), .val (.int ((xx &&& (255 : Int32)).toUInt32.toUInt16.toUInt32.toInt32)), .val (.int ((((xx.toUInt32 >>> ((8 : Int32) &&& 31).toUInt32).toInt32) &&& (255 : Int32)).toUInt32.toUInt16.toUInt32.toInt32)), .val (.int ((((xx.toUInt32 >>> ((16 : Int32) &&& 31).toUInt32).toInt32) &&& (255 : Int32)).toUInt32.toUInt16.toUInt32.toInt32)), .val (.int (2 : Int32))] [(.int (2 : Int32)), (.ref b123), (.ref b123)])) rfl (hb hby d1_83) rfl (by decide) (cap := 2) (by decide) (by decide) (by decide) (by decide)
    obtain ⟨b124, g124⟩ : ∃ z, z = h123.size := ⟨_, rfl⟩
    rw [← g124] at A124 st124
    refine Run.pre st124 ?_
    have V_b124 : Arv Z h124 b124 k124 .char (2 : Int32) [(.int (0 : Int32)), (.int (0 : Int32))] (.int (0 : Int32)) := (Arv.new A124 (by decide)).pad (pad_rep [] (.int (0 : Int32)) 2)
    have gn_b124 : n0 ≤ b124 := Nat.le_trans (Nat.le_trans Z0 K123.1) (Nat.le_of_eq g124.symm)
    have sz_b124 : h0.size ≤ b124 := Nat.le_trans K123.1 (Nat.le_of_eq g124.symm)
    have K124 : Keep h0 h124 [] := K123.ext E124
    show Run p e below s _ _ _ (T124.setTop (mkF m 85 #[.val (.int xx), .val (.int ((xx &&& (255 : Int32)).toUInt32.toUInt16.toUInt32.toInt32)), .val (.int ((((xx.toUInt32 >>> ((8 : Int32) &&& 31).toUInt32).toInt32) &&& (255 : Int32)).toUInt32.toUInt16.toUInt32.toInt32)), .val (.int ((((xx.toUInt32 >>> ((16 : Int32) &&& 31).toUInt32).toInt32) &&& (255 : Int32)).toUInt32.toUInt16.toUInt32.toInt32)), .val (.int (2 : Int32))] [(.ref b124), (.ref b123), (.ref b123)]))
    refine Run.pre (fun _ k => XS.dup X124.here hx rfl (hb hby d1_85) rfl rfl k) ?_
    show Run p e below s _ _ _ (T124.setTop (mkF m 86 #[.val (.int xx), .val (.int ((xx &&& (255 : Int32)).toUInt32.toUInt16.toUInt32.toInt32)), .val (.int ((((xx.toUInt32 >>> ((8 : Int32) &&& 31).toUInt32).toInt32) &&& (255 : Int32)).toUInt32.toUInt16.toUInt32.toInt32)), .val (.int ((((xx.toUInt32 >>> ((16 : Int32) &&& 31).toUInt32).toInt32) &&& (255 : Int32)).toUInt32.toUInt16.toUInt32.toInt32)), .val (.int (2 : Int32))] [(.ref b124), (.ref b124), (.ref b123), (.ref b123)]))
    refine Run.pre (fun _ k => XS.iconst X124.here hx rfl (hb hby d1_86) k) ?_
    show Run p e below s _ _ _ (T124.setTop (mkF m 87 #[.val (.int xx), .val (.int ((xx &&& (255 : Int32)).toUInt32.toUInt16.toUInt32.toInt32)), .val (.int ((((xx.toUInt32 >>> ((8 : Int32) &&& 31).toUInt32).toInt32) &&& (255 : Int32)).toUInt32.toUInt16.toUInt32.toInt32)), .val (.int ((((xx.toUInt32 >>> ((16 : Int32) &&& 31).toUInt32).toInt32) &&& (255 : Int32)).toUInt32.toUInt16.toUInt32.toInt32)), .val (.int (2 : Int32))] [(.int (0 : Int32)), (.ref b124), (.ref b124), (.ref b123), (.ref b123)]))
    refine Run.pre (fun _ k => XS.iloadN X124.here hx rfl (hb hby d1_87) rfl  k) ?_
    show Run p e below s _ _ _ (T124.setTop (mkF m 88 #[.val (.int xx), .val (.int ((xx &&& (255 : Int32)).toUInt32.toUInt16.toUInt32.toInt32)), .val (.int ((((xx.toUInt32 >>> ((8 : Int32) &&& 31).toUInt32).toInt32) &&& (255 : Int32)).toUInt32.toUInt16.toUInt32.toInt32)), .val (.int ((((xx.toUInt32 >>> ((16 : Int32) &&& 31).toUInt32).toInt32) &&& (255 : Int32)).toUInt32.toUInt16.toUInt32.toInt32)), .val (.int (2 : Int32))] [(.int ((xx &&& (255 : Int32)).toUInt32.toUInt16.toUInt32.toInt32)), (.int (0 : Int32)), (.ref b124), (.ref b124), (.ref b123), (.ref b123)]))
    obtain ⟨c125, Ar125, q125, S125, N125, H125, G125⟩ := id V_b124
    have hin125 : ¬ ((0 : Int32) < 0 ∨ c125.slots.size ≤ ((0 : Int32)).toNatClampNeg) := inb_of S125 ⟨by decide, by decide⟩
    obtain ⟨T126, h126, X126, e126, W126, st126⟩ := stC X124 hx hZ e124 Ar125 (j := (0 : Int32)) hin125 (g := (mkF m 88 #[.val (.int xx), .val (.int ((xx &&& (255 : Int32)).toUInt32.toUInt16.toUInt32.toInt32)), .val (.int ((((xx.toUInt32 >>> ((8 : Int32) &&& 31).toUInt32).toInt32) &&& (255 : Int32)).toUInt32.toUInt16.toUInt32.toInt32)), .val (.int ((((xx.toUInt32 >>> ((16 : Int32) &&& 31).toUInt32).toInt32) &&& (255 : Int32)).toUInt32.toUInt16.toUInt32.toInt32)), .val (.int (2 : Int32))] [(.int ((xx &&& (255 : Int32)).toUInt32.toUInt16.toUInt32.toInt32)), (.int (0 : Int32)), (.ref b124), (.ref b124), (.ref b123), (.ref b123)])) rfl rfl (hb hby d1_88)
    refine Run.pre st126 ?_
    have V_b124_126 : Arv Z h126 b124 k124 .char (2 : Int32) [(.int (nar .char ((xx &&& (255 : Int32)).toUInt32.toUInt16.toUInt32.toInt32))), (.int (0 : Int32))] (.int (0 : Int32)) := Arv.set Ar125 q125 S125 N125 H125 G125 (fits_nar_char _) W126 0 rfl (Nat.le_of_ble_eq_true rfl)
    have K126 : Keep h0 h126 [] := K124.wr W126 (Or.inr sz_b124)
    have N126 := Fr.snoc X126 N0 gn_b124
    show Run p e below s _ _ _ (T126.setTop (mkF m 89 #[.val (.int xx), .val (.int ((xx &&& (255 : Int32)).toUInt32.toUInt16.toUInt32.toInt32)), .val (.int ((((xx.toUInt32 >>> ((8 : Int32) &&& 31).toUInt32).toInt32) &&& (255 : Int32)).toUInt32.toUInt16.toUInt32.toInt32)), .val (.int ((((xx.toUInt32 >>> ((16 : Int32) &&& 31).toUInt32).toInt32) &&& (255 : Int32)).toUInt32.toUInt16.toUInt32.toInt32)), .val (.int (2 : Int32))] [(.ref b124), (.ref b123), (.ref b123)]))
    refine Run.pre (fun _ k => XS.dup X126.here hx rfl (hb hby d1_89) rfl rfl k) ?_
    show Run p e below s _ _ _ (T126.setTop (mkF m 90 #[.val (.int xx), .val (.int ((xx &&& (255 : Int32)).toUInt32.toUInt16.toUInt32.toInt32)), .val (.int ((((xx.toUInt32 >>> ((8 : Int32) &&& 31).toUInt32).toInt32) &&& (255 : Int32)).toUInt32.toUInt16.toUInt32.toInt32)), .val (.int ((((xx.toUInt32 >>> ((16 : Int32) &&& 31).toUInt32).toInt32) &&& (255 : Int32)).toUInt32.toUInt16.toUInt32.toInt32)), .val (.int (2 : Int32))] [(.ref b124), (.ref b124), (.ref b123), (.ref b123)]))
    refine Run.pre (fun _ k => XS.iconst X126.here hx rfl (hb hby d1_90) k) ?_
    show Run p e below s _ _ _ (T126.setTop (mkF m 91 #[.val (.int xx), .val (.int ((xx &&& (255 : Int32)).toUInt32.toUInt16.toUInt32.toInt32)), .val (.int ((((xx.toUInt32 >>> ((8 : Int32) &&& 31).toUInt32).toInt32) &&& (255 : Int32)).toUInt32.toUInt16.toUInt32.toInt32)), .val (.int ((((xx.toUInt32 >>> ((16 : Int32) &&& 31).toUInt32).toInt32) &&& (255 : Int32)).toUInt32.toUInt16.toUInt32.toInt32)), .val (.int (2 : Int32))] [(.int (1 : Int32)), (.ref b124), (.ref b124), (.ref b123), (.ref b123)]))
    refine Run.pre (fun _ k => XS.iloadN X126.here hx rfl (hb hby d1_91) rfl  k) ?_
    show Run p e below s _ _ _ (T126.setTop (mkF m 92 #[.val (.int xx), .val (.int ((xx &&& (255 : Int32)).toUInt32.toUInt16.toUInt32.toInt32)), .val (.int ((((xx.toUInt32 >>> ((8 : Int32) &&& 31).toUInt32).toInt32) &&& (255 : Int32)).toUInt32.toUInt16.toUInt32.toInt32)), .val (.int ((((xx.toUInt32 >>> ((16 : Int32) &&& 31).toUInt32).toInt32) &&& (255 : Int32)).toUInt32.toUInt16.toUInt32.toInt32)), .val (.int (2 : Int32))] [(.int ((((xx.toUInt32 >>> ((8 : Int32) &&& 31).toUInt32).toInt32) &&& (255 : Int32)).toUInt32.toUInt16.toUInt32.toInt32)), (.int (1 : Int32)), (.ref b124), (.ref b124), (.ref b123), (.ref b123)]))
    obtain ⟨c127, Ar127, q127, S127, N127, H127, G127⟩ := id V_b124_126
    have hin127 : ¬ ((1 : Int32) < 0 ∨ c127.slots.size ≤ ((1 : Int32)).toNatClampNeg) := inb_of S127 ⟨by decide, by decide⟩
    obtain ⟨T128, h128, X128, e128, W128, st128⟩ := stC X126 hx hZ e126 Ar127 (j := (1 : Int32)) hin127 (g := (mkF m 92 #[.val (.int xx), .val (.int ((xx &&& (255 : Int32)).toUInt32.toUInt16.toUInt32.toInt32)), .val (.int ((((xx.toUInt32 >>> ((8 : Int32) &&& 31).toUInt32).toInt32) &&& (255 : Int32)).toUInt32.toUInt16.toUInt32.toInt32)), .val (.int ((((xx.toUInt32 >>> ((16 : Int32) &&& 31).toUInt32).toInt32) &&& (255 : Int32)).toUInt32.toUInt16.toUInt32.toInt32)), .val (.int (2 : Int32))] [(.int ((((xx.toUInt32 >>> ((8 : Int32) &&& 31).toUInt32).toInt32) &&& (255 : Int32)).toUInt32.toUInt16.toUInt32.toInt32)), (.int (1 : Int32)), (.ref b124), (.ref b124), (.ref b123), (.ref b123)])) rfl rfl (hb hby d1_92)
    refine Run.pre st128 ?_
    have V_b124_128 : Arv Z h128 b124 k124 .char (2 : Int32) [(.int (nar .char ((xx &&& (255 : Int32)).toUInt32.toUInt16.toUInt32.toInt32))), (.int (nar .char ((((xx.toUInt32 >>> ((8 : Int32) &&& 31).toUInt32).toInt32) &&& (255 : Int32)).toUInt32.toUInt16.toUInt32.toInt32)))] (.int (0 : Int32)) := Arv.set Ar127 q127 S127 N127 H127 G127 (fits_nar_char _) W128 1 rfl (Nat.le_of_ble_eq_true rfl)
    have K128 : Keep h0 h128 [] := K126.wr W128 (Or.inr sz_b124)
    have N128 := Fr.snoc X128 N126 gn_b124
    show Run p e below s _ _ _ (T128.setTop (mkF m 93 #[.val (.int xx), .val (.int ((xx &&& (255 : Int32)).toUInt32.toUInt16.toUInt32.toInt32)), .val (.int ((((xx.toUInt32 >>> ((8 : Int32) &&& 31).toUInt32).toInt32) &&& (255 : Int32)).toUInt32.toUInt16.toUInt32.toInt32)), .val (.int ((((xx.toUInt32 >>> ((16 : Int32) &&& 31).toUInt32).toInt32) &&& (255 : Int32)).toUInt32.toUInt16.toUInt32.toInt32)), .val (.int (2 : Int32))] [(.ref b124), (.ref b123), (.ref b123)]))
    have f129 := ((((OL.ext E123).ext E124).wr W126 gn_b124).wr W128 gn_b124)
    have f130 := (((A123.ext E124).wr W126).wr W128)
    have f131 := (((F_value_b123.ext E124).other W126 (Or.inl (Nat.ne_of_lt (Nat.lt_of_lt_of_le A123.lt (Nat.le_of_eq g124.symm))))).other W128 (Or.inl (Nat.ne_of_lt (Nat.lt_of_lt_of_le A123.lt (Nat.le_of_eq g124.symm)))))
    have f132 := (((F_coder_b123.ext E124).other W126 (Or.inl (Nat.ne_of_lt (Nat.lt_of_lt_of_le A123.lt (Nat.le_of_eq g124.symm))))).other W128 (Or.inl (Nat.ne_of_lt (Nat.lt_of_lt_of_le A123.lt (Nat.le_of_eq g124.symm)))))
    refine Run.callI hS (by first | exact Nat.le_refl _ | (rw [e128]; exact (Nat.le_trans (Nat.le_trans (Nat.le_trans (Nat.le_trans (Nat.zero_le _) E123.1) E124.1) (Keep.of_wr W126).1) (Keep.of_wr W128).1))) X128 hx hZ (y := (⟨"java/lang/String", "<init>", "([C)V"⟩ : MethodName)) rfl hown (hw _ (List.mem_of_getElem? (i := 8) rfl)) (hw _ (List.mem_of_getElem? (i := 9) rfl)) (hw _ (List.mem_of_getElem? (i := 10) rfl)) (hw _ (List.mem_of_getElem? (i := 6) rfl)) (by decide) (a := b123) (W := 1) (rmI_2 l Z a0 hw _ b123 b124 k124 (nar .char ((xx &&& (255 : Int32)).toUInt32.toUInt16.toUInt32.toInt32)) (nar .char ((((xx.toUInt32 >>> ((8 : Int32) &&& 31).toUInt32).toInt32) &&& (255 : Int32)).toUInt32.toUInt16.toUInt32.toInt32)) cs h128 n0 (Nat.le_trans Z0 K128.1) f129 SC hcs V_b124_128 f130 f131 f132 gn_b123 (Ne.symm (Nat.ne_of_lt (Nat.lt_of_lt_of_le A123.lt (Nat.le_of_eq g124.symm)))) (own_and255 _) (own_and255 _)) e128 (by decide) (by decide) (by decide) (by decide) (fun _ q => q.interned_eq) (g := (mkF m 93 #[.val (.int xx), .val (.int ((xx &&& (255 : Int32)).toUInt32.toUInt16.toUInt32.toInt32)), .val (.int ((((xx.toUInt32 >>> ((8 : Int32) &&& 31).toUInt32).toInt32) &&& (255 : Int32)).toUInt32.toUInt16.toUInt32.toInt32)), .val (.int ((((xx.toUInt32 >>> ((16 : Int32) &&& 31).toUInt32).toInt32) &&& (255 : Int32)).toUInt32.toUInt16.toUInt32.toInt32)), .val (.int (2 : Int32))] [(.ref b124), (.ref b123), (.ref b123)])) rfl (by rw [hml]; rfl) (argsL := [(.ref b124)]) (rest := [(.ref b123)]) (lenOf pd_4 rfl) rfl (by show 2 * 0 + _ ≤ _; exact Nat.le_of_eq rfl) (hb hby d1_93) ?_
    intro v133 T133 L133 X133 hS hZ hown hV133 hQ133
    obtain ⟨b133, k133, rfl, Nq133, Kc133, sz133, fc133, fv133, vb133, hI133⟩ := hQ133
    have N133 := Fr.app N128 Nq133
    have K133 : Keep h0 T133.heap [] := K128.trans Kc133 (allS (Or.inr sz_b123) all0)
    have sz_b133 : h0.size ≤ b133 := Nat.le_trans K128.1 sz133
    have gn_b133 : n0 ≤ b133 := Nat.le_trans Z0 sz_b133
    have lb133 := own_LBstep hP0 hI133 hV133 K133
    show Run p e below s _ _ _ (T133.setTop (mkF m 96 #[.val (.int xx), .val (.int ((xx &&& (255 : Int32)).toUInt32.toUInt16.toUInt32.toInt32)), .val (.int ((((xx.toUInt32 >>> ((8 : Int32) &&& 31).toUInt32).toInt32) &&& (255 : Int32)).toUInt32.toUInt16.toUInt32.toInt32)), .val (.int ((((xx.toUInt32 >>> ((16 : Int32) &&& 31).toUInt32).toInt32) &&& (255 : Int32)).toUInt32.toUInt16.toUInt32.toInt32)), .val (.int (2 : Int32))] [(.ref b123)]))
    have f134 := (f130.keep Kc133)
    exact Run.retA hS (Nat.le_refl _) X133 hx hret rfl rfl hlk (hb hby d1_96) ⟨b123, rfl, N133, K133, sz_b123, f134, own_LBgo lb133 X133.warmed (Keep.refl _ [])⟩ (by decide) (by decide)
  · rw [hn]
    show Run p e below s _ _ _ (s₁.setTop (mkF m 35 #[.val (.int xx), .val (.int ((xx &&& (255 : Int32)).toUInt32.toUInt16.toUInt32.toInt32)), .val (.int ((((xx.toUInt32 >>> ((8 : Int32) &&& 31).toUInt32).toInt32) &&& (255 : Int32)).toUInt32.toUInt16.toUInt32.toInt32)), .val (.int ((((xx.toUInt32 >>> ((16 : Int32) &&& 31).toUInt32).toInt32) &&& (255 : Int32)).toUInt32.toUInt16.toUInt32.toInt32)), .val (.int (3 : Int32))] []))
    refine Run.pre (fun _ k => XS.iload X0.here hx rfl (hb hby d1_35) rfl  k) ?_
    show Run p e below s _ _ _ (s₁.setTop (mkF m 37 #[.val (.int xx), .val (.int ((xx &&& (255 : Int32)).toUInt32.toUInt16.toUInt32.toInt32)), .val (.int ((((xx.toUInt32 >>> ((8 : Int32) &&& 31).toUInt32).toInt32) &&& (255 : Int32)).toUInt32.toUInt16.toUInt32.toInt32)), .val (.int ((((xx.toUInt32 >>> ((16 : Int32) &&& 31).toUInt32).toInt32) &&& (255 : Int32)).toUInt32.toUInt16.toUInt32.toInt32)), .val (.int (3 : Int32))] [(.int (3 : Int32))]))
    refine Run.pre (fun _ k => XS.ifYes X0.here hx rfl (pc0 := 37) (pc' := 51) rfl (hb hby d1_37) rfl ((if0 _ _).trans (feq ((by decide) : ¬ ((3 : Int32) = (0 : Int32)))).2) (by decide) (by decide) k) ?_
    show Run p e below s _ _ _ (s₁.setTop (mkF m 51 #[.val (.int xx), .val (.int ((xx &&& (255 : Int32)).toUInt32.toUInt16.toUInt32.toInt32)), .val (.int ((((xx.toUInt32 >>> ((8 : Int32) &&& 31).toUInt32).toInt32) &&& (255 : Int32)).toUInt32.toUInt16.toUInt32.toInt32)), .val (.int ((((xx.toUInt32 >>> ((16 : Int32) &&& 31).toUInt32).toInt32) &&& (255 : Int32)).toUInt32.toUInt16.toUInt32.toInt32)), .val (.int (3 : Int32))] []))
    refine Run.pre (fun _ k => XS.iload X0.here hx rfl (hb hby d1_51) rfl  k) ?_
    show Run p e below s _ _ _ (s₁.setTop (mkF m 53 #[.val (.int xx), .val (.int ((xx &&& (255 : Int32)).toUInt32.toUInt16.toUInt32.toInt32)), .val (.int ((((xx.toUInt32 >>> ((8 : Int32) &&& 31).toUInt32).toInt32) &&& (255 : Int32)).toUInt32.toUInt16.toUInt32.toInt32)), .val (.int ((((xx.toUInt32 >>> ((16 : Int32) &&& 31).toUInt32).toInt32) &&& (255 : Int32)).toUInt32.toUInt16.toUInt32.toInt32)), .val (.int (3 : Int32))] [(.int (3 : Int32))]))
    refine Run.pre (fun _ k => XS.iconst X0.here hx rfl (hb hby d1_53) k) ?_
    show Run p e below s _ _ _ (s₁.setTop (mkF m 54 #[.val (.int xx), .val (.int ((xx &&& (255 : Int32)).toUInt32.toUInt16.toUInt32.toInt32)), .val (.int ((((xx.toUInt32 >>> ((8 : Int32) &&& 31).toUInt32).toInt32) &&& (255 : Int32)).toUInt32.toUInt16.toUInt32.toInt32)), .val (.int ((((xx.toUInt32 >>> ((16 : Int32) &&& 31).toUInt32).toInt32) &&& (255 : Int32)).toUInt32.toUInt16.toUInt32.toInt32)), .val (.int (3 : Int32))] [(.int (1 : Int32)), (.int (3 : Int32))]))
    refine Run.pre (fun _ k => XS.icmpYes X0.here hx rfl (pc0 := 54) (pc' := 72) rfl (hb hby d1_54) rfl (feq ((by decide) : ¬ ((3 : Int32) = (1 : Int32)))).2 (by decide) (by decide) k) ?_
    show Run p e below s _ _ _ (s₁.setTop (mkF m 72 #[.val (.int xx), .val (.int ((xx &&& (255 : Int32)).toUInt32.toUInt16.toUInt32.toInt32)), .val (.int ((((xx.toUInt32 >>> ((8 : Int32) &&& 31).toUInt32).toInt32) &&& (255 : Int32)).toUInt32.toUInt16.toUInt32.toInt32)), .val (.int ((((xx.toUInt32 >>> ((16 : Int32) &&& 31).toUInt32).toInt32) &&& (255 : Int32)).toUInt32.toUInt16.toUInt32.toInt32)), .val (.int (3 : Int32))] []))
    refine Run.pre (fun _ k => XS.iload X0.here hx rfl (hb hby d1_72) rfl  k) ?_
    show Run p e below s _ _ _ (s₁.setTop (mkF m 74 #[.val (.int xx), .val (.int ((xx &&& (255 : Int32)).toUInt32.toUInt16.toUInt32.toInt32)), .val (.int ((((xx.toUInt32 >>> ((8 : Int32) &&& 31).toUInt32).toInt32) &&& (255 : Int32)).toUInt32.toUInt16.toUInt32.toInt32)), .val (.int ((((xx.toUInt32 >>> ((16 : Int32) &&& 31).toUInt32).toInt32) &&& (255 : Int32)).toUInt32.toUInt16.toUInt32.toInt32)), .val (.int (3 : Int32))] [(.int (3 : Int32))]))
    refine Run.pre (fun _ k => XS.iconst X0.here hx rfl (hb hby d1_74) k) ?_
    show Run p e below s _ _ _ (s₁.setTop (mkF m 75 #[.val (.int xx), .val (.int ((xx &&& (255 : Int32)).toUInt32.toUInt16.toUInt32.toInt32)), .val (.int ((((xx.toUInt32 >>> ((8 : Int32) &&& 31).toUInt32).toInt32) &&& (255 : Int32)).toUInt32.toUInt16.toUInt32.toInt32)), .val (.int ((((xx.toUInt32 >>> ((16 : Int32) &&& 31).toUInt32).toInt32) &&& (255 : Int32)).toUInt32.toUInt16.toUInt32.toInt32)), .val (.int (3 : Int32))] [(.int (2 : Int32)), (.int (3 : Int32))]))
    refine Run.pre (fun _ k => XS.icmpYes X0.here hx rfl (pc0 := 75) (pc' := 97) rfl (hb hby d1_75) rfl (feq ((by decide) : ¬ ((3 : Int32) = (2 : Int32)))).2 (by decide) (by decide) k) ?_
    show Run p e below s _ _ _ (s₁.setTop (mkF m 97 #[.val (.int xx), .val (.int ((xx &&& (255 : Int32)).toUInt32.toUInt16.toUInt32.toInt32)), .val (.int ((((xx.toUInt32 >>> ((8 : Int32) &&& 31).toUInt32).toInt32) &&& (255 : Int32)).toUInt32.toUInt16.toUInt32.toInt32)), .val (.int ((((xx.toUInt32 >>> ((16 : Int32) &&& 31).toUInt32).toInt32) &&& (255 : Int32)).toUInt32.toUInt16.toUInt32.toInt32)), .val (.int (3 : Int32))] []))
    obtain ⟨T135, h135, X135, e135, E135, A135, D135, -, st135⟩ := newO X0 hx hZ hown (hw _ (List.mem_of_getElem? (i := 4) rfl)) (hw _ (List.mem_of_getElem? (i := 5) rfl)) (hw _ (List.mem_of_getElem? (i := 6) rfl)) e0 (g := (mkF m 97 #[.val (.int xx), .val (.int ((xx &&& (255 : Int32)).toUInt32.toUInt16.toUInt32.toInt32)), .val (.int ((((xx.toUInt32 >>> ((8 : Int32) &&& 31).toUInt32).toInt32) &&& (255 : Int32)).toUInt32.toUInt16.toUInt32.toInt32)), .val (.int ((((xx.toUInt32 >>> ((16 : Int32) &&& 31).toUInt32).toInt32) &&& (255 : Int32)).toUInt32.toUInt16.toUInt32.toInt32)), .val (.int (3 : Int32))] [])) rfl (hb hby d1_97) (by decide) (by decide)
    obtain ⟨b135, g135⟩ : ∃ z, z = h0.size := ⟨_, rfl⟩
    rw [← g135] at A135 D135 st135
    refine Run.pre st135 ?_
    have gn_b135 : n0 ≤ b135 := Nat.le_trans (Nat.le_trans Z0 (Keep.refl h0 []).1) (Nat.le_of_eq g135.symm)
    have sz_b135 : h0.size ≤ b135 := Nat.le_trans (Keep.refl h0 []).1 (Nat.le_of_eq g135.symm)
    have K135 : Keep h0 h135 [] := (Keep.refl h0 []).ext E135
    have F_value_b135 : Fld Z h135 b135 "java/lang/String" "value" "[B" .null := D135 (Or.inr (hw _ (List.mem_of_getElem? (i := 20) rfl))) (ty := (.array .byte)) (by decide)
    have F_coder_b135 : Fld Z h135 b135 "java/lang/String" "coder" "B" (.int (0 : Int32)) := D135 (Or.inr (hw _ (List.mem_of_getElem? (i := 21) rfl))) (ty := .byte) (by decide)
    show Run p e below s _ _ _ (T135.setTop (mkF m 100 #[.val (.int xx), .val (.int ((xx &&& (255 : Int32)).toUInt32.toUInt16.toUInt32.toInt32)), .val (.int ((((xx.toUInt32 >>> ((8 : Int32) &&& 31).toUInt32).toInt32) &&& (255 : Int32)).toUInt32.toUInt16.toUInt32.toInt32)), .val (.int ((((xx.toUInt32 >>> ((16 : Int32) &&& 31).toUInt32).toInt32) &&& (255 : Int32)).toUInt32.toUInt16.toUInt32.toInt32)), .val (.int (3 : Int32))] [(.ref b135)]))
    refine Run.pre (fun _ k => XS.dup X135.here hx rfl (hb hby d1_100) rfl rfl k) ?_
    show Run p e below s _ _ _ (T135.setTop (mkF m 101 #[.val (.int xx), .val (.int ((xx &&& (255 : Int32)).toUInt32.toUInt16.toUInt32.toInt32)), .val (.int ((((xx.toUInt32 >>> ((8 : Int32) &&& 31).toUInt32).toInt32) &&& (255 : Int32)).toUInt32.toUInt16.toUInt32.toInt32)), .val (.int ((((xx.toUInt32 >>> ((16 : Int32) &&& 31).toUInt32).toInt32) &&& (255 : Int32)).toUInt32.toUInt16.toUInt32.toInt32)), .val (.int (3 : Int32))] [(.ref b135), (.ref b135)]))
    refine Run.pre (fun _ k => XS.iconst X135.here hx rfl (hb hby d1_101) k) ?_
    show Run p e below s _ _ _ (T135.setTop (mkF m 102 #[.val (.int xx), .val (.int ((xx &&& (255 : Int32)).toUInt32.toUInt16.toUInt32.toInt32)), .val (.int ((((xx.toUInt32 >>> ((8 : Int32) &&& 31).toUInt32).toInt32) &&& (255 : Int32)).toUInt32.toUInt16.toUInt32.toInt32)), .val (.int ((((xx.toUInt32 >>> ((16 : Int32) &&& 31).toUInt32).toInt32) &&& (255 : Int32)).toUInt32.toUInt16.toUInt32.toInt32)), .val (.int (3 : Int32))] [(.int (3 : Int32)), (.ref b135), (.ref b135)]))
    obtain ⟨T136, h136, k136, X136, e136, E136, A136, st136⟩ := newP X135 hx hZ (hw _ (List.mem_of_getElem? (i := 7) rfl)) e135 (g := (mkF m 102 #[.val (.int xx), .val (.int ((xx &&& (255 : Int32)).toUInt32.toUInt16.toUInt32.toInt32)), .val (.int ((((xx.toUInt32 >>> ((8 : Int32) &&& 31).toUInt32).toInt32) &&& (255 : Int32)).toUInt32.toUInt16.toUInt32.toInt32)), .val (.int ((((xx.toUInt32 >>> ((16 : Int32) &&& 31).toUInt32).toInt32) &&& (255 : Int32)).toUInt32.toUInt16.toUInt32.toInt32)), .val (.int (3 : Int32))] [(.int (3 : Int32)), (.ref b135), (.ref b135)])) rfl (hb hby d1_102) rfl (by decide) (cap := 3) (by decide) (by decide) (by decide) (by decide)
    obtain ⟨b136, g136⟩ : ∃ z, z = h135.size := ⟨_, rfl⟩
    rw [← g136] at A136 st136
    refine Run.pre st136 ?_
    have V_b136 : Arv Z h136 b136 k136 .char (3 : Int32) [(.int (0 : Int32)), (.int (0 : Int32)), (.int (0 : Int32))] (.int (0 : Int32)) := (Arv.new A136 (by decide)).pad (pad_rep [] (.int (0 : Int32)) 3)
    have gn_b136 : n0 ≤ b136 := Nat.le_trans (Nat.le_trans Z0 K135.1) (Nat.le_of_eq g136.symm)
    have sz_b136 : h0.size ≤ b136 := Nat.le_trans K135.1 (Nat.le_of_eq g136.symm)
    have K136 : Keep h0 h136 [] := K135.ext E136
    show Run p e below s _ _ _ (T136.setTop (mkF m 104 #[.val (.int xx), .val (.int ((xx &&& (255 : Int32)).toUInt32.toUInt16.toUInt32.toInt32)), .val (.int ((((xx.toUInt32 >>> ((8 : Int32) &&& 31).toUInt32).toInt32) &&& (255 : Int32)).toUInt32.toUInt16.toUInt32.toInt32)), .val (.int ((((xx.toUInt32 >>> ((16 : Int32) &&& 31).toUInt32).toInt32) &&& (255 : Int32)).toUInt32.toUInt16.toUInt32.toInt32)), .val (.int (3 : Int32))] [(.ref b136), (.ref b135), (.ref b135)]))
    refine Run.pre (fun _ k => XS.dup X136.here hx rfl (hb hby d1_104) rfl rfl k) ?_
    show Run p e below s _ _ _ (T136.setTop (mkF m 105 #[.val (.int xx), .val (.int ((xx &&& (255 : Int32)).toUInt32.toUInt16.toUInt32.toInt32)), .val (.int ((((xx.toUInt32 >>> ((8 : Int32) &&& 31).toUInt32).toInt32) &&& (255 : Int32)).toUInt32.toUInt16.toUInt32.toInt32)), .val (.int ((((xx.toUInt32 >>> ((16 : Int32) &&& 31).toUInt32).toInt32) &&& (255 : Int32)).toUInt32.toUInt16.toUInt32.toInt32)), .val (.int (3 : Int32))] [(.ref b136), (.ref b136), (.ref b135), (.ref b135)]))
    refine Run.pre (fun _ k => XS.iconst X136.here hx rfl (hb hby d1_105) k) ?_
    show Run p e below s _ _ _ (T136.setTop (mkF m 106 #[.val (.int xx), .val (.int ((xx &&& (255 : Int32)).toUInt32.toUInt16.toUInt32.toInt32)), .val (.int ((((xx.toUInt32 >>> ((8 : Int32) &&& 31).toUInt32).toInt32) &&& (255 : Int32)).toUInt32.toUInt16.toUInt32.toInt32)), .val (.int ((((xx.toUInt32 >>> ((16 : Int32) &&& 31).toUInt32).toInt32) &&& (255 : Int32)).toUInt32.toUInt16.toUInt32.toInt32)), .val (.int (3 : Int32))] [(.int (0 : Int32)), (.ref b136), (.ref b136), (.ref b135), (.ref b135)]))
    refine Run.pre (fun _ k => XS.iloadN X136.here hx rfl (hb hby d1_106) rfl  k) ?_
    show Run p e below s _ _ _ (T136.setTop (mkF m 107 #[.val (.int xx), .val (.int ((xx &&& (255 : Int32)).toUInt32.toUInt16.toUInt32.toInt32)), .val (.int ((((xx.toUInt32 >>> ((8 : Int32) &&& 31).toUInt32).toInt32) &&& (255 : Int32)).toUInt32.toUInt16.toUInt32.toInt32)), .val (.int ((((xx.toUInt32 >>> ((16 : Int32) &&& 31).toUInt32).toInt32) &&& (255 : Int32)).toUInt32.toUInt16.toUInt32.toInt32)), .val (.int (3 : Int32))] [(.int ((xx &&& (255 : Int32)).toUInt32.toUInt16.toUInt32.toInt32)), (.int (0 : Int32)), (.ref b136), (.ref b136), (.ref b135), (.ref b135)]))
    obtain ⟨c137, Ar137, q137, S137, N137, H137, G137⟩ := id V_b136
    have hin137 : ¬ ((0 : Int32) < 0 ∨ c137.slots.size ≤ ((0 : Int32)).toNatClampNeg) := inb_of S137 ⟨by decide, by decide⟩
    obtain ⟨T138, h138, X138, e138, W138, st138⟩ := stC X136 hx hZ e136 Ar137 (j := (0 : Int32)) hin137 (g := (mkF m 107 #[.val (.int xx), .val (.int ((xx &&& (255 : Int32)).toUInt32.toUInt16.toUInt32.toInt32)), .val (.int ((((xx.toUInt32 >>> ((8 : Int32) &&& 31).toUInt32).toInt32) &&& (255 : Int32)).toUInt32.toUInt16.toUInt32.toInt32)), .val (.int ((((xx.toUInt32 >>> ((16 : Int32) &&& 31).toUInt32).toInt32) &&& (255 : Int32)).toUInt32.toUInt16.toUInt32.toInt32)), .val (.int (3 : Int32))] [(.int ((xx &&& (255 : Int32)).toUInt32.toUInt16.toUInt32.toInt32)), (.int (0 : Int32)), (.ref b136), (.ref b136), (.ref b135), (.ref b135)])) rfl rfl (hb hby d1_107)
    refine Run.pre st138 ?_
    have V_b136_138 : Arv Z h138 b136 k136 .char (3 : Int32) [(.int (nar .char ((xx &&& (255 : Int32)).toUInt32.toUInt16.toUInt32.toInt32))), (.int (0 : Int32)), (.int (0 : Int32))] (.int (0 : Int32)) := Arv.set Ar137 q137 S137 N137 H137 G137 (fits_nar_char _) W138 0 rfl (Nat.le_of_ble_eq_true rfl)
    have K138 : Keep h0 h138 [] := K136.wr W138 (Or.inr sz_b136)
    have N138 := Fr.snoc X138 N0 gn_b136
    show Run p e below s _ _ _ (T138.setTop (mkF m 108 #[.val (.int xx), .val (.int ((xx &&& (255 : Int32)).toUInt32.toUInt16.toUInt32.toInt32)), .val (.int ((((xx.toUInt32 >>> ((8 : Int32) &&& 31).toUInt32).toInt32) &&& (255 : Int32)).toUInt32.toUInt16.toUInt32.toInt32)), .val (.int ((((xx.toUInt32 >>> ((16 : Int32) &&& 31).toUInt32).toInt32) &&& (255 : Int32)).toUInt32.toUInt16.toUInt32.toInt32)), .val (.int (3 : Int32))] [(.ref b136), (.ref b135), (.ref b135)]))
    refine Run.pre (fun _ k => XS.dup X138.here hx rfl (hb hby d1_108) rfl rfl k) ?_
    show Run p e below s _ _ _ (T138.setTop (mkF m 109 #[.val (.int xx), .val (.int ((xx &&& (255 : Int32)).toUInt32.toUInt16.toUInt32.toInt32)), .val (.int ((((xx.toUInt32 >>> ((8 : Int32) &&& 31).toUInt32).toInt32) &&& (255 : Int32)).toUInt32.toUInt16.toUInt32.toInt32)), .val (.int ((((xx.toUInt32 >>> ((16 : Int32) &&& 31).toUInt32).toInt32) &&& (255 : Int32)).toUInt32.toUInt16.toUInt32.toInt32)), .val (.int (3 : Int32))] [(.ref b136), (.ref b136), (.ref b135), (.ref b135)]))
    refine Run.pre (fun _ k => XS.iconst X138.here hx rfl (hb hby d1_109) k) ?_
    show Run p e below s _ _ _ (T138.setTop (mkF m 110 #[.val (.int xx), .val (.int ((xx &&& (255 : Int32)).toUInt32.toUInt16.toUInt32.toInt32)), .val (.int ((((xx.toUInt32 >>> ((8 : Int32) &&& 31).toUInt32).toInt32) &&& (255 : Int32)).toUInt32.toUInt16.toUInt32.toInt32)), .val (.int ((((xx.toUInt32 >>> ((16 : Int32) &&& 31).toUInt32).toInt32) &&& (255 : Int32)).toUInt32.toUInt16.toUInt32.toInt32)), .val (.int (3 : Int32))] [(.int (1 : Int32)), (.ref b136), (.ref b136), (.ref b135), (.ref b135)]))
    refine Run.pre (fun _ k => XS.iloadN X138.here hx rfl (hb hby d1_110) rfl  k) ?_
    show Run p e below s _ _ _ (T138.setTop (mkF m 111 #[.val (.int xx), .val (.int ((xx &&& (255 : Int32)).toUInt32.toUInt16.toUInt32.toInt32)), .val (.int ((((xx.toUInt32 >>> ((8 : Int32) &&& 31).toUInt32).toInt32) &&& (255 : Int32)).toUInt32.toUInt16.toUInt32.toInt32)), .val (.int ((((xx.toUInt32 >>> ((16 : Int32) &&& 31).toUInt32).toInt32) &&& (255 : Int32)).toUInt32.toUInt16.toUInt32.toInt32)), .val (.int (3 : Int32))] [(.int ((((xx.toUInt32 >>> ((8 : Int32) &&& 31).toUInt32).toInt32) &&& (255 : Int32)).toUInt32.toUInt16.toUInt32.toInt32)), (.int (1 : Int32)), (.ref b136), (.ref b136), (.ref b135), (.ref b135)]))
    obtain ⟨c139, Ar139, q139, S139, N139, H139, G139⟩ := id V_b136_138
    have hin139 : ¬ ((1 : Int32) < 0 ∨ c139.slots.size ≤ ((1 : Int32)).toNatClampNeg) := inb_of S139 ⟨by decide, by decide⟩
    obtain ⟨T140, h140, X140, e140, W140, st140⟩ := stC X138 hx hZ e138 Ar139 (j := (1 : Int32)) hin139 (g := (mkF m 111 #[.val (.int xx), .val (.int ((xx &&& (255 : Int32)).toUInt32.toUInt16.toUInt32.toInt32)), .val (.int ((((xx.toUInt32 >>> ((8 : Int32) &&& 31).toUInt32).toInt32) &&& (255 : Int32)).toUInt32.toUInt16.toUInt32.toInt32)), .val (.int ((((xx.toUInt32 >>> ((16 : Int32) &&& 31).toUInt32).toInt32) &&& (255 : Int32)).toUInt32.toUInt16.toUInt32.toInt32)), .val (.int (3 : Int32))] [(.int ((((xx.toUInt32 >>> ((8 : Int32) &&& 31).toUInt32).toInt32) &&& (255 : Int32)).toUInt32.toUInt16.toUInt32.toInt32)), (.int (1 : Int32)), (.ref b136), (.ref b136), (.ref b135), (.ref b135)])) rfl rfl (hb hby d1_111)
    refine Run.pre st140 ?_
    have V_b136_140 : Arv Z h140 b136 k136 .char (3 : Int32) [(.int (nar .char ((xx &&& (255 : Int32)).toUInt32.toUInt16.toUInt32.toInt32))), (.int (nar .char ((((xx.toUInt32 >>> ((8 : Int32) &&& 31).toUInt32).toInt32) &&& (255 : Int32)).toUInt32.toUInt16.toUInt32.toInt32))), (.int (0 : Int32))] (.int (0 : Int32)) := Arv.set Ar139 q139 S139 N139 H139 G139 (fits_nar_char _) W140 1 rfl (Nat.le_of_ble_eq_true rfl)
    have K140 : Keep h0 h140 [] := K138.wr W140 (Or.inr sz_b136)
    have N140 := Fr.snoc X140 N138 gn_b136
    show Run p e below s _ _ _ (T140.setTop (mkF m 112 #[.val (.int xx), .val (.int ((xx &&& (255 : Int32)).toUInt32.toUInt16.toUInt32.toInt32)), .val (.int ((((xx.toUInt32 >>> ((8 : Int32) &&& 31).toUInt32).toInt32) &&& (255 : Int32)).toUInt32.toUInt16.toUInt32.toInt32)), .val (.int ((((xx.toUInt32 >>> ((16 : Int32) &&& 31).toUInt32).toInt32) &&& (255 : Int32)).toUInt32.toUInt16.toUInt32.toInt32)), .val (.int (3 : Int32))] [(.ref b136), (.ref b135), (.ref b135)]))
    refine Run.pre (fun _ k => XS.dup X140.here hx rfl (hb hby d1_112) rfl rfl k) ?_
    show Run p e below s _ _ _ (T140.setTop (mkF m 113 #[.val (.int xx), .val (.int ((xx &&& (255 : Int32)).toUInt32.toUInt16.toUInt32.toInt32)), .val (.int ((((xx.toUInt32 >>> ((8 : Int32) &&& 31).toUInt32).toInt32) &&& (255 : Int32)).toUInt32.toUInt16.toUInt32.toInt32)), .val (.int ((((xx.toUInt32 >>> ((16 : Int32) &&& 31).toUInt32).toInt32) &&& (255 : Int32)).toUInt32.toUInt16.toUInt32.toInt32)), .val (.int (3 : Int32))] [(.ref b136), (.ref b136), (.ref b135), (.ref b135)]))
    refine Run.pre (fun _ k => XS.iconst X140.here hx rfl (hb hby d1_113) k) ?_
    show Run p e below s _ _ _ (T140.setTop (mkF m 114 #[.val (.int xx), .val (.int ((xx &&& (255 : Int32)).toUInt32.toUInt16.toUInt32.toInt32)), .val (.int ((((xx.toUInt32 >>> ((8 : Int32) &&& 31).toUInt32).toInt32) &&& (255 : Int32)).toUInt32.toUInt16.toUInt32.toInt32)), .val (.int ((((xx.toUInt32 >>> ((16 : Int32) &&& 31).toUInt32).toInt32) &&& (255 : Int32)).toUInt32.toUInt16.toUInt32.toInt32)), .val (.int (3 : Int32))] [(.int (2 : Int32)), (.ref b136), (.ref b136), (.ref b135), (.ref b135)]))
    refine Run.pre (fun _ k => XS.iloadN X140.here hx rfl (hb hby d1_114) rfl  k) ?_
    show Run p e below s _ _ _ (T140.setTop (mkF m 115 #[.val (.int xx), .val (.int ((xx &&& (255 : Int32)).toUInt32.toUInt16.toUInt32.toInt32)), .val (.int ((((xx.toUInt32 >>> ((8 : Int32) &&& 31).toUInt32).toInt32) &&& (255 : Int32)).toUInt32.toUInt16.toUInt32.toInt32)), .val (.int ((((xx.toUInt32 >>> ((16 : Int32) &&& 31).toUInt32).toInt32) &&& (255 : Int32)).toUInt32.toUInt16.toUInt32.toInt32)), .val (.int (3 : Int32))] [(.int ((((xx.toUInt32 >>> ((16 : Int32) &&& 31).toUInt32).toInt32) &&& (255 : Int32)).toUInt32.toUInt16.toUInt32.toInt32)), (.int (2 : Int32)), (.ref b136), (.ref b136), (.ref b135), (.ref b135)]))
    obtain ⟨c141, Ar141, q141, S141, N141, H141, G141⟩ := id V_b136_140
    have hin141 : ¬ ((2 : Int32) < 0 ∨ c141.slots.size ≤ ((2 : Int32)).toNatClampNeg) := inb_of S141 ⟨by decide, by decide⟩
    obtain ⟨T142, h142, X142, e142, W142, st142⟩ := stC X140 hx hZ e140 Ar141 (j := (2 : Int32)) hin141 (g := (mkF m 115 #[.val (.int xx), .val (.int ((xx &&& (255 : Int32)).toUInt32.toUInt16.toUInt32.toInt32)), .val (.int ((((xx.toUInt32 >>> ((8 : Int32) &&& 31).toUInt32).toInt32) &&& (255 : Int32)).toUInt32.toUInt16.toUInt32.toInt32)), .val (.int ((((xx.toUInt32 >>> ((16 : Int32) &&& 31).toUInt32).toInt32) &&& (255 : Int32)).toUInt32.toUInt16.toUInt32.toInt32)), .val (.int (3 : Int32))] [(.int ((((xx.toUInt32 >>> ((16 : Int32) &&& 31).toUInt32).toInt32) &&& (255 : Int32)).toUInt32.toUInt16.toUInt32.toInt32)), (.int (2 : Int32)), (.ref b136), (.ref b136), (.ref b135), (.ref b135)])) rfl rfl (hb hby d1_115)
    refine Run.pre st142 ?_
    have V_b136_142 : Arv Z h142 b136 k136 .char (3 : Int32) [(.int (nar .char ((xx &&& (255 : Int32)).toUInt32.toUInt16.toUInt32.toInt32))), (.int (nar .char ((((xx.toUInt32 >>> ((8 : Int32) &&& 31).toUInt32).toInt32) &&& (255 : Int32)).toUInt32.toUInt16.toUInt32.toInt32))), (.int (nar .char ((((xx.toUInt32 >>> ((16 : Int32) &&& 31).toUInt32).toInt32) &&& (255 : Int32)).toUInt32.toUInt16.toUInt32.toInt32)))] (.int (0 : Int32)) := Arv.set Ar141 q141 S141 N141 H141 G141 (fits_nar_char _) W142 2 rfl (Nat.le_of_ble_eq_true rfl)
    have K142 : Keep h0 h142 [] := K140.wr W142 (Or.inr sz_b136)
    have N142 := Fr.snoc X142 N140 gn_b136
    show Run p e below s _ _ _ (T142.setTop (mkF m 116 #[.val (.int xx), .val (.int ((xx &&& (255 : Int32)).toUInt32.toUInt16.toUInt32.toInt32)), .val (.int ((((xx.toUInt32 >>> ((8 : Int32) &&& 31).toUInt32).toInt32) &&& (255 : Int32)).toUInt32.toUInt16.toUInt32.toInt32)), .val (.int ((((xx.toUInt32 >>> ((16 : Int32) &&& 31).toUInt32).toInt32) &&& (255 : Int32)).toUInt32.toUInt16.toUInt32.toInt32)), .val (.int (3 : Int32))] [(.ref b136), (.ref b135), (.ref b135)]))
    have f143 := (((((OL.ext E135).ext E136).wr W138 gn_b136).wr W140 gn_b136).wr W142 gn_b136)
    have f144 := ((((A135.ext E136).wr W138).wr W140).wr W142)
    have f145 := ((((F_value_b135.ext E136).other W138 (Or.inl (Nat.ne_of_lt (Nat.lt_of_lt_of_le A135.lt (Nat.le_of_eq g136.symm))))).other W140 (Or.inl (Nat.ne_of_lt (Nat.lt_of_lt_of_le A135.lt (Nat.le_of_eq g136.symm))))).other W142 (Or.inl (Nat.ne_of_lt (Nat.lt_of_lt_of_le A135.lt (Nat.le_of_eq g136.symm)))))
    have f146 := ((((F_coder_b135.ext E136).other W138 (Or.inl (Nat.ne_of_lt (Nat.lt_of_lt_of_le A135.lt (Nat.le_of_eq g136.symm))))).other W140 (Or.inl (Nat.ne_of_lt (Nat.lt_of_lt_of_le A135.lt (Nat.le_of_eq g136.symm))))).other W142 (Or.inl (Nat.ne_of_lt (Nat.lt_of_lt_of_le A135.lt (Nat.le_of_eq g136.symm)))))
    refine Run.callI hS (by first | exact Nat.le_refl _ | (rw [e142]; exact (Nat.le_trans (Nat.le_trans (Nat.le_trans (Nat.le_trans (Nat.le_trans (Nat.zero_le _) E135.1) E136.1) (Keep.of_wr W138).1) (Keep.of_wr W140).1) (Keep.of_wr W142).1))) X142 hx hZ (y := (⟨"java/lang/String", "<init>", "([C)V"⟩ : MethodName)) rfl hown (hw _ (List.mem_of_getElem? (i := 8) rfl)) (hw _ (List.mem_of_getElem? (i := 9) rfl)) (hw _ (List.mem_of_getElem? (i := 10) rfl)) (hw _ (List.mem_of_getElem? (i := 6) rfl)) (by decide) (a := b135) (W := 1) (rmI_3 l Z a0 hw _ b135 b136 k136 (nar .char ((xx &&& (255 : Int32)).toUInt32.toUInt16.toUInt32.toInt32)) (nar .char ((((xx.toUInt32 >>> ((8 : Int32) &&& 31).toUInt32).toInt32) &&& (255 : Int32)).toUInt32.toUInt16.toUInt32.toInt32)) (nar .char ((((xx.toUInt32 >>> ((16 : Int32) &&& 31).toUInt32).toInt32) &&& (255 : Int32)).toUInt32.toUInt16.toUInt32.toInt32)) cs h142 n0 (Nat.le_trans Z0 K142.1) f143 SC hcs V_b136_142 f144 f145 f146 gn_b135 (Ne.symm (Nat.ne_of_lt (Nat.lt_of_lt_of_le A135.lt (Nat.le_of_eq g136.symm)))) (own_and255 _) (own_and255 _) (own_and255 _)) e142 (by decide) (by decide) (by decide) (by decide) (fun _ q => q.interned_eq) (g := (mkF m 116 #[.val (.int xx), .val (.int ((xx &&& (255 : Int32)).toUInt32.toUInt16.toUInt32.toInt32)), .val (.int ((((xx.toUInt32 >>> ((8 : Int32) &&& 31).toUInt32).toInt32) &&& (255 : Int32)).toUInt32.toUInt16.toUInt32.toInt32)), .val (.int ((((xx.toUInt32 >>> ((16 : Int32) &&& 31).toUInt32).toInt32) &&& (255 : Int32)).toUInt32.toUInt16.toUInt32.toInt32)), .val (.int (3 : Int32))] [(.ref b136), (.ref b135), (.ref b135)])) rfl (by rw [hml]; rfl) (argsL := [(.ref b136)]) (rest := [(.ref b135)]) (lenOf pd_4 rfl) rfl (by show 2 * 0 + _ ≤ _; exact Nat.le_of_eq rfl) (hb hby d1_116) ?_
    intro v147 T147 L147 X147 hS hZ hown hV147 hQ147
    obtain ⟨b147, k147, rfl, Nq147, Kc147, sz147, fc147, fv147, vb147, hI147⟩ := hQ147
    have N147 := Fr.app N142 Nq147
    have K147 : Keep h0 T147.heap [] := K142.trans Kc147 (allS (Or.inr sz_b135) all0)
    have sz_b147 : h0.size ≤ b147 := Nat.le_trans K142.1 sz147
    have gn_b147 : n0 ≤ b147 := Nat.le_trans Z0 sz_b147
    have lb147 := own_LBstep hP0 hI147 hV147 K147
    show Run p e below s _ _ _ (T147.setTop (mkF m 119 #[.val (.int xx), .val (.int ((xx &&& (255 : Int32)).toUInt32.toUInt16.toUInt32.toInt32)), .val (.int ((((xx.toUInt32 >>> ((8 : Int32) &&& 31).toUInt32).toInt32) &&& (255 : Int32)).toUInt32.toUInt16.toUInt32.toInt32)), .val (.int ((((xx.toUInt32 >>> ((16 : Int32) &&& 31).toUInt32).toInt32) &&& (255 : Int32)).toUInt32.toUInt16.toUInt32.toInt32)), .val (.int (3 : Int32))] [(.ref b135)]))
    have f148 := (f144.keep Kc147)
    exact Run.retA hS (Nat.le_refl _) X147 hx hret rfl rfl hlk (hb hby d1_119) ⟨b135, rfl, N147, K147, sz_b135, f148, own_LBgo lb147 X147.warmed (Keep.refl _ [])⟩ (by decide) (by decide)
theorem d7_0 : decode jdk_22_method_1_code 0 = .ok (.aload_n 0, 1) := by decide +kernel
theorem d7_1 : decode jdk_22_method_1_code 1 = .ok (.invokespecial 1, 3) := by decide +kernel
theorem d7_4 : decode jdk_22_method_1_code 4 = .ok (.return_, 1) := by decide +kernel
theorem pn_7 : plainName "java/util/AbstractCollection" = true := by first | (simp [plainName, overriddenIn]; done) | decide +kernel
set_option maxRecDepth 65536 in
set_option maxHeartbeats 40000000 in
theorem rmAC (l : Launch) (Z : State) (a0 : Array Value) (hw : ∀ d ∈ tables_1, d.before a0 Z = true) (a : Addr) (h0 : Heap) (n0 : Nat) (Z0 : n0 ≤ h0.size) (E_a : Exa Z h0 a "java/util/ArrayList") :
    Con l (⟨"java/util/AbstractCollection", "<init>", "()V"⟩ : MethodName) jdk_22_method_1_code 1 none ({ frames := 1, cells := 0, slots := 0, locals := 12 } : Room) Z #[(.ref a)] h0 (fun _ => True) (fun v h L vm => v = none ∧ Fr n0 L ∧ h = h0) := by
  refine Con.mk (plainFor_of_name pn_7) (fun m => show entryFrame m #[(.ref a)] 1 = mkF m 0 #[.val (.ref a)] [] by first | (simp [entryFrame, mkF, argsToLocals, Value.category]; done) | rfl) ?_
  intro p e s m below meth c s₁ vm0 hx hby hml hown hnm hret hlk hZ X0 e0 hS hs0 hP0
  have N0 := Fr.nil n0
  show Run p e below s _ _ _ (s₁.setTop (mkF m 0 #[.val (.ref a)] []))
  refine Run.pre (fun _ k => XS.aloadN X0.here hx rfl (hb hby d7_0) rfl rfl k) ?_
  show Run p e below s _ _ _ (s₁.setTop (mkF m 1 #[.val (.ref a)] [(.ref a)]))
  obtain ⟨T149, X149, e149, st149⟩ := initO X0 hx hZ hown (hw _ (List.mem_of_getElem? (i := 44) rfl)) (hw _ (List.mem_of_getElem? (i := 16) rfl)) (hw _ (List.mem_of_getElem? (i := 17) rfl)) e0 (g := (mkF m 1 #[.val (.ref a)] [(.ref a)])) rfl (by rw [hml]; rfl) rfl (hb hby d7_1) (by decide) (W := 0) (by show 2 * 0 + _ ≤ _; exact Nat.le_of_eq rfl) (by decide)
  refine Run.pre st149 ?_
  show Run p e below s _ _ _ (T149.setTop (mkF m 4 #[.val (.ref a)] []))
  exact Run.retV hS (by first | exact Nat.le_refl _ | (rw [e149]; exact (Nat.zero_le _))) X149 hx hret hlk (hb hby d7_4) (by first | (rw [e149]; exact ⟨rfl, N0, rfl⟩) | exact ⟨rfl, N0, rfl⟩) (by decide) (by decide)
theorem d6_0 : decode jdk_39_method_1_code 0 = .ok (.aload_n 0, 1) := by decide +kernel
theorem pd_5 : parseMethodDescriptor "()V" = some ⟨[], none⟩ := by decide +kernel
theorem d6_1 : decode jdk_39_method_1_code 1 = .ok (.invokespecial 1, 3) := by decide +kernel
theorem d6_4 : decode jdk_39_method_1_code 4 = .ok (.aload_n 0, 1) := by decide +kernel
theorem d6_5 : decode jdk_39_method_1_code 5 = .ok (.iconst 0, 1) := by decide +kernel
theorem d6_6 : decode jdk_39_method_1_code 6 = .ok (.putfield 7, 3) := by decide +kernel
theorem d6_9 : decode jdk_39_method_1_code 9 = .ok (.return_, 1) := by decide +kernel
theorem pn_6 : plainName "java/util/AbstractList" = true := by first | (simp [plainName, overriddenIn]; done) | decide +kernel
set_option maxRecDepth 65536 in
set_option maxHeartbeats 40000000 in
theorem rmABL (l : Launch) (Z : State) (a0 : Array Value) (hw : ∀ d ∈ tables_1, d.before a0 Z = true) (a : Addr) (h0 : Heap) (n0 : Nat) (Z0 : n0 ≤ h0.size) (E_a : Exa Z h0 a "java/util/ArrayList") (FM : Fld Z h0 a "java/util/AbstractList" "modCount" "I" (.int 0)) (FE : Fld Z h0 a "java/util/ArrayList" "elementData" "[Ljava/lang/Object;" .null) (FS : Fld Z h0 a "java/util/ArrayList" "size" "I" (.int 0)) (g_a : n0 ≤ a) :
    Con l (⟨"java/util/AbstractList", "<init>", "()V"⟩ : MethodName) jdk_39_method_1_code 1 none ({ frames := 2, cells := 0, slots := 0, locals := 24 } : Room) Z #[(.ref a)] h0 (fun _ => True) (fun v h L vm => v = none ∧ Fr n0 L ∧ Keep h0 h [a] ∧ Fld Z h a "java/util/AbstractList" "modCount" "I" (.int 0) ∧ Fld Z h a "java/util/ArrayList" "elementData" "[Ljava/lang/Object;" .null ∧ Fld Z h a "java/util/ArrayList" "size" "I" (.int 0)) := by
  refine Con.mk (plainFor_of_name pn_6) (fun m => show entryFrame m #[(.ref a)] 1 = mkF m 0 #[.val (.ref a)] [] by first | (simp [entryFrame, mkF, argsToLocals, Value.category]; done) | rfl) ?_
  intro p e s m below meth c s₁ vm0 hx hby hml hown hnm hret hlk hZ X0 e0 hS hs0 hP0
  have N0 := Fr.nil n0
  show Run p e below s _ _ _ (s₁.setTop (mkF m 0 #[.val (.ref a)] []))
  refine Run.pre (fun _ k => XS.aloadN X0.here hx rfl (hb hby d6_0) rfl rfl k) ?_
  show Run p e below s _ _ _ (s₁.setTop (mkF m 1 #[.val (.ref a)] [(.ref a)]))
  refine Run.callI hS (by first | exact Nat.le_refl _ | (rw [e0]; exact (Nat.zero_le _))) X0 hx hZ (y := (⟨"java/util/AbstractCollection", "<init>", "()V"⟩ : MethodName)) rfl hown (hw _ (List.mem_of_getElem? (i := 38) rfl)) (hw _ (List.mem_of_getElem? (i := 39) rfl)) (hw _ (List.mem_of_getElem? (i := 43) rfl)) (hw _ (List.mem_of_getElem? (i := 42) rfl)) (by decide) (a := a) (W := 0) (rmAC l Z a0 hw a h0 n0 (Nat.le_trans Z0 (Keep.refl h0 [a]).1) E_a) e0 (by decide) (by decide) (by decide) (by decide) (fun _ _ => trivial) (g := (mkF m 1 #[.val (.ref a)] [(.ref a)])) rfl (by rw [hml]; rfl) (argsL := []) (rest := []) (lenOf pd_5 rfl) rfl (by show 2 * 0 + _ ≤ _; exact Nat.le_of_eq rfl) (hb hby d6_1) ?_
  intro v150 T150 L150 X150 hS hZ hown hV150 hQ150
  obtain ⟨rfl, Nq150, he150⟩ := hQ150
  have N150 := Fr.app N0 Nq150
  have e150 : T150.heap = h0 := he150
  show Run p e below s _ _ _ (T150.setTop (mkF m 4 #[.val (.ref a)] []))
  refine Run.pre (fun _ k => XS.aloadN X150.here hx rfl (hb hby d6_4) rfl rfl k) ?_
  show Run p e below s _ _ _ (T150.setTop (mkF m 5 #[.val (.ref a)] [(.ref a)]))
  refine Run.pre (fun _ k => XS.iconst X150.here hx rfl (hb hby d6_5) k) ?_
  show Run p e below s _ _ _ (T150.setTop (mkF m 6 #[.val (.ref a)] [(.int (0 : Int32)), (.ref a)]))
  obtain ⟨T151, h151, X151, e151, W151, st151⟩ := putF X150 hx hZ hown (host := "") (Or.inl (hw _ (List.mem_of_getElem? (i := 45) rfl))) Via.refl e150 FM E_a (Or.inl (hw _ (List.mem_of_getElem? (i := 46) rfl))) (hw _ (List.mem_of_getElem? (i := 27) rfl)) (ty := .int) (by decide) rfl rfl (g := (mkF m 6 #[.val (.ref a)] [(.int (0 : Int32)), (.ref a)])) rfl rfl (hb hby d6_6)
  refine Run.pre st151 ?_
  have Fw151 := FM.same W151
  have K151 : Keep h0 h151 [a] := (Keep.refl h0 [a]).wr W151 (Or.inl (by simp))
  have N151 := Fr.snoc X151 N150 g_a
  show Run p e below s _ _ _ (T151.setTop (mkF m 9 #[.val (.ref a)] []))
  have f152 := (FE.other W151 (Or.inr (slot_ne (Or.inl (hw _ (List.mem_of_getElem? (i := 49) rfl))) (Or.inl (hw _ (List.mem_of_getElem? (i := 46) rfl))) (by decide) (t := (.array (.object "java/lang/Object"))) (t' := .int) (by decide) (by decide))))
  have f153 := (FS.other W151 (Or.inr (slot_ne (Or.inl (hw _ (List.mem_of_getElem? (i := 115) rfl))) (Or.inl (hw _ (List.mem_of_getElem? (i := 46) rfl))) (by decide) (t := .int) (t' := .int) (by decide) (by decide))))
  exact Run.retV hS (by first | exact Nat.le_refl _ | (rw [e151]; exact (Nat.le_trans (Nat.le_of_eq (congrArg Array.size e150)) (Keep.of_wr W151).1))) X151 hx hret hlk (hb hby d6_9) (by first | (rw [e151]; exact ⟨rfl, N151, K151, Fw151, f152, f153⟩) | exact ⟨rfl, N151, K151, Fw151, f152, f153⟩) (by decide) (by decide)
theorem d5_0 : decode jdk_38_method_2_code 0 = .ok (.aload_n 0, 1) := by decide +kernel
theorem d5_1 : decode jdk_38_method_2_code 1 = .ok (.invokespecial 1, 3) := by decide +kernel
theorem d5_4 : decode jdk_38_method_2_code 4 = .ok (.aload_n 0, 1) := by decide +kernel
theorem d5_5 : decode jdk_38_method_2_code 5 = .ok (.getstatic 39, 3) := by decide +kernel
theorem d5_8 : decode jdk_38_method_2_code 8 = .ok (.putfield 9, 3) := by decide +kernel
theorem d5_11 : decode jdk_38_method_2_code 11 = .ok (.return_, 1) := by decide +kernel
theorem pn_5 : plainName "java/util/ArrayList" = true := by first | (simp [plainName, overriddenIn]; done) | decide +kernel
set_option maxRecDepth 65536 in
set_option maxHeartbeats 40000000 in
theorem rmInit (l : Launch) (Z : State) (a0 : Array Value) (hw : ∀ d ∈ tables_1, d.before a0 Z = true) (a : Addr) (dd : Addr) (kd : ClassId) (h0 : Heap) (n0 : Nat) (Z0 : n0 ≤ h0.size) (OL : Old Z n0 h0) (SD : Sta Z Z.heap "java/util/ArrayList" "DEFAULTCAPACITY_EMPTY_ELEMENTDATA" "[Ljava/lang/Object;" (.ref dd)) (AD : Arv Z Z.heap dd kd (.object "java/lang/Object") 0 [] .null) (E_a : Exa Z h0 a "java/util/ArrayList") (FM : Fld Z h0 a "java/util/AbstractList" "modCount" "I" (.int 0)) (FE : Fld Z h0 a "java/util/ArrayList" "elementData" "[Ljava/lang/Object;" .null) (FS : Fld Z h0 a "java/util/ArrayList" "size" "I" (.int 0)) (g_a : n0 ≤ a) :
    Con l (⟨"java/util/ArrayList", "<init>", "()V"⟩ : MethodName) jdk_38_method_2_code 1 none ({ frames := 3, cells := 0, slots := 0, locals := 36 } : Room) Z #[(.ref a)] h0 (fun _ => True) (fun v h L vm => v = none ∧ Fr n0 L ∧ Keep h0 h [a] ∧ Fld Z h a "java/util/AbstractList" "modCount" "I" (.int 0) ∧ Fld Z h a "java/util/ArrayList" "elementData" "[Ljava/lang/Object;" (.ref dd) ∧ Fld Z h a "java/util/ArrayList" "size" "I" (.int 0)) := by
  refine Con.mk (plainFor_of_name pn_5) (fun m => show entryFrame m #[(.ref a)] 1 = mkF m 0 #[.val (.ref a)] [] by first | (simp [entryFrame, mkF, argsToLocals, Value.category]; done) | rfl) ?_
  intro p e s m below meth c s₁ vm0 hx hby hml hown hnm hret hlk hZ X0 e0 hS hs0 hP0
  have N0 := Fr.nil n0
  show Run p e below s _ _ _ (s₁.setTop (mkF m 0 #[.val (.ref a)] []))
  refine Run.pre (fun _ k => XS.aloadN X0.here hx rfl (hb hby d5_0) rfl rfl k) ?_
  show Run p e below s _ _ _ (s₁.setTop (mkF m 1 #[.val (.ref a)] [(.ref a)]))
  refine Run.callI hS (by first | exact Nat.le_refl _ | (rw [e0]; exact (Nat.zero_le _))) X0 hx hZ (y := (⟨"java/util/AbstractList", "<init>", "()V"⟩ : MethodName)) rfl hown (hw _ (List.mem_of_getElem? (i := 32) rfl)) (hw _ (List.mem_of_getElem? (i := 33) rfl)) (hw _ (List.mem_of_getElem? (i := 37) rfl)) (hw _ (List.mem_of_getElem? (i := 36) rfl)) (by decide) (a := a) (W := 0) (rmABL l Z a0 hw a h0 n0 (Nat.le_trans Z0 (Keep.refl h0 [a]).1) E_a FM FE FS g_a) e0 (by decide) (by decide) (by decide) (by decide) (fun _ _ => trivial) (g := (mkF m 1 #[.val (.ref a)] [(.ref a)])) rfl (by rw [hml]; rfl) (argsL := []) (rest := []) (lenOf pd_5 rfl) rfl (by show 2 * 0 + _ ≤ _; exact Nat.le_of_eq rfl) (hb hby d5_1) ?_
  intro v154 T154 L154 X154 hS hZ hown hV154 hQ154
  obtain ⟨rfl, Nq154, Kc154, fm154, fe154, fs154⟩ := hQ154
  have N154 := Fr.app N0 Nq154
  have K154 : Keep h0 T154.heap [a] := (Keep.refl h0 [a]).trans Kc154 (allS (Or.inl (by simp)) all0)
  show Run p e below s _ _ _ (T154.setTop (mkF m 4 #[.val (.ref a)] []))
  refine Run.pre (fun _ k => XS.aloadN X154.here hx rfl (hb hby d5_4) rfl rfl k) ?_
  show Run p e below s _ _ _ (T154.setTop (mkF m 5 #[.val (.ref a)] [(.ref a)]))
  have f155 := (OL.keep Kc154 (allS g_a all0))
  obtain ⟨T156, X156, e156, st156⟩ := getS2 X154 hx hZ hown (host := "") (Or.inl (hw _ (List.mem_of_getElem? (i := 47) rfl))) Via.refl rfl (SD.ext f155.2) (g := (mkF m 5 #[.val (.ref a)] [(.ref a)])) rfl (hb hby d5_5)
  refine Run.pre st156 ?_
  show Run p e below s _ _ _ (T156.setTop (mkF m 8 #[.val (.ref a)] [(.ref dd), (.ref a)]))
  have f157 := (E_a.keep Kc154)
  obtain ⟨T158, h158, X158, e158, W158, st158⟩ := putF X156 hx hZ hown (host := "") (Or.inl (hw _ (List.mem_of_getElem? (i := 48) rfl))) Via.refl e156 fe154 f157 (Or.inl (hw _ (List.mem_of_getElem? (i := 49) rfl))) (hw _ (List.mem_of_getElem? (i := 27) rfl)) (ty := (.array (.object "java/lang/Object"))) (by decide) rfl rfl (g := (mkF m 8 #[.val (.ref a)] [(.ref dd), (.ref a)])) rfl rfl (hb hby d5_8)
  refine Run.pre st158 ?_
  have Fw158 := fe154.same W158
  have K158 : Keep h0 h158 [a] := K154.wr W158 (Or.inl (by simp))
  have N158 := Fr.snoc X158 N154 g_a
  show Run p e below s _ _ _ (T158.setTop (mkF m 11 #[.val (.ref a)] []))
  have f159 := (fm154.other W158 (Or.inr (slot_ne (Or.inl (hw _ (List.mem_of_getElem? (i := 46) rfl))) (Or.inl (hw _ (List.mem_of_getElem? (i := 49) rfl))) (by decide) (t := .int) (t' := (.array (.object "java/lang/Object"))) (by decide) (by decide))))
  have f160 := (fs154.other W158 (Or.inr (slot_ne (Or.inl (hw _ (List.mem_of_getElem? (i := 115) rfl))) (Or.inl (hw _ (List.mem_of_getElem? (i := 49) rfl))) (by decide) (t := .int) (t' := (.array (.object "java/lang/Object"))) (by decide) (by decide))))
  exact Run.retV hS (by first | exact Nat.le_refl _ | (rw [e158]; exact (Nat.le_trans (Nat.le_refl _) (Keep.of_wr W158).1))) X158 hx hret hlk (hb hby d5_11) (by first | (rw [e158]; exact ⟨rfl, N158, K158, f159, Fw158, f160⟩) | exact ⟨rfl, N158, K158, f159, Fw158, f160⟩) (by decide) (by decide)
theorem d22_0 : decode jdk_29_method_65_code 0 = .ok (.iload_n 0, 1) := by decide +kernel
theorem d22_1 : decode jdk_29_method_65_code 1 = .ok (.iload_n 1, 1) := by decide +kernel
theorem d22_2 : decode jdk_29_method_65_code 2 = .ok (.if_icmp .lt 7, 3) := by decide +kernel
theorem d22_5 : decode jdk_29_method_65_code 5 = .ok (.iload_n 0, 1) := by decide +kernel
theorem d22_6 : decode jdk_29_method_65_code 6 = .ok (.goto 4, 3) := by decide +kernel
theorem d22_10 : decode jdk_29_method_65_code 10 = .ok (.ireturn, 1) := by decide +kernel
set_option maxRecDepth 65536 in
set_option maxHeartbeats 40000000 in
theorem rmMax (l : Launch) (Z : State) (a0 : Array Value) (hw : ∀ d ∈ tables_1, d.before a0 Z = true)  (h0 : Heap) (n0 : Nat) (Z0 : n0 ≤ h0.size) :
    Con l (⟨"java/lang/Math", "max", "(II)I"⟩ : MethodName) jdk_29_method_65_code 2 (some .int) ({ frames := 0, cells := 0, slots := 0, locals := 0 } : Room) Z #[(.int (10 : Int32)), (.int (1 : Int32))] h0 (fun _ => True) (fun v h L vm => v = some (.int 10) ∧ Fr n0 L ∧ h = h0) := by
  refine Con.mk (Jvm.Free.JP.mathPlain rfl (by decide +kernel)) (fun m => show entryFrame m #[(.int (10 : Int32)), (.int (1 : Int32))] 2 = mkF m 0 #[.val (.int (10 : Int32)), .val (.int (1 : Int32))] [] by first | (simp [entryFrame, mkF, argsToLocals, Value.category]; done) | rfl) ?_
  intro p e s m below meth c s₁ vm0 hx hby hml hown hnm hret hlk hZ X0 e0 hS hs0 hP0
  have N0 := Fr.nil n0
  show Run p e below s _ _ _ (s₁.setTop (mkF m 0 #[.val (.int (10 : Int32)), .val (.int (1 : Int32))] []))
  refine Run.pre (fun _ k => XS.iloadN X0.here hx rfl (hb hby d22_0) rfl  k) ?_
  show Run p e below s _ _ _ (s₁.setTop (mkF m 1 #[.val (.int (10 : Int32)), .val (.int (1 : Int32))] [(.int (10 : Int32))]))
  refine Run.pre (fun _ k => XS.iloadN X0.here hx rfl (hb hby d22_1) rfl  k) ?_
  show Run p e below s _ _ _ (s₁.setTop (mkF m 2 #[.val (.int (10 : Int32)), .val (.int (1 : Int32))] [(.int (1 : Int32)), (.int (10 : Int32))]))
  refine Run.pre (fun _ k => XS.icmpNo X0.here hx rfl (hb hby d22_2) rfl (flt ((by decide) : ¬ ((10 : Int32) < (1 : Int32)))).1 k) ?_
  show Run p e below s _ _ _ (s₁.setTop (mkF m 5 #[.val (.int (10 : Int32)), .val (.int (1 : Int32))] []))
  refine Run.pre (fun _ k => XS.iloadN X0.here hx rfl (hb hby d22_5) rfl  k) ?_
  show Run p e below s _ _ _ (s₁.setTop (mkF m 6 #[.val (.int (10 : Int32)), .val (.int (1 : Int32))] [(.int (10 : Int32))]))
  refine Run.pre (fun _ k => XS.goto X0.here hx rfl (pc0 := 6) (pc' := 10) rfl (hb hby d22_6) (by decide) (by decide) k) ?_
  show Run p e below s _ _ _ (s₁.setTop (mkF m 10 #[.val (.int (10 : Int32)), .val (.int (1 : Int32))] [(.int (10 : Int32))]))
  exact Run.retI hS (by first | exact Nat.le_refl _ | (rw [e0]; exact (Nat.zero_le _))) X0 hx hret hlk (hb hby d22_10) (by first | (rw [e0]; exact ⟨rfl, N0, rfl⟩) | exact ⟨rfl, N0, rfl⟩) (by decide) (by decide)
theorem d21_0 : decode jdk_38_method_6_code 0 = .ok (.aload_n 0, 1) := by decide +kernel
theorem d21_1 : decode jdk_38_method_6_code 1 = .ok (.getfield 9, 3) := by decide +kernel
theorem d21_4 : decode jdk_38_method_6_code 4 = .ok (.arraylength, 1) := by decide +kernel
theorem d21_5 : decode jdk_38_method_6_code 5 = .ok (.istore_n 2, 1) := by decide +kernel
theorem d21_6 : decode jdk_38_method_6_code 6 = .ok (.iload_n 2, 1) := by decide +kernel
theorem d21_7 : decode jdk_38_method_6_code 7 = .ok (.ifCond .gt 13, 3) := by decide +kernel
theorem d21_10 : decode jdk_38_method_6_code 10 = .ok (.aload_n 0, 1) := by decide +kernel
theorem d21_11 : decode jdk_38_method_6_code 11 = .ok (.getfield 9, 3) := by decide +kernel
theorem d21_14 : decode jdk_38_method_6_code 14 = .ok (.getstatic 39, 3) := by decide +kernel
theorem d21_17 : decode jdk_38_method_6_code 17 = .ok (.if_acmp .eq 28, 3) := by decide +kernel
theorem d21_45 : decode jdk_38_method_6_code 45 = .ok (.aload_n 0, 1) := by decide +kernel
theorem d21_46 : decode jdk_38_method_6_code 46 = .ok (.bipush 10, 2) := by decide +kernel
theorem d21_48 : decode jdk_38_method_6_code 48 = .ok (.iload_n 1, 1) := by decide +kernel
theorem pd_6 : parseMethodDescriptor "(II)I" = some ⟨[.int, .int], some .int⟩ := by decide +kernel
theorem d21_49 : decode jdk_38_method_6_code 49 = .ok (.invokestatic 79, 3) := by decide +kernel
theorem d21_52 : decode jdk_38_method_6_code 52 = .ok (.anewarray 7, 3) := by decide +kernel
theorem d21_55 : decode jdk_38_method_6_code 55 = .ok (.dup_x1, 1) := by decide +kernel
theorem d21_56 : decode jdk_38_method_6_code 56 = .ok (.putfield 9, 3) := by decide +kernel
theorem d21_59 : decode jdk_38_method_6_code 59 = .ok (.areturn, 1) := by decide +kernel
theorem pn_21 : plainName "java/util/ArrayList" = true := by first | (simp [plainName, overriddenIn]; done) | decide +kernel
set_option maxRecDepth 65536 in
set_option maxHeartbeats 40000000 in
theorem rmG1 (l : Launch) (Z : State) (a0 : Array Value) (hw : ∀ d ∈ tables_1, d.before a0 Z = true) (a : Addr) (dd : Addr) (kd : ClassId) (h0 : Heap) (n0 : Nat) (Z0 : n0 ≤ h0.size) (OL : Old Z n0 h0) (SD : Sta Z Z.heap "java/util/ArrayList" "DEFAULTCAPACITY_EMPTY_ELEMENTDATA" "[Ljava/lang/Object;" (.ref dd)) (AD : Arv Z Z.heap dd kd (.object "java/lang/Object") 0 [] .null) (E_a : Exa Z h0 a "java/util/ArrayList") (FM : Fld Z h0 a "java/util/AbstractList" "modCount" "I" (.int 1)) (FE : Fld Z h0 a "java/util/ArrayList" "elementData" "[Ljava/lang/Object;" (.ref dd)) (FS : Fld Z h0 a "java/util/ArrayList" "size" "I" (.int 0)) (g_a : n0 ≤ a) :
    Con l (⟨"java/util/ArrayList", "grow", "(I)[Ljava/lang/Object;"⟩ : MethodName) jdk_38_method_6_code 4 (some (.array (.object "java/lang/Object"))) ({ frames := 1, cells := 1, slots := 10, locals := 14 } : Room) Z #[(.ref a), (.int (1 : Int32))] h0 (fun _ => True) (fun v h L vm => ∃ b : Addr, ∃ k : ClassId, v = some (.ref b) ∧ Fr n0 L ∧ Keep h0 h [a] ∧ h0.size ≤ b ∧ Arv Z h b k (.object "java/lang/Object") 10 [.null, .null, .null, .null, .null, .null, .null, .null, .null, .null] .null ∧ Ovr Z k "java/lang/Object" ∧ Fld Z h a "java/util/AbstractList" "modCount" "I" (.int 1) ∧ Fld Z h a "java/util/ArrayList" "elementData" "[Ljava/lang/Object;" (.ref b) ∧ Fld Z h a "java/util/ArrayList" "size" "I" (.int 0)) := by
  refine Con.mk (plainFor_of_name pn_21) (fun m => show entryFrame m #[(.ref a), (.int (1 : Int32))] 4 = mkF m 0 #[.val (.ref a), .val (.int (1 : Int32)), .unset, .unset] [] by first | (simp [entryFrame, mkF, argsToLocals, Value.category]; done) | rfl) ?_
  intro p e s m below meth c s₁ vm0 hx hby hml hown hnm hret hlk hZ X0 e0 hS hs0 hP0
  have N0 := Fr.nil n0
  show Run p e below s _ _ _ (s₁.setTop (mkF m 0 #[.val (.ref a), .val (.int (1 : Int32)), .unset, .unset] []))
  refine Run.pre (fun _ k => XS.aloadN X0.here hx rfl (hb hby d21_0) rfl rfl k) ?_
  show Run p e below s _ _ _ (s₁.setTop (mkF m 1 #[.val (.ref a), .val (.int (1 : Int32)), .unset, .unset] [(.ref a)]))
  obtain ⟨T161, X161, e161, st161⟩ := getF X0 hx hZ hown (host := "") (Or.inl (hw _ (List.mem_of_getElem? (i := 48) rfl))) Via.refl e0 FE (g := (mkF m 1 #[.val (.ref a), .val (.int (1 : Int32)), .unset, .unset] [(.ref a)])) rfl rfl (hb hby d21_1)
  refine Run.pre st161 ?_
  show Run p e below s _ _ _ (T161.setTop (mkF m 4 #[.val (.ref a), .val (.int (1 : Int32)), .unset, .unset] [(.ref dd)]))
  obtain ⟨c162, Ar162, -, S162, N162, -, -⟩ := id (AD.ext OL.2)
  refine Run.pre (X161.arraylength hx (by rw [e161]; exact Ar162.1) (State.isArrayOf_alike hZ.alike Ar162.2.1) (g := (mkF m 4 #[.val (.ref a), .val (.int (1 : Int32)), .unset, .unset] [(.ref dd)])) rfl rfl (hb hby d21_4)) ?_
  rw [len_of S162 N162]
  show Run p e below s _ _ _ (T161.setTop (mkF m 5 #[.val (.ref a), .val (.int (1 : Int32)), .unset, .unset] [(.int (0 : Int32))]))
  refine Run.pre (fun _ k => XS.istoreN X161.here hx rfl (hb hby d21_5) rfl (l' := #[.val (.ref a), .val (.int (1 : Int32)), .val (.int (0 : Int32)), .unset]) rfl k) ?_
  show Run p e below s _ _ _ (T161.setTop (mkF m 6 #[.val (.ref a), .val (.int (1 : Int32)), .val (.int (0 : Int32)), .unset] []))
  refine Run.pre (fun _ k => XS.iloadN X161.here hx rfl (hb hby d21_6) rfl  k) ?_
  show Run p e below s _ _ _ (T161.setTop (mkF m 7 #[.val (.ref a), .val (.int (1 : Int32)), .val (.int (0 : Int32)), .unset] [(.int (0 : Int32))]))
  refine Run.pre (fun _ k => XS.ifNo X161.here hx rfl (hb hby d21_7) rfl ((if0 _ _).trans (flt ((by decide) : ¬ ((0 : Int32) < (0 : Int32)))).2.2.1) k) ?_
  show Run p e below s _ _ _ (T161.setTop (mkF m 10 #[.val (.ref a), .val (.int (1 : Int32)), .val (.int (0 : Int32)), .unset] []))
  refine Run.pre (fun _ k => XS.aloadN X161.here hx rfl (hb hby d21_10) rfl rfl k) ?_
  show Run p e below s _ _ _ (T161.setTop (mkF m 11 #[.val (.ref a), .val (.int (1 : Int32)), .val (.int (0 : Int32)), .unset] [(.ref a)]))
  obtain ⟨T163, X163, e163, st163⟩ := getF X161 hx hZ hown (host := "") (Or.inl (hw _ (List.mem_of_getElem? (i := 48) rfl))) Via.refl e161 FE (g := (mkF m 11 #[.val (.ref a), .val (.int (1 : Int32)), .val (.int (0 : Int32)), .unset] [(.ref a)])) rfl rfl (hb hby d21_11)
  refine Run.pre st163 ?_
  show Run p e below s _ _ _ (T163.setTop (mkF m 14 #[.val (.ref a), .val (.int (1 : Int32)), .val (.int (0 : Int32)), .unset] [(.ref dd)]))
  obtain ⟨T164, X164, e164, st164⟩ := getS2 X163 hx hZ hown (host := "") (Or.inl (hw _ (List.mem_of_getElem? (i := 47) rfl))) Via.refl e163 (SD.ext OL.2) (g := (mkF m 14 #[.val (.ref a), .val (.int (1 : Int32)), .val (.int (0 : Int32)), .unset] [(.ref dd)])) rfl (hb hby d21_14)
  refine Run.pre st164 ?_
  show Run p e below s _ _ _ (T164.setTop (mkF m 17 #[.val (.ref a), .val (.int (1 : Int32)), .val (.int (0 : Int32)), .unset] [(.ref dd), (.ref dd)]))
  refine Run.pre (fun _ k => Jvm.RoadKit.acmp (g := (mkF m 17 #[.val (.ref a), .val (.int (1 : Int32)), .val (.int (0 : Int32)), .unset] [(.ref dd), (.ref dd)])) X164 hx rfl rfl rfl (pc0 := 17) (pc' := 45) (same := true) rfl (hb hby d21_17) rfl (decide_eq_true rfl) (by decide) (by decide) k) ?_
  show Run p e below s _ _ _ (T164.setTop (mkF m 45 #[.val (.ref a), .val (.int (1 : Int32)), .val (.int (0 : Int32)), .unset] []))
  refine Run.pre (fun _ k => XS.aloadN X164.here hx rfl (hb hby d21_45) rfl rfl k) ?_
  show Run p e below s _ _ _ (T164.setTop (mkF m 46 #[.val (.ref a), .val (.int (1 : Int32)), .val (.int (0 : Int32)), .unset] [(.ref a)]))
  refine Run.pre (fun _ k => XS.bipush X164.here hx rfl (hb hby d21_46) k) ?_
  show Run p e below s _ _ _ (T164.setTop (mkF m 48 #[.val (.ref a), .val (.int (1 : Int32)), .val (.int (0 : Int32)), .unset] [(.int (10 : Int32)), (.ref a)]))
  refine Run.pre (fun _ k => XS.iloadN X164.here hx rfl (hb hby d21_48) rfl  k) ?_
  show Run p e below s _ _ _ (T164.setTop (mkF m 49 #[.val (.ref a), .val (.int (1 : Int32)), .val (.int (0 : Int32)), .unset] [(.int (1 : Int32)), (.int (10 : Int32)), (.ref a)]))
  refine Run.callS hS (by first | exact Nat.le_refl _ | (rw [e164]; exact (Nat.zero_le _))) X164 hx hZ (y := (⟨"java/lang/Math", "max", "(II)I"⟩ : MethodName)) hown (hw _ (List.mem_of_getElem? (i := 138) rfl)) (hw _ (List.mem_of_getElem? (i := 139) rfl)) (hw _ (List.mem_of_getElem? (i := 140) rfl)) (hw _ (List.mem_of_getElem? (i := 141) rfl)) (by decide) (W := 1) (rmMax l Z a0 hw h0 n0 (Nat.le_trans Z0 (Keep.refl h0 [a]).1)) e164 (by decide) (by decide) (by decide) (by decide) (fun _ _ => trivial) (g := (mkF m 49 #[.val (.ref a), .val (.int (1 : Int32)), .val (.int (0 : Int32)), .unset] [(.int (1 : Int32)), (.int (10 : Int32)), (.ref a)])) rfl (by rw [hml]; rfl) (argsL := [(.int (10 : Int32)), (.int (1 : Int32))]) (rest := [(.ref a)]) (lenOf pd_6 rfl) rfl (by show 2 * 0 + _ ≤ _; exact Nat.le_of_eq rfl) (hb hby d21_49) ?_
  intro v165 T165 L165 X165 hS hZ hown hV165 hQ165
  obtain ⟨rfl, Nq165, he165⟩ := hQ165
  have N165 := Fr.app N0 Nq165
  have e165 : T165.heap = h0 := he165
  show Run p e below s _ _ _ (T165.setTop (mkF m 52 #[.val (.ref a), .val (.int (1 : Int32)), .val (.int (0 : Int32)), .unset] [(.int (10 : Int32)), (.ref a)]))
  obtain ⟨T166, h166, k166, X166, e166, E166, A166, O166, st166⟩ := newR X165 hx hZ hown (hw _ (List.mem_of_getElem? (i := 142) rfl)) (hw _ (List.mem_of_getElem? (i := 143) rfl)) e165 (g := (mkF m 52 #[.val (.ref a), .val (.int (1 : Int32)), .val (.int (0 : Int32)), .unset] [(.int (10 : Int32)), (.ref a)])) rfl (hb hby d21_52) rfl (by decide) (cap := 10) (by decide) (by decide) (by decide) (by decide)
  obtain ⟨b166, g166⟩ : ∃ z, z = h0.size := ⟨_, rfl⟩
  rw [← g166] at A166 st166
  refine Run.pre st166 ?_
  have V_b166 : Arv Z h166 b166 k166 (.object "java/lang/Object") (10 : Int32) [.null, .null, .null, .null, .null, .null, .null, .null, .null, .null] .null := (Arv.new A166 (by decide)).pad (pad_rep [] .null 10)
  have gn_b166 : n0 ≤ b166 := Nat.le_trans (Nat.le_trans Z0 (Keep.refl h0 [a]).1) (Nat.le_of_eq g166.symm)
  have sz_b166 : h0.size ≤ b166 := Nat.le_trans (Keep.refl h0 [a]).1 (Nat.le_of_eq g166.symm)
  have K166 : Keep h0 h166 [a] := (Keep.refl h0 [a]).ext E166
  show Run p e below s _ _ _ (T166.setTop (mkF m 55 #[.val (.ref a), .val (.int (1 : Int32)), .val (.int (0 : Int32)), .unset] [(.ref b166), (.ref a)]))
  refine Run.pre (fun _ k => XS.dupX1 X166.here hx rfl (hb hby d21_55) rfl rfl rfl k) ?_
  show Run p e below s _ _ _ (T166.setTop (mkF m 56 #[.val (.ref a), .val (.int (1 : Int32)), .val (.int (0 : Int32)), .unset] [(.ref b166), (.ref a), (.ref b166)]))
  have f167 := (E_a.ext E166)
  have f168 := (FE.ext E166)
  obtain ⟨T169, h169, X169, e169, W169, st169⟩ := putF X166 hx hZ hown (host := "") (Or.inl (hw _ (List.mem_of_getElem? (i := 48) rfl))) Via.refl e166 f168 f167 (Or.inl (hw _ (List.mem_of_getElem? (i := 49) rfl))) (hw _ (List.mem_of_getElem? (i := 27) rfl)) (ty := (.array (.object "java/lang/Object"))) (by decide) rfl rfl (g := (mkF m 56 #[.val (.ref a), .val (.int (1 : Int32)), .val (.int (0 : Int32)), .unset] [(.ref b166), (.ref a), (.ref b166)])) rfl rfl (hb hby d21_56)
  refine Run.pre st169 ?_
  have Fw169 := f168.same W169
  have K169 : Keep h0 h169 [a] := K166.wr W169 (Or.inl (by simp))
  have N169 := Fr.snoc X169 N165 g_a
  show Run p e below s _ _ _ (T169.setTop (mkF m 59 #[.val (.ref a), .val (.int (1 : Int32)), .val (.int (0 : Int32)), .unset] [(.ref b166)]))
  have f170 := (V_b166.other W169 (Ne.symm (Nat.ne_of_lt (Nat.lt_of_lt_of_le E_a.lt (Nat.le_of_eq g166.symm)))))
  have f171 := ((FM.ext E166).other W169 (Or.inr (slot_ne (Or.inl (hw _ (List.mem_of_getElem? (i := 46) rfl))) (Or.inl (hw _ (List.mem_of_getElem? (i := 49) rfl))) (by decide) (t := .int) (t' := (.array (.object "java/lang/Object"))) (by decide) (by decide))))
  have f172 := ((FS.ext E166).other W169 (Or.inr (slot_ne (Or.inl (hw _ (List.mem_of_getElem? (i := 115) rfl))) (Or.inl (hw _ (List.mem_of_getElem? (i := 49) rfl))) (by decide) (t := .int) (t' := (.array (.object "java/lang/Object"))) (by decide) (by decide))))
  exact Run.retA hS (by first | exact Nat.le_refl _ | (rw [e169]; exact (Nat.le_trans (Nat.le_trans (Nat.le_of_eq (congrArg Array.size e165)) E166.1) (Keep.of_wr W169).1))) X169 hx hret rfl rfl hlk (hb hby d21_59) (by first | (rw [e169]; exact ⟨b166, k166, rfl, N169, K169, sz_b166, f170, O166, f171, Fw169, f172⟩) | exact ⟨b166, k166, rfl, N169, K169, sz_b166, f170, O166, f171, Fw169, f172⟩) (by decide) (by decide)
theorem d20_0 : decode jdk_38_method_7_code 0 = .ok (.aload_n 0, 1) := by decide +kernel
theorem d20_1 : decode jdk_38_method_7_code 1 = .ok (.aload_n 0, 1) := by decide +kernel
theorem d20_2 : decode jdk_38_method_7_code 2 = .ok (.getfield 48, 3) := by decide +kernel
theorem d20_5 : decode jdk_38_method_7_code 5 = .ok (.iconst 1, 1) := by decide +kernel
theorem d20_6 : decode jdk_38_method_7_code 6 = .ok (.iadd, 1) := by decide +kernel
theorem pd_7 : parseMethodDescriptor "(I)[Ljava/lang/Object;" = some ⟨[.int], some (.array (.object "java/lang/Object"))⟩ := by decide +kernel
theorem d20_7 : decode jdk_38_method_7_code 7 = .ok (.invokevirtual 69, 3) := by decide +kernel
theorem d20_10 : decode jdk_38_method_7_code 10 = .ok (.areturn, 1) := by decide +kernel
theorem pn_20 : plainName "java/util/ArrayList" = true := by first | (simp [plainName, overriddenIn]; done) | decide +kernel
set_option maxRecDepth 65536 in
set_option maxHeartbeats 40000000 in
theorem rmG0 (l : Launch) (Z : State) (a0 : Array Value) (hw : ∀ d ∈ tables_1, d.before a0 Z = true) (a : Addr) (dd : Addr) (kd : ClassId) (h0 : Heap) (n0 : Nat) (Z0 : n0 ≤ h0.size) (OL : Old Z n0 h0) (SD : Sta Z Z.heap "java/util/ArrayList" "DEFAULTCAPACITY_EMPTY_ELEMENTDATA" "[Ljava/lang/Object;" (.ref dd)) (AD : Arv Z Z.heap dd kd (.object "java/lang/Object") 0 [] .null) (E_a : Exa Z h0 a "java/util/ArrayList") (FM : Fld Z h0 a "java/util/AbstractList" "modCount" "I" (.int 1)) (FE : Fld Z h0 a "java/util/ArrayList" "elementData" "[Ljava/lang/Object;" (.ref dd)) (FS : Fld Z h0 a "java/util/ArrayList" "size" "I" (.int 0)) (g_a : n0 ≤ a) :
    Con l (⟨"java/util/ArrayList", "grow", "()[Ljava/lang/Object;"⟩ : MethodName) jdk_38_method_7_code 1 (some (.array (.object "java/lang/Object"))) ({ frames := 2, cells := 1, slots := 10, locals := 29 } : Room) Z #[(.ref a)] h0 (fun _ => True) (fun v h L vm => ∃ b : Addr, ∃ k : ClassId, v = some (.ref b) ∧ Fr n0 L ∧ Keep h0 h [a] ∧ h0.size ≤ b ∧ Arv Z h b k (.object "java/lang/Object") 10 [.null, .null, .null, .null, .null, .null, .null, .null, .null, .null] .null ∧ Ovr Z k "java/lang/Object" ∧ Fld Z h a "java/util/AbstractList" "modCount" "I" (.int 1) ∧ Fld Z h a "java/util/ArrayList" "elementData" "[Ljava/lang/Object;" (.ref b) ∧ Fld Z h a "java/util/ArrayList" "size" "I" (.int 0)) := by
  refine Con.mk (plainFor_of_name pn_20) (fun m => show entryFrame m #[(.ref a)] 1 = mkF m 0 #[.val (.ref a)] [] by first | (simp [entryFrame, mkF, argsToLocals, Value.category]; done) | rfl) ?_
  intro p e s m below meth c s₁ vm0 hx hby hml hown hnm hret hlk hZ X0 e0 hS hs0 hP0
  have N0 := Fr.nil n0
  show Run p e below s _ _ _ (s₁.setTop (mkF m 0 #[.val (.ref a)] []))
  refine Run.pre (fun _ k => XS.aloadN X0.here hx rfl (hb hby d20_0) rfl rfl k) ?_
  show Run p e below s _ _ _ (s₁.setTop (mkF m 1 #[.val (.ref a)] [(.ref a)]))
  refine Run.pre (fun _ k => XS.aloadN X0.here hx rfl (hb hby d20_1) rfl rfl k) ?_
  show Run p e below s _ _ _ (s₁.setTop (mkF m 2 #[.val (.ref a)] [(.ref a), (.ref a)]))
  obtain ⟨T173, X173, e173, st173⟩ := getF X0 hx hZ hown (host := "") (Or.inl (hw _ (List.mem_of_getElem? (i := 114) rfl))) Via.refl e0 FS (g := (mkF m 2 #[.val (.ref a)] [(.ref a), (.ref a)])) rfl rfl (hb hby d20_2)
  refine Run.pre st173 ?_
  show Run p e below s _ _ _ (T173.setTop (mkF m 5 #[.val (.ref a)] [(.int (0 : Int32)), (.ref a)]))
  refine Run.pre (fun _ k => XS.iconst X173.here hx rfl (hb hby d20_5) k) ?_
  show Run p e below s _ _ _ (T173.setTop (mkF m 6 #[.val (.ref a)] [(.int (1 : Int32)), (.int (0 : Int32)), (.ref a)]))
  refine Run.pre (fun _ k => XS.iadd X173.here hx rfl (hb hby d20_6) rfl k) ?_
  show Run p e below s _ _ _ (T173.setTop (mkF m 7 #[.val (.ref a)] [(.int (1 : Int32)), (.ref a)]))
  refine Run.callP hS (by first | exact Nat.le_refl _ | (rw [e173]; exact (Nat.zero_le _))) X173 hx hZ (y := (⟨"java/util/ArrayList", "grow", "(I)[Ljava/lang/Object;"⟩ : MethodName)) hown (hw _ (List.mem_of_getElem? (i := 133) rfl)) (hw _ (List.mem_of_getElem? (i := 134) rfl)) (hw _ (List.mem_of_getElem? (i := 136) rfl)) (hw _ (List.mem_of_getElem? (i := 135) rfl)) (hw _ (List.mem_of_getElem? (i := 137) rfl)) (hw _ (List.mem_of_getElem? (i := 28) rfl)) (by decide) (a := a) E_a (W := 0) (rmG1 l Z a0 hw a dd kd h0 n0 (Nat.le_trans Z0 (Keep.refl h0 [a]).1) OL SD AD E_a FM FE FS g_a) e173 (by decide) (by decide) (by decide) (by decide) (fun _ _ => trivial) (g := (mkF m 7 #[.val (.ref a)] [(.int (1 : Int32)), (.ref a)])) rfl (by rw [hml]; rfl) (argsL := [(.int (1 : Int32))]) (rest := []) (lenOf pd_7 rfl) rfl (by show 2 * 0 + _ ≤ _; exact Nat.le_of_eq rfl) (hb hby d20_7) ?_
  intro v174 T174 L174 X174 hS hZ hown hV174 hQ174
  obtain ⟨b174, k174, rfl, Nq174, Kc174, sz174, vb174, ov174, fm174, fe174, fs174⟩ := hQ174
  have N174 := Fr.app N0 Nq174
  have K174 : Keep h0 T174.heap [a] := (Keep.refl h0 [a]).trans Kc174 (allS (Or.inl (by simp)) all0)
  have sz_b174 : h0.size ≤ b174 := Nat.le_trans (Keep.refl h0 [a]).1 sz174
  have gn_b174 : n0 ≤ b174 := Nat.le_trans Z0 sz_b174
  show Run p e below s _ _ _ (T174.setTop (mkF m 10 #[.val (.ref a)] [(.ref b174)]))
  exact Run.retA hS (Nat.le_refl _) X174 hx hret rfl rfl hlk (hb hby d20_10) ⟨b174, k174, rfl, N174, K174, sz_b174, vb174, ov174, fm174, fe174, fs174⟩ (by decide) (by decide)
theorem d19_0 : decode jdk_38_method_24_code 0 = .ok (.iload_n 3, 1) := by decide +kernel
theorem d19_1 : decode jdk_38_method_24_code 1 = .ok (.aload_n 2, 1) := by decide +kernel
theorem d19_2 : decode jdk_38_method_24_code 2 = .ok (.arraylength, 1) := by decide +kernel
theorem d19_3 : decode jdk_38_method_24_code 3 = .ok (.if_icmp .ne 8, 3) := by decide +kernel
theorem d19_6 : decode jdk_38_method_24_code 6 = .ok (.aload_n 0, 1) := by decide +kernel
theorem pd_8 : parseMethodDescriptor "()[Ljava/lang/Object;" = some ⟨[], some (.array (.object "java/lang/Object"))⟩ := by decide +kernel
theorem d19_7 : decode jdk_38_method_24_code 7 = .ok (.invokevirtual 129, 3) := by decide +kernel
theorem d19_10 : decode jdk_38_method_24_code 10 = .ok (.astore_n 2, 1) := by decide +kernel
theorem d19_11 : decode jdk_38_method_24_code 11 = .ok (.aload_n 2, 1) := by decide +kernel
theorem d19_12 : decode jdk_38_method_24_code 12 = .ok (.iload_n 3, 1) := by decide +kernel
theorem d19_13 : decode jdk_38_method_24_code 13 = .ok (.aload_n 1, 1) := by decide +kernel
theorem d19_14 : decode jdk_38_method_24_code 14 = .ok (.aastore, 1) := by decide +kernel
theorem d19_15 : decode jdk_38_method_24_code 15 = .ok (.aload_n 0, 1) := by decide +kernel
theorem d19_16 : decode jdk_38_method_24_code 16 = .ok (.iload_n 3, 1) := by decide +kernel
theorem d19_17 : decode jdk_38_method_24_code 17 = .ok (.iconst 1, 1) := by decide +kernel
theorem d19_18 : decode jdk_38_method_24_code 18 = .ok (.iadd, 1) := by decide +kernel
theorem d19_19 : decode jdk_38_method_24_code 19 = .ok (.putfield 48, 3) := by decide +kernel
theorem d19_22 : decode jdk_38_method_24_code 22 = .ok (.return_, 1) := by decide +kernel
theorem pn_19 : plainName "java/util/ArrayList" = true := by first | (simp [plainName, overriddenIn]; done) | decide +kernel
set_option maxRecDepth 65536 in
set_option maxHeartbeats 40000000 in
theorem rmA3_0 (l : Launch) (Z : State) (a0 : Array Value) (hw : ∀ d ∈ tables_1, d.before a0 Z = true) (a : Addr) (dd : Addr) (kd : ClassId) (o0 : Addr) (h0 : Heap) (n0 : Nat) (Z0 : n0 ≤ h0.size) (OL : Old Z n0 h0) (SD : Sta Z Z.heap "java/util/ArrayList" "DEFAULTCAPACITY_EMPTY_ELEMENTDATA" "[Ljava/lang/Object;" (.ref dd)) (AD : Arv Z Z.heap dd kd (.object "java/lang/Object") 0 [] .null) (E_a : Exa Z h0 a "java/util/ArrayList") (FM : Fld Z h0 a "java/util/AbstractList" "modCount" "I" (.int 1)) (FE : Fld Z h0 a "java/util/ArrayList" "elementData" "[Ljava/lang/Object;" (.ref dd)) (FS : Fld Z h0 a "java/util/ArrayList" "size" "I" (.int 0)) (g_a : n0 ≤ a) (E_o : Exa Z h0 o0 "java/lang/String") :
    Con l (⟨"java/util/ArrayList", "add", "(Ljava/lang/Object;[Ljava/lang/Object;I)V"⟩ : MethodName) jdk_38_method_24_code 4 none ({ frames := 3, cells := 1, slots := 10, locals := 41 } : Room) Z #[(.ref a), (.ref o0), (.ref dd), (.int (0 : Int32))] h0 (fun _ => True) (fun v h L vm => ∃ b : Addr, ∃ k : ClassId, v = none ∧ Fr n0 L ∧ Keep h0 h [a] ∧ h0.size ≤ b ∧ Arv Z h b k (.object "java/lang/Object") 10 [(.ref o0), .null, .null, .null, .null, .null, .null, .null, .null, .null] .null ∧ Ovr Z k "java/lang/Object" ∧ Fld Z h a "java/util/AbstractList" "modCount" "I" (.int 1) ∧ Fld Z h a "java/util/ArrayList" "elementData" "[Ljava/lang/Object;" (.ref b) ∧ Fld Z h a "java/util/ArrayList" "size" "I" (.int 1)) := by
  refine Con.mk (plainFor_of_name pn_19) (fun m => show entryFrame m #[(.ref a), (.ref o0), (.ref dd), (.int (0 : Int32))] 4 = mkF m 0 #[.val (.ref a), .val (.ref o0), .val (.ref dd), .val (.int (0 : Int32))] [] by first | (simp [entryFrame, mkF, argsToLocals, Value.category]; done) | rfl) ?_
  intro p e s m below meth c s₁ vm0 hx hby hml hown hnm hret hlk hZ X0 e0 hS hs0 hP0
  have N0 := Fr.nil n0
  show Run p e below s _ _ _ (s₁.setTop (mkF m 0 #[.val (.ref a), .val (.ref o0), .val (.ref dd), .val (.int (0 : Int32))] []))
  refine Run.pre (fun _ k => XS.iloadN X0.here hx rfl (hb hby d19_0) rfl  k) ?_
  show Run p e below s _ _ _ (s₁.setTop (mkF m 1 #[.val (.ref a), .val (.ref o0), .val (.ref dd), .val (.int (0 : Int32))] [(.int (0 : Int32))]))
  refine Run.pre (fun _ k => XS.aloadN X0.here hx rfl (hb hby d19_1) rfl rfl k) ?_
  show Run p e below s _ _ _ (s₁.setTop (mkF m 2 #[.val (.ref a), .val (.ref o0), .val (.ref dd), .val (.int (0 : Int32))] [(.ref dd), (.int (0 : Int32))]))
  obtain ⟨c175, Ar175, -, S175, N175, -, -⟩ := id (AD.ext OL.2)
  refine Run.pre (X0.arraylength hx (by rw [e0]; exact Ar175.1) (State.isArrayOf_alike hZ.alike Ar175.2.1) (g := (mkF m 2 #[.val (.ref a), .val (.ref o0), .val (.ref dd), .val (.int (0 : Int32))] [(.ref dd), (.int (0 : Int32))])) rfl rfl (hb hby d19_2)) ?_
  rw [len_of S175 N175]
  show Run p e below s _ _ _ (s₁.setTop (mkF m 3 #[.val (.ref a), .val (.ref o0), .val (.ref dd), .val (.int (0 : Int32))] [(.int (0 : Int32)), (.int (0 : Int32))]))
  refine Run.pre (fun _ k => XS.icmpNo X0.here hx rfl (hb hby d19_3) rfl (teq ((by decide) : (0 : Int32) = (0 : Int32))).2 k) ?_
  show Run p e below s _ _ _ (s₁.setTop (mkF m 6 #[.val (.ref a), .val (.ref o0), .val (.ref dd), .val (.int (0 : Int32))] []))
  refine Run.pre (fun _ k => XS.aloadN X0.here hx rfl (hb hby d19_6) rfl rfl k) ?_
  show Run p e below s _ _ _ (s₁.setTop (mkF m 7 #[.val (.ref a), .val (.ref o0), .val (.ref dd), .val (.int (0 : Int32))] [(.ref a)]))
  refine Run.callP hS (by first | exact Nat.le_refl _ | (rw [e0]; exact (Nat.zero_le _))) X0 hx hZ (y := (⟨"java/util/ArrayList", "grow", "()[Ljava/lang/Object;"⟩ : MethodName)) hown (hw _ (List.mem_of_getElem? (i := 128) rfl)) (hw _ (List.mem_of_getElem? (i := 129) rfl)) (hw _ (List.mem_of_getElem? (i := 131) rfl)) (hw _ (List.mem_of_getElem? (i := 130) rfl)) (hw _ (List.mem_of_getElem? (i := 132) rfl)) (hw _ (List.mem_of_getElem? (i := 28) rfl)) (by decide) (a := a) E_a (W := 0) (rmG0 l Z a0 hw a dd kd h0 n0 (Nat.le_trans Z0 (Keep.refl h0 [a]).1) OL SD AD E_a FM FE FS g_a) e0 (by decide) (by decide) (by decide) (by decide) (fun _ _ => trivial) (g := (mkF m 7 #[.val (.ref a), .val (.ref o0), .val (.ref dd), .val (.int (0 : Int32))] [(.ref a)])) rfl (by rw [hml]; rfl) (argsL := []) (rest := []) (lenOf pd_8 rfl) rfl (by show 2 * 0 + _ ≤ _; exact Nat.le_of_eq rfl) (hb hby d19_7) ?_
  intro v176 T176 L176 X176 hS hZ hown hV176 hQ176
  obtain ⟨b176, k176, rfl, Nq176, Kc176, sz176, vb176, ov176, fm176, fe176, fs176⟩ := hQ176
  have N176 := Fr.app N0 Nq176
  have K176 : Keep h0 T176.heap [a] := (Keep.refl h0 [a]).trans Kc176 (allS (Or.inl (by simp)) all0)
  have sz_b176 : h0.size ≤ b176 := Nat.le_trans (Keep.refl h0 [a]).1 sz176
  have gn_b176 : n0 ≤ b176 := Nat.le_trans Z0 sz_b176
  show Run p e below s _ _ _ (T176.setTop (mkF m 10 #[.val (.ref a), .val (.ref o0), .val (.ref dd), .val (.int (0 : Int32))] [(.ref b176)]))
  refine Run.pre (fun _ k => XS.astoreN X176.here hx rfl (hb hby d19_10) rfl rfl (l' := #[.val (.ref a), .val (.ref o0), .val (.ref b176), .val (.int (0 : Int32))]) rfl k) ?_
  show Run p e below s _ _ _ (T176.setTop (mkF m 11 #[.val (.ref a), .val (.ref o0), .val (.ref b176), .val (.int (0 : Int32))] []))
  refine Run.pre (fun _ k => XS.aloadN X176.here hx rfl (hb hby d19_11) rfl rfl k) ?_
  show Run p e below s _ _ _ (T176.setTop (mkF m 12 #[.val (.ref a), .val (.ref o0), .val (.ref b176), .val (.int (0 : Int32))] [(.ref b176)]))
  refine Run.pre (fun _ k => XS.iloadN X176.here hx rfl (hb hby d19_12) rfl  k) ?_
  show Run p e below s _ _ _ (T176.setTop (mkF m 13 #[.val (.ref a), .val (.ref o0), .val (.ref b176), .val (.int (0 : Int32))] [(.int (0 : Int32)), (.ref b176)]))
  refine Run.pre (fun _ k => XS.aloadN X176.here hx rfl (hb hby d19_13) rfl rfl k) ?_
  show Run p e below s _ _ _ (T176.setTop (mkF m 14 #[.val (.ref a), .val (.ref o0), .val (.ref b176), .val (.int (0 : Int32))] [(.ref o0), (.int (0 : Int32)), (.ref b176)]))
  obtain ⟨c177, Ar177, q177, S177, N177, H177, G177⟩ := id vb176
  have hin177 : ¬ ((0 : Int32) < 0 ∨ c177.slots.size ≤ ((0 : Int32)).toNatClampNeg) := inb_of S177 ⟨by decide, by decide⟩
  have f178 := (E_o.keep Kc176)
  obtain ⟨T179, h179, X179, e179, W179, st179⟩ := stR X176 hx hZ rfl Ar177 (j := (0 : Int32)) hin177 rfl (Sto.ofV Ar177 q177 ov176 (Ins.of_exa f178 (hw _ (List.mem_of_getElem? (i := 144) rfl)))) (g := (mkF m 14 #[.val (.ref a), .val (.ref o0), .val (.ref b176), .val (.int (0 : Int32))] [(.ref o0), (.int (0 : Int32)), (.ref b176)])) rfl rfl (hb hby d19_14)
  refine Run.pre st179 ?_
  have V_b176_179 : Arv Z h179 b176 k176 (.object "java/lang/Object") (10 : Int32) [(.ref o0), .null, .null, .null, .null, .null, .null, .null, .null, .null] .null := Arv.set Ar177 q177 S177 N177 H177 G177 rfl W179 0 rfl (Nat.le_of_ble_eq_true rfl)
  have K179 : Keep h0 h179 [a] := K176.wr W179 (Or.inr sz_b176)
  have N179 := Fr.snoc X179 N176 gn_b176
  show Run p e below s _ _ _ (T179.setTop (mkF m 15 #[.val (.ref a), .val (.ref o0), .val (.ref b176), .val (.int (0 : Int32))] []))
  refine Run.pre (fun _ k => XS.aloadN X179.here hx rfl (hb hby d19_15) rfl rfl k) ?_
  show Run p e below s _ _ _ (T179.setTop (mkF m 16 #[.val (.ref a), .val (.ref o0), .val (.ref b176), .val (.int (0 : Int32))] [(.ref a)]))
  refine Run.pre (fun _ k => XS.iloadN X179.here hx rfl (hb hby d19_16) rfl  k) ?_
  show Run p e below s _ _ _ (T179.setTop (mkF m 17 #[.val (.ref a), .val (.ref o0), .val (.ref b176), .val (.int (0 : Int32))] [(.int (0 : Int32)), (.ref a)]))
  refine Run.pre (fun _ k => XS.iconst X179.here hx rfl (hb hby d19_17) k) ?_
  show Run p e below s _ _ _ (T179.setTop (mkF m 18 #[.val (.ref a), .val (.ref o0), .val (.ref b176), .val (.int (0 : Int32))] [(.int (1 : Int32)), (.int (0 : Int32)), (.ref a)]))
  refine Run.pre (fun _ k => XS.iadd X179.here hx rfl (hb hby d19_18) rfl k) ?_
  show Run p e below s _ _ _ (T179.setTop (mkF m 19 #[.val (.ref a), .val (.ref o0), .val (.ref b176), .val (.int (0 : Int32))] [(.int (1 : Int32)), (.ref a)]))
  have f180 := ((E_a.keep Kc176).wr W179)
  have f181 := (fs176.other W179 (Or.inl (Nat.ne_of_lt (Nat.lt_of_lt_of_le E_a.lt sz176))))
  obtain ⟨T182, h182, X182, e182, W182, st182⟩ := putF X179 hx hZ hown (host := "") (Or.inl (hw _ (List.mem_of_getElem? (i := 114) rfl))) Via.refl e179 f181 f180 (Or.inl (hw _ (List.mem_of_getElem? (i := 115) rfl))) (hw _ (List.mem_of_getElem? (i := 27) rfl)) (ty := .int) (by decide) rfl rfl (g := (mkF m 19 #[.val (.ref a), .val (.ref o0), .val (.ref b176), .val (.int (0 : Int32))] [(.int (1 : Int32)), (.ref a)])) rfl rfl (hb hby d19_19)
  refine Run.pre st182 ?_
  have Fw182 := f181.same W182
  have K182 : Keep h0 h182 [a] := K179.wr W182 (Or.inl (by simp))
  have N182 := Fr.snoc X182 N179 g_a
  show Run p e below s _ _ _ (T182.setTop (mkF m 22 #[.val (.ref a), .val (.ref o0), .val (.ref b176), .val (.int (0 : Int32))] []))
  have f183 := (V_b176_179.other W182 (Ne.symm (Nat.ne_of_lt (Nat.lt_of_lt_of_le E_a.lt sz176))))
  have f184 := ((fm176.other W179 (Or.inl (Nat.ne_of_lt (Nat.lt_of_lt_of_le E_a.lt sz176)))).other W182 (Or.inr (slot_ne (Or.inl (hw _ (List.mem_of_getElem? (i := 46) rfl))) (Or.inl (hw _ (List.mem_of_getElem? (i := 115) rfl))) (by decide) (t := .int) (t' := .int) (by decide) (by decide))))
  have f185 := ((fe176.other W179 (Or.inl (Nat.ne_of_lt (Nat.lt_of_lt_of_le E_a.lt sz176)))).other W182 (Or.inr (slot_ne (Or.inl (hw _ (List.mem_of_getElem? (i := 49) rfl))) (Or.inl (hw _ (List.mem_of_getElem? (i := 115) rfl))) (by decide) (t := (.array (.object "java/lang/Object"))) (t' := .int) (by decide) (by decide))))
  exact Run.retV hS (by first | exact Nat.le_refl _ | (rw [e182]; exact (Nat.le_trans (Nat.le_trans (Nat.le_refl _) (Keep.of_wr W179).1) (Keep.of_wr W182).1))) X182 hx hret hlk (hb hby d19_22) (by first | (rw [e182]; exact ⟨b176, k176, rfl, N182, K182, sz_b176, f183, ov176, f184, f185, Fw182⟩) | exact ⟨b176, k176, rfl, N182, K182, sz_b176, f183, ov176, f184, f185, Fw182⟩) (by decide) (by decide)
theorem d18_0 : decode jdk_38_method_25_code 0 = .ok (.aload_n 0, 1) := by decide +kernel
theorem d18_1 : decode jdk_38_method_25_code 1 = .ok (.dup, 1) := by decide +kernel
theorem d18_2 : decode jdk_38_method_25_code 2 = .ok (.getfield 63, 3) := by decide +kernel
theorem d18_5 : decode jdk_38_method_25_code 5 = .ok (.iconst 1, 1) := by decide +kernel
theorem d18_6 : decode jdk_38_method_25_code 6 = .ok (.iadd, 1) := by decide +kernel
theorem d18_7 : decode jdk_38_method_25_code 7 = .ok (.putfield 63, 3) := by decide +kernel
theorem d18_10 : decode jdk_38_method_25_code 10 = .ok (.aload_n 0, 1) := by decide +kernel
theorem d18_11 : decode jdk_38_method_25_code 11 = .ok (.aload_n 1, 1) := by decide +kernel
theorem d18_12 : decode jdk_38_method_25_code 12 = .ok (.aload_n 0, 1) := by decide +kernel
theorem d18_13 : decode jdk_38_method_25_code 13 = .ok (.getfield 9, 3) := by decide +kernel
theorem d18_16 : decode jdk_38_method_25_code 16 = .ok (.aload_n 0, 1) := by decide +kernel
theorem d18_17 : decode jdk_38_method_25_code 17 = .ok (.getfield 48, 3) := by decide +kernel
theorem pd_9 : parseMethodDescriptor "(Ljava/lang/Object;[Ljava/lang/Object;I)V" = some ⟨[(.object "java/lang/Object"), (.array (.object "java/lang/Object")), .int], none⟩ := by decide +kernel
theorem d18_20 : decode jdk_38_method_25_code 20 = .ok (.invokevirtual 131, 3) := by decide +kernel
theorem d18_23 : decode jdk_38_method_25_code 23 = .ok (.iconst 1, 1) := by decide +kernel
theorem d18_24 : decode jdk_38_method_25_code 24 = .ok (.ireturn, 1) := by decide +kernel
theorem pn_18 : plainName "java/util/ArrayList" = true := by first | (simp [plainName, overriddenIn]; done) | decide +kernel
set_option maxRecDepth 65536 in
set_option maxHeartbeats 40000000 in
theorem rmA1_0 (l : Launch) (Z : State) (a0 : Array Value) (hw : ∀ d ∈ tables_1, d.before a0 Z = true) (a : Addr) (dd : Addr) (kd : ClassId) (o0 : Addr) (h0 : Heap) (n0 : Nat) (Z0 : n0 ≤ h0.size) (OL : Old Z n0 h0) (SD : Sta Z Z.heap "java/util/ArrayList" "DEFAULTCAPACITY_EMPTY_ELEMENTDATA" "[Ljava/lang/Object;" (.ref dd)) (AD : Arv Z Z.heap dd kd (.object "java/lang/Object") 0 [] .null) (E_a : Exa Z h0 a "java/util/ArrayList") (FM : Fld Z h0 a "java/util/AbstractList" "modCount" "I" (.int 0)) (FE : Fld Z h0 a "java/util/ArrayList" "elementData" "[Ljava/lang/Object;" (.ref dd)) (FS : Fld Z h0 a "java/util/ArrayList" "size" "I" (.int 0)) (g_a : n0 ≤ a) (E_o : Exa Z h0 o0 "java/lang/String") :
    Con l (⟨"java/util/ArrayList", "add", "(Ljava/lang/Object;)Z"⟩ : MethodName) jdk_38_method_25_code 2 (some .boolean) ({ frames := 4, cells := 1, slots := 10, locals := 56 } : Room) Z #[(.ref a), (.ref o0)] h0 (fun _ => True) (fun v h L vm => ∃ b : Addr, ∃ k : ClassId, v = some (.int 1) ∧ Fr n0 L ∧ Keep h0 h [a] ∧ h0.size ≤ b ∧ Arv Z h b k (.object "java/lang/Object") 10 [(.ref o0), .null, .null, .null, .null, .null, .null, .null, .null, .null] .null ∧ Ovr Z k "java/lang/Object" ∧ Fld Z h a "java/util/AbstractList" "modCount" "I" (.int 1) ∧ Fld Z h a "java/util/ArrayList" "elementData" "[Ljava/lang/Object;" (.ref b) ∧ Fld Z h a "java/util/ArrayList" "size" "I" (.int 1)) := by
  refine Con.mk (plainFor_of_name pn_18) (fun m => show entryFrame m #[(.ref a), (.ref o0)] 2 = mkF m 0 #[.val (.ref a), .val (.ref o0)] [] by first | (simp [entryFrame, mkF, argsToLocals, Value.category]; done) | rfl) ?_
  intro p e s m below meth c s₁ vm0 hx hby hml hown hnm hret hlk hZ X0 e0 hS hs0 hP0
  have N0 := Fr.nil n0
  show Run p e below s _ _ _ (s₁.setTop (mkF m 0 #[.val (.ref a), .val (.ref o0)] []))
  refine Run.pre (fun _ k => XS.aloadN X0.here hx rfl (hb hby d18_0) rfl rfl k) ?_
  show Run p e below s _ _ _ (s₁.setTop (mkF m 1 #[.val (.ref a), .val (.ref o0)] [(.ref a)]))
  refine Run.pre (fun _ k => XS.dup X0.here hx rfl (hb hby d18_1) rfl rfl k) ?_
  show Run p e below s _ _ _ (s₁.setTop (mkF m 2 #[.val (.ref a), .val (.ref o0)] [(.ref a), (.ref a)]))
  obtain ⟨T186, X186, e186, st186⟩ := getF X0 hx hZ hown (host := "") (Or.inl (hw _ (List.mem_of_getElem? (i := 121) rfl))) (Via.of (hw _ (List.mem_of_getElem? (i := 122) rfl))) e0 FM (g := (mkF m 2 #[.val (.ref a), .val (.ref o0)] [(.ref a), (.ref a)])) rfl rfl (hb hby d18_2)
  refine Run.pre st186 ?_
  show Run p e below s _ _ _ (T186.setTop (mkF m 5 #[.val (.ref a), .val (.ref o0)] [(.int (0 : Int32)), (.ref a)]))
  refine Run.pre (fun _ k => XS.iconst X186.here hx rfl (hb hby d18_5) k) ?_
  show Run p e below s _ _ _ (T186.setTop (mkF m 6 #[.val (.ref a), .val (.ref o0)] [(.int (1 : Int32)), (.int (0 : Int32)), (.ref a)]))
  refine Run.pre (fun _ k => XS.iadd X186.here hx rfl (hb hby d18_6) rfl k) ?_
  show Run p e below s _ _ _ (T186.setTop (mkF m 7 #[.val (.ref a), .val (.ref o0)] [(.int (1 : Int32)), (.ref a)]))
  obtain ⟨T187, h187, X187, e187, W187, st187⟩ := putF X186 hx hZ hown (host := "") (Or.inl (hw _ (List.mem_of_getElem? (i := 121) rfl))) (Via.of (hw _ (List.mem_of_getElem? (i := 122) rfl))) e186 FM E_a (Or.inl (hw _ (List.mem_of_getElem? (i := 46) rfl))) (hw _ (List.mem_of_getElem? (i := 27) rfl)) (ty := .int) (by decide) rfl rfl (g := (mkF m 7 #[.val (.ref a), .val (.ref o0)] [(.int (1 : Int32)), (.ref a)])) rfl rfl (hb hby d18_7)
  refine Run.pre st187 ?_
  have Fw187 := FM.same W187
  have K187 : Keep h0 h187 [a] := (Keep.refl h0 [a]).wr W187 (Or.inl (by simp))
  have N187 := Fr.snoc X187 N0 g_a
  show Run p e below s _ _ _ (T187.setTop (mkF m 10 #[.val (.ref a), .val (.ref o0)] []))
  refine Run.pre (fun _ k => XS.aloadN X187.here hx rfl (hb hby d18_10) rfl rfl k) ?_
  show Run p e below s _ _ _ (T187.setTop (mkF m 11 #[.val (.ref a), .val (.ref o0)] [(.ref a)]))
  refine Run.pre (fun _ k => XS.aloadN X187.here hx rfl (hb hby d18_11) rfl rfl k) ?_
  show Run p e below s _ _ _ (T187.setTop (mkF m 12 #[.val (.ref a), .val (.ref o0)] [(.ref o0), (.ref a)]))
  refine Run.pre (fun _ k => XS.aloadN X187.here hx rfl (hb hby d18_12) rfl rfl k) ?_
  show Run p e below s _ _ _ (T187.setTop (mkF m 13 #[.val (.ref a), .val (.ref o0)] [(.ref a), (.ref o0), (.ref a)]))
  have f188 := (FE.other W187 (Or.inr (slot_ne (Or.inl (hw _ (List.mem_of_getElem? (i := 49) rfl))) (Or.inl (hw _ (List.mem_of_getElem? (i := 46) rfl))) (by decide) (t := (.array (.object "java/lang/Object"))) (t' := .int) (by decide) (by decide))))
  obtain ⟨T189, X189, e189, st189⟩ := getF X187 hx hZ hown (host := "") (Or.inl (hw _ (List.mem_of_getElem? (i := 48) rfl))) Via.refl e187 f188 (g := (mkF m 13 #[.val (.ref a), .val (.ref o0)] [(.ref a), (.ref o0), (.ref a)])) rfl rfl (hb hby d18_13)
  refine Run.pre st189 ?_
  show Run p e below s _ _ _ (T189.setTop (mkF m 16 #[.val (.ref a), .val (.ref o0)] [(.ref dd), (.ref o0), (.ref a)]))
  refine Run.pre (fun _ k => XS.aloadN X189.here hx rfl (hb hby d18_16) rfl rfl k) ?_
  show Run p e below s _ _ _ (T189.setTop (mkF m 17 #[.val (.ref a), .val (.ref o0)] [(.ref a), (.ref dd), (.ref o0), (.ref a)]))
  have f190 := (FS.other W187 (Or.inr (slot_ne (Or.inl (hw _ (List.mem_of_getElem? (i := 115) rfl))) (Or.inl (hw _ (List.mem_of_getElem? (i := 46) rfl))) (by decide) (t := .int) (t' := .int) (by decide) (by decide))))
  obtain ⟨T191, X191, e191, st191⟩ := getF X189 hx hZ hown (host := "") (Or.inl (hw _ (List.mem_of_getElem? (i := 114) rfl))) Via.refl e189 f190 (g := (mkF m 17 #[.val (.ref a), .val (.ref o0)] [(.ref a), (.ref dd), (.ref o0), (.ref a)])) rfl rfl (hb hby d18_17)
  refine Run.pre st191 ?_
  show Run p e below s _ _ _ (T191.setTop (mkF m 20 #[.val (.ref a), .val (.ref o0)] [(.int (0 : Int32)), (.ref dd), (.ref o0), (.ref a)]))
  have f192 := (OL.wr W187 g_a)
  have f193 := (E_a.wr W187)
  have f194 := (E_o.wr W187)
  refine Run.callP hS (by first | exact Nat.le_refl _ | (rw [e191]; exact (Nat.le_trans (Nat.zero_le _) (Keep.of_wr W187).1))) X191 hx hZ (y := (⟨"java/util/ArrayList", "add", "(Ljava/lang/Object;[Ljava/lang/Object;I)V"⟩ : MethodName)) hown (hw _ (List.mem_of_getElem? (i := 123) rfl)) (hw _ (List.mem_of_getElem? (i := 124) rfl)) (hw _ (List.mem_of_getElem? (i := 126) rfl)) (hw _ (List.mem_of_getElem? (i := 125) rfl)) (hw _ (List.mem_of_getElem? (i := 127) rfl)) (hw _ (List.mem_of_getElem? (i := 28) rfl)) (by decide) (a := a) f193 (W := 0) (rmA3_0 l Z a0 hw a dd kd o0 h187 n0 (Nat.le_trans Z0 K187.1) f192 SD AD f193 Fw187 f188 f190 g_a f194) e191 (by decide) (by decide) (by decide) (by decide) (fun _ _ => trivial) (g := (mkF m 20 #[.val (.ref a), .val (.ref o0)] [(.int (0 : Int32)), (.ref dd), (.ref o0), (.ref a)])) rfl (by rw [hml]; rfl) (argsL := [(.ref o0), (.ref dd), (.int (0 : Int32))]) (rest := []) (lenOf pd_9 rfl) rfl (by show 2 * 0 + _ ≤ _; exact Nat.le_of_eq rfl) (hb hby d18_20) ?_
  intro v195 T195 L195 X195 hS hZ hown hV195 hQ195
  obtain ⟨b195, k195, rfl, Nq195, Kc195, sz195, vb195, ov195, fm195, fe195, fs195⟩ := hQ195
  have N195 := Fr.app N187 Nq195
  have K195 : Keep h0 T195.heap [a] := K187.trans Kc195 (allS (Or.inl (by simp)) all0)
  have sz_b195 : h0.size ≤ b195 := Nat.le_trans K187.1 sz195
  have gn_b195 : n0 ≤ b195 := Nat.le_trans Z0 sz_b195
  show Run p e below s _ _ _ (T195.setTop (mkF m 23 #[.val (.ref a), .val (.ref o0)] []))
  refine Run.pre (fun _ k => XS.iconst X195.here hx rfl (hb hby d18_23) k) ?_
  show Run p e below s _ _ _ (T195.setTop (mkF m 24 #[.val (.ref a), .val (.ref o0)] [(.int (1 : Int32))]))
  exact Run.retN hS (Nat.le_refl _) X195 hx hret (t := .boolean) (by simp) hlk (hb hby d18_24) ⟨b195, k195, rfl, N195, K195, sz_b195, vb195, ov195, fm195, fe195, fs195⟩ (by decide) (by decide)
set_option maxRecDepth 65536 in
set_option maxHeartbeats 40000000 in
theorem rmA3_1 (l : Launch) (Z : State) (a0 : Array Value) (hw : ∀ d ∈ tables_1, d.before a0 Z = true) (a : Addr) (eb : Addr) (kb : ClassId) (o0 : Addr) (o1 : Addr) (h0 : Heap) (n0 : Nat) (Z0 : n0 ≤ h0.size) (OL : Old Z n0 h0) (AB : Arv Z h0 eb kb (.object "java/lang/Object") 10 [(.ref o0), .null, .null, .null, .null, .null, .null, .null, .null, .null] .null) (OV : Ovr Z kb "java/lang/Object") (g_eb : n0 ≤ eb) (nba : eb ≠ a) (E_a : Exa Z h0 a "java/util/ArrayList") (FM : Fld Z h0 a "java/util/AbstractList" "modCount" "I" (.int 2)) (FE : Fld Z h0 a "java/util/ArrayList" "elementData" "[Ljava/lang/Object;" (.ref eb)) (FS : Fld Z h0 a "java/util/ArrayList" "size" "I" (.int 1)) (g_a : n0 ≤ a) (E_o : Exa Z h0 o1 "java/lang/String") :
    Con l (⟨"java/util/ArrayList", "add", "(Ljava/lang/Object;[Ljava/lang/Object;I)V"⟩ : MethodName) jdk_38_method_24_code 4 none ({ frames := 0, cells := 0, slots := 0, locals := 0 } : Room) Z #[(.ref a), (.ref o1), (.ref eb), (.int (1 : Int32))] h0 (fun _ => True) (fun v h L vm => v = none ∧ Fr n0 L ∧ Keep h0 h [a, eb] ∧ Arv Z h eb kb (.object "java/lang/Object") 10 [(.ref o0), (.ref o1), .null, .null, .null, .null, .null, .null, .null, .null] .null ∧ Fld Z h a "java/util/AbstractList" "modCount" "I" (.int 2) ∧ Fld Z h a "java/util/ArrayList" "elementData" "[Ljava/lang/Object;" (.ref eb) ∧ Fld Z h a "java/util/ArrayList" "size" "I" (.int 2)) := by
  refine Con.mk (plainFor_of_name pn_19) (fun m => show entryFrame m #[(.ref a), (.ref o1), (.ref eb), (.int (1 : Int32))] 4 = mkF m 0 #[.val (.ref a), .val (.ref o1), .val (.ref eb), .val (.int (1 : Int32))] [] by first | (simp [entryFrame, mkF, argsToLocals, Value.category]; done) | rfl) ?_
  intro p e s m below meth c s₁ vm0 hx hby hml hown hnm hret hlk hZ X0 e0 hS hs0 hP0
  have N0 := Fr.nil n0
  show Run p e below s _ _ _ (s₁.setTop (mkF m 0 #[.val (.ref a), .val (.ref o1), .val (.ref eb), .val (.int (1 : Int32))] []))
  refine Run.pre (fun _ k => XS.iloadN X0.here hx rfl (hb hby d19_0) rfl  k) ?_
  show Run p e below s _ _ _ (s₁.setTop (mkF m 1 #[.val (.ref a), .val (.ref o1), .val (.ref eb), .val (.int (1 : Int32))] [(.int (1 : Int32))]))
  refine Run.pre (fun _ k => XS.aloadN X0.here hx rfl (hb hby d19_1) rfl rfl k) ?_
  show Run p e below s _ _ _ (s₁.setTop (mkF m 2 #[.val (.ref a), .val (.ref o1), .val (.ref eb), .val (.int (1 : Int32))] [(.ref eb), (.int (1 : Int32))]))
  obtain ⟨c196, Ar196, -, S196, N196, -, -⟩ := id AB
  refine Run.pre (X0.arraylength hx (by rw [e0]; exact Ar196.1) (State.isArrayOf_alike hZ.alike Ar196.2.1) (g := (mkF m 2 #[.val (.ref a), .val (.ref o1), .val (.ref eb), .val (.int (1 : Int32))] [(.ref eb), (.int (1 : Int32))])) rfl rfl (hb hby d19_2)) ?_
  rw [len_of S196 N196]
  show Run p e below s _ _ _ (s₁.setTop (mkF m 3 #[.val (.ref a), .val (.ref o1), .val (.ref eb), .val (.int (1 : Int32))] [(.int (10 : Int32)), (.int (1 : Int32))]))
  refine Run.pre (fun _ k => XS.icmpYes X0.here hx rfl (pc0 := 3) (pc' := 11) rfl (hb hby d19_3) rfl (feq ((by decide) : ¬ ((1 : Int32) = (10 : Int32)))).2 (by decide) (by decide) k) ?_
  show Run p e below s _ _ _ (s₁.setTop (mkF m 11 #[.val (.ref a), .val (.ref o1), .val (.ref eb), .val (.int (1 : Int32))] []))
  refine Run.pre (fun _ k => XS.aloadN X0.here hx rfl (hb hby d19_11) rfl rfl k) ?_
  show Run p e below s _ _ _ (s₁.setTop (mkF m 12 #[.val (.ref a), .val (.ref o1), .val (.ref eb), .val (.int (1 : Int32))] [(.ref eb)]))
  refine Run.pre (fun _ k => XS.iloadN X0.here hx rfl (hb hby d19_12) rfl  k) ?_
  show Run p e below s _ _ _ (s₁.setTop (mkF m 13 #[.val (.ref a), .val (.ref o1), .val (.ref eb), .val (.int (1 : Int32))] [(.int (1 : Int32)), (.ref eb)]))
  refine Run.pre (fun _ k => XS.aloadN X0.here hx rfl (hb hby d19_13) rfl rfl k) ?_
  show Run p e below s _ _ _ (s₁.setTop (mkF m 14 #[.val (.ref a), .val (.ref o1), .val (.ref eb), .val (.int (1 : Int32))] [(.ref o1), (.int (1 : Int32)), (.ref eb)]))
  obtain ⟨c197, Ar197, q197, S197, N197, H197, G197⟩ := id AB
  have hin197 : ¬ ((1 : Int32) < 0 ∨ c197.slots.size ≤ ((1 : Int32)).toNatClampNeg) := inb_of S197 ⟨by decide, by decide⟩
  obtain ⟨T198, h198, X198, e198, W198, st198⟩ := stR X0 hx hZ e0 Ar197 (j := (1 : Int32)) hin197 rfl (Sto.ofV Ar197 q197 OV (Ins.of_exa E_o (hw _ (List.mem_of_getElem? (i := 144) rfl)))) (g := (mkF m 14 #[.val (.ref a), .val (.ref o1), .val (.ref eb), .val (.int (1 : Int32))] [(.ref o1), (.int (1 : Int32)), (.ref eb)])) rfl rfl (hb hby d19_14)
  refine Run.pre st198 ?_
  have V_eb_198 : Arv Z h198 eb kb (.object "java/lang/Object") (10 : Int32) [(.ref o0), (.ref o1), .null, .null, .null, .null, .null, .null, .null, .null] .null := Arv.set Ar197 q197 S197 N197 H197 G197 rfl W198 1 rfl (Nat.le_of_ble_eq_true rfl)
  have K198 : Keep h0 h198 [a, eb] := (Keep.refl h0 [a, eb]).wr W198 (Or.inl (by simp))
  have N198 := Fr.snoc X198 N0 g_eb
  show Run p e below s _ _ _ (T198.setTop (mkF m 15 #[.val (.ref a), .val (.ref o1), .val (.ref eb), .val (.int (1 : Int32))] []))
  refine Run.pre (fun _ k => XS.aloadN X198.here hx rfl (hb hby d19_15) rfl rfl k) ?_
  show Run p e below s _ _ _ (T198.setTop (mkF m 16 #[.val (.ref a), .val (.ref o1), .val (.ref eb), .val (.int (1 : Int32))] [(.ref a)]))
  refine Run.pre (fun _ k => XS.iloadN X198.here hx rfl (hb hby d19_16) rfl  k) ?_
  show Run p e below s _ _ _ (T198.setTop (mkF m 17 #[.val (.ref a), .val (.ref o1), .val (.ref eb), .val (.int (1 : Int32))] [(.int (1 : Int32)), (.ref a)]))
  refine Run.pre (fun _ k => XS.iconst X198.here hx rfl (hb hby d19_17) k) ?_
  show Run p e below s _ _ _ (T198.setTop (mkF m 18 #[.val (.ref a), .val (.ref o1), .val (.ref eb), .val (.int (1 : Int32))] [(.int (1 : Int32)), (.int (1 : Int32)), (.ref a)]))
  refine Run.pre (fun _ k => XS.iadd X198.here hx rfl (hb hby d19_18) rfl k) ?_
  show Run p e below s _ _ _ (T198.setTop (mkF m 19 #[.val (.ref a), .val (.ref o1), .val (.ref eb), .val (.int (1 : Int32))] [(.int (2 : Int32)), (.ref a)]))
  have f199 := (E_a.wr W198)
  have f200 := (FS.other W198 (Or.inl (Ne.symm nba)))
  obtain ⟨T201, h201, X201, e201, W201, st201⟩ := putF X198 hx hZ hown (host := "") (Or.inl (hw _ (List.mem_of_getElem? (i := 114) rfl))) Via.refl e198 f200 f199 (Or.inl (hw _ (List.mem_of_getElem? (i := 115) rfl))) (hw _ (List.mem_of_getElem? (i := 27) rfl)) (ty := .int) (by decide) rfl rfl (g := (mkF m 19 #[.val (.ref a), .val (.ref o1), .val (.ref eb), .val (.int (1 : Int32))] [(.int (2 : Int32)), (.ref a)])) rfl rfl (hb hby d19_19)
  refine Run.pre st201 ?_
  have Fw201 := f200.same W201
  have K201 : Keep h0 h201 [a, eb] := K198.wr W201 (Or.inl (by simp))
  have N201 := Fr.snoc X201 N198 g_a
  show Run p e below s _ _ _ (T201.setTop (mkF m 22 #[.val (.ref a), .val (.ref o1), .val (.ref eb), .val (.int (1 : Int32))] []))
  have f202 := (V_eb_198.other W201 nba)
  have f203 := ((FM.other W198 (Or.inl (Ne.symm nba))).other W201 (Or.inr (slot_ne (Or.inl (hw _ (List.mem_of_getElem? (i := 46) rfl))) (Or.inl (hw _ (List.mem_of_getElem? (i := 115) rfl))) (by decide) (t := .int) (t' := .int) (by decide) (by decide))))
  have f204 := ((FE.other W198 (Or.inl (Ne.symm nba))).other W201 (Or.inr (slot_ne (Or.inl (hw _ (List.mem_of_getElem? (i := 49) rfl))) (Or.inl (hw _ (List.mem_of_getElem? (i := 115) rfl))) (by decide) (t := (.array (.object "java/lang/Object"))) (t' := .int) (by decide) (by decide))))
  exact Run.retV hS (by first | exact Nat.le_refl _ | (rw [e201]; exact (Nat.le_trans (Nat.le_trans (Nat.zero_le _) (Keep.of_wr W198).1) (Keep.of_wr W201).1))) X201 hx hret hlk (hb hby d19_22) (by first | (rw [e201]; exact ⟨rfl, N201, K201, f202, f203, f204, Fw201⟩) | exact ⟨rfl, N201, K201, f202, f203, f204, Fw201⟩) (by decide) (by decide)
set_option maxRecDepth 65536 in
set_option maxHeartbeats 40000000 in
theorem rmA1_1 (l : Launch) (Z : State) (a0 : Array Value) (hw : ∀ d ∈ tables_1, d.before a0 Z = true) (a : Addr) (eb : Addr) (kb : ClassId) (o0 : Addr) (o1 : Addr) (h0 : Heap) (n0 : Nat) (Z0 : n0 ≤ h0.size) (OL : Old Z n0 h0) (AB : Arv Z h0 eb kb (.object "java/lang/Object") 10 [(.ref o0), .null, .null, .null, .null, .null, .null, .null, .null, .null] .null) (OV : Ovr Z kb "java/lang/Object") (g_eb : n0 ≤ eb) (nba : eb ≠ a) (E_a : Exa Z h0 a "java/util/ArrayList") (FM : Fld Z h0 a "java/util/AbstractList" "modCount" "I" (.int 1)) (FE : Fld Z h0 a "java/util/ArrayList" "elementData" "[Ljava/lang/Object;" (.ref eb)) (FS : Fld Z h0 a "java/util/ArrayList" "size" "I" (.int 1)) (g_a : n0 ≤ a) (E_o : Exa Z h0 o1 "java/lang/String") :
    Con l (⟨"java/util/ArrayList", "add", "(Ljava/lang/Object;)Z"⟩ : MethodName) jdk_38_method_25_code 2 (some .boolean) ({ frames := 1, cells := 0, slots := 0, locals := 15 } : Room) Z #[(.ref a), (.ref o1)] h0 (fun _ => True) (fun v h L vm => v = some (.int 1) ∧ Fr n0 L ∧ Keep h0 h [a, eb] ∧ Arv Z h eb kb (.object "java/lang/Object") 10 [(.ref o0), (.ref o1), .null, .null, .null, .null, .null, .null, .null, .null] .null ∧ Fld Z h a "java/util/AbstractList" "modCount" "I" (.int 2) ∧ Fld Z h a "java/util/ArrayList" "elementData" "[Ljava/lang/Object;" (.ref eb) ∧ Fld Z h a "java/util/ArrayList" "size" "I" (.int 2)) := by
  refine Con.mk (plainFor_of_name pn_18) (fun m => show entryFrame m #[(.ref a), (.ref o1)] 2 = mkF m 0 #[.val (.ref a), .val (.ref o1)] [] by first | (simp [entryFrame, mkF, argsToLocals, Value.category]; done) | rfl) ?_
  intro p e s m below meth c s₁ vm0 hx hby hml hown hnm hret hlk hZ X0 e0 hS hs0 hP0
  have N0 := Fr.nil n0
  show Run p e below s _ _ _ (s₁.setTop (mkF m 0 #[.val (.ref a), .val (.ref o1)] []))
  refine Run.pre (fun _ k => XS.aloadN X0.here hx rfl (hb hby d18_0) rfl rfl k) ?_
  show Run p e below s _ _ _ (s₁.setTop (mkF m 1 #[.val (.ref a), .val (.ref o1)] [(.ref a)]))
  refine Run.pre (fun _ k => XS.dup X0.here hx rfl (hb hby d18_1) rfl rfl k) ?_
  show Run p e below s _ _ _ (s₁.setTop (mkF m 2 #[.val (.ref a), .val (.ref o1)] [(.ref a), (.ref a)]))
  obtain ⟨T205, X205, e205, st205⟩ := getF X0 hx hZ hown (host := "") (Or.inl (hw _ (List.mem_of_getElem? (i := 121) rfl))) (Via.of (hw _ (List.mem_of_getElem? (i := 122) rfl))) e0 FM (g := (mkF m 2 #[.val (.ref a), .val (.ref o1)] [(.ref a), (.ref a)])) rfl rfl (hb hby d18_2)
  refine Run.pre st205 ?_
  show Run p e below s _ _ _ (T205.setTop (mkF m 5 #[.val (.ref a), .val (.ref o1)] [(.int (1 : Int32)), (.ref a)]))
  refine Run.pre (fun _ k => XS.iconst X205.here hx rfl (hb hby d18_5) k) ?_
  show Run p e below s _ _ _ (T205.setTop (mkF m 6 #[.val (.ref a), .val (.ref o1)] [(.int (1 : Int32)), (.int (1 : Int32)), (.ref a)]))
  refine Run.pre (fun _ k => XS.iadd X205.here hx rfl (hb hby d18_6) rfl k) ?_
  show Run p e below s _ _ _ (T205.setTop (mkF m 7 #[.val (.ref a), .val (.ref o1)] [(.int (2 : Int32)), (.ref a)]))
  obtain ⟨T206, h206, X206, e206, W206, st206⟩ := putF X205 hx hZ hown (host := "") (Or.inl (hw _ (List.mem_of_getElem? (i := 121) rfl))) (Via.of (hw _ (List.mem_of_getElem? (i := 122) rfl))) e205 FM E_a (Or.inl (hw _ (List.mem_of_getElem? (i := 46) rfl))) (hw _ (List.mem_of_getElem? (i := 27) rfl)) (ty := .int) (by decide) rfl rfl (g := (mkF m 7 #[.val (.ref a), .val (.ref o1)] [(.int (2 : Int32)), (.ref a)])) rfl rfl (hb hby d18_7)
  refine Run.pre st206 ?_
  have Fw206 := FM.same W206
  have K206 : Keep h0 h206 [a, eb] := (Keep.refl h0 [a, eb]).wr W206 (Or.inl (by simp))
  have N206 := Fr.snoc X206 N0 g_a
  show Run p e below s _ _ _ (T206.setTop (mkF m 10 #[.val (.ref a), .val (.ref o1)] []))
  refine Run.pre (fun _ k => XS.aloadN X206.here hx rfl (hb hby d18_10) rfl rfl k) ?_
  show Run p e below s _ _ _ (T206.setTop (mkF m 11 #[.val (.ref a), .val (.ref o1)] [(.ref a)]))
  refine Run.pre (fun _ k => XS.aloadN X206.here hx rfl (hb hby d18_11) rfl rfl k) ?_
  show Run p e below s _ _ _ (T206.setTop (mkF m 12 #[.val (.ref a), .val (.ref o1)] [(.ref o1), (.ref a)]))
  refine Run.pre (fun _ k => XS.aloadN X206.here hx rfl (hb hby d18_12) rfl rfl k) ?_
  show Run p e below s _ _ _ (T206.setTop (mkF m 13 #[.val (.ref a), .val (.ref o1)] [(.ref a), (.ref o1), (.ref a)]))
  have f207 := (FE.other W206 (Or.inr (slot_ne (Or.inl (hw _ (List.mem_of_getElem? (i := 49) rfl))) (Or.inl (hw _ (List.mem_of_getElem? (i := 46) rfl))) (by decide) (t := (.array (.object "java/lang/Object"))) (t' := .int) (by decide) (by decide))))
  obtain ⟨T208, X208, e208, st208⟩ := getF X206 hx hZ hown (host := "") (Or.inl (hw _ (List.mem_of_getElem? (i := 48) rfl))) Via.refl e206 f207 (g := (mkF m 13 #[.val (.ref a), .val (.ref o1)] [(.ref a), (.ref o1), (.ref a)])) rfl rfl (hb hby d18_13)
  refine Run.pre st208 ?_
  show Run p e below s _ _ _ (T208.setTop (mkF m 16 #[.val (.ref a), .val (.ref o1)] [(.ref eb), (.ref o1), (.ref a)]))
  refine Run.pre (fun _ k => XS.aloadN X208.here hx rfl (hb hby d18_16) rfl rfl k) ?_
  show Run p e below s _ _ _ (T208.setTop (mkF m 17 #[.val (.ref a), .val (.ref o1)] [(.ref a), (.ref eb), (.ref o1), (.ref a)]))
  have f209 := (FS.other W206 (Or.inr (slot_ne (Or.inl (hw _ (List.mem_of_getElem? (i := 115) rfl))) (Or.inl (hw _ (List.mem_of_getElem? (i := 46) rfl))) (by decide) (t := .int) (t' := .int) (by decide) (by decide))))
  obtain ⟨T210, X210, e210, st210⟩ := getF X208 hx hZ hown (host := "") (Or.inl (hw _ (List.mem_of_getElem? (i := 114) rfl))) Via.refl e208 f209 (g := (mkF m 17 #[.val (.ref a), .val (.ref o1)] [(.ref a), (.ref eb), (.ref o1), (.ref a)])) rfl rfl (hb hby d18_17)
  refine Run.pre st210 ?_
  show Run p e below s _ _ _ (T210.setTop (mkF m 20 #[.val (.ref a), .val (.ref o1)] [(.int (1 : Int32)), (.ref eb), (.ref o1), (.ref a)]))
  have f211 := (OL.wr W206 g_a)
  have f212 := (AB.other W206 nba)
  have f213 := (E_a.wr W206)
  have f214 := (E_o.wr W206)
  refine Run.callP hS (by first | exact Nat.le_refl _ | (rw [e210]; exact (Nat.le_trans (Nat.zero_le _) (Keep.of_wr W206).1))) X210 hx hZ (y := (⟨"java/util/ArrayList", "add", "(Ljava/lang/Object;[Ljava/lang/Object;I)V"⟩ : MethodName)) hown (hw _ (List.mem_of_getElem? (i := 123) rfl)) (hw _ (List.mem_of_getElem? (i := 124) rfl)) (hw _ (List.mem_of_getElem? (i := 126) rfl)) (hw _ (List.mem_of_getElem? (i := 125) rfl)) (hw _ (List.mem_of_getElem? (i := 127) rfl)) (hw _ (List.mem_of_getElem? (i := 28) rfl)) (by decide) (a := a) f213 (W := 0) (rmA3_1 l Z a0 hw a eb kb o0 o1 h206 n0 (Nat.le_trans Z0 K206.1) f211 f212 OV g_eb nba f213 Fw206 f207 f209 g_a f214) e210 (by decide) (by decide) (by decide) (by decide) (fun _ _ => trivial) (g := (mkF m 20 #[.val (.ref a), .val (.ref o1)] [(.int (1 : Int32)), (.ref eb), (.ref o1), (.ref a)])) rfl (by rw [hml]; rfl) (argsL := [(.ref o1), (.ref eb), (.int (1 : Int32))]) (rest := []) (lenOf pd_9 rfl) rfl (by show 2 * 0 + _ ≤ _; exact Nat.le_of_eq rfl) (hb hby d18_20) ?_
  intro v215 T215 L215 X215 hS hZ hown hV215 hQ215
  obtain ⟨rfl, Nq215, Kc215, vb215, fm215, fe215, fs215⟩ := hQ215
  have N215 := Fr.app N206 Nq215
  have K215 : Keep h0 T215.heap [a, eb] := K206.trans Kc215 (allS (Or.inl (by simp)) (allS (Or.inl (by simp)) all0))
  show Run p e below s _ _ _ (T215.setTop (mkF m 23 #[.val (.ref a), .val (.ref o1)] []))
  refine Run.pre (fun _ k => XS.iconst X215.here hx rfl (hb hby d18_23) k) ?_
  show Run p e below s _ _ _ (T215.setTop (mkF m 24 #[.val (.ref a), .val (.ref o1)] [(.int (1 : Int32))]))
  exact Run.retN hS (Nat.le_refl _) X215 hx hret (t := .boolean) (by simp) hlk (hb hby d18_24) ⟨rfl, N215, K215, vb215, fm215, fe215, fs215⟩ (by decide) (by decide)
set_option maxRecDepth 65536 in
set_option maxHeartbeats 40000000 in
theorem rmA3_2 (l : Launch) (Z : State) (a0 : Array Value) (hw : ∀ d ∈ tables_1, d.before a0 Z = true) (a : Addr) (eb : Addr) (kb : ClassId) (o0 : Addr) (o1 : Addr) (o2 : Addr) (h0 : Heap) (n0 : Nat) (Z0 : n0 ≤ h0.size) (OL : Old Z n0 h0) (AB : Arv Z h0 eb kb (.object "java/lang/Object") 10 [(.ref o0), (.ref o1), .null, .null, .null, .null, .null, .null, .null, .null] .null) (OV : Ovr Z kb "java/lang/Object") (g_eb : n0 ≤ eb) (nba : eb ≠ a) (E_a : Exa Z h0 a "java/util/ArrayList") (FM : Fld Z h0 a "java/util/AbstractList" "modCount" "I" (.int 3)) (FE : Fld Z h0 a "java/util/ArrayList" "elementData" "[Ljava/lang/Object;" (.ref eb)) (FS : Fld Z h0 a "java/util/ArrayList" "size" "I" (.int 2)) (g_a : n0 ≤ a) (E_o : Exa Z h0 o2 "java/lang/String") :
    Con l (⟨"java/util/ArrayList", "add", "(Ljava/lang/Object;[Ljava/lang/Object;I)V"⟩ : MethodName) jdk_38_method_24_code 4 none ({ frames := 0, cells := 0, slots := 0, locals := 0 } : Room) Z #[(.ref a), (.ref o2), (.ref eb), (.int (2 : Int32))] h0 (fun _ => True) (fun v h L vm => v = none ∧ Fr n0 L ∧ Keep h0 h [a, eb] ∧ Arv Z h eb kb (.object "java/lang/Object") 10 [(.ref o0), (.ref o1), (.ref o2), .null, .null, .null, .null, .null, .null, .null] .null ∧ Fld Z h a "java/util/AbstractList" "modCount" "I" (.int 3) ∧ Fld Z h a "java/util/ArrayList" "elementData" "[Ljava/lang/Object;" (.ref eb) ∧ Fld Z h a "java/util/ArrayList" "size" "I" (.int 3)) := by
  refine Con.mk (plainFor_of_name pn_19) (fun m => show entryFrame m #[(.ref a), (.ref o2), (.ref eb), (.int (2 : Int32))] 4 = mkF m 0 #[.val (.ref a), .val (.ref o2), .val (.ref eb), .val (.int (2 : Int32))] [] by first | (simp [entryFrame, mkF, argsToLocals, Value.category]; done) | rfl) ?_
  intro p e s m below meth c s₁ vm0 hx hby hml hown hnm hret hlk hZ X0 e0 hS hs0 hP0
  have N0 := Fr.nil n0
  show Run p e below s _ _ _ (s₁.setTop (mkF m 0 #[.val (.ref a), .val (.ref o2), .val (.ref eb), .val (.int (2 : Int32))] []))
  refine Run.pre (fun _ k => XS.iloadN X0.here hx rfl (hb hby d19_0) rfl  k) ?_
  show Run p e below s _ _ _ (s₁.setTop (mkF m 1 #[.val (.ref a), .val (.ref o2), .val (.ref eb), .val (.int (2 : Int32))] [(.int (2 : Int32))]))
  refine Run.pre (fun _ k => XS.aloadN X0.here hx rfl (hb hby d19_1) rfl rfl k) ?_
  show Run p e below s _ _ _ (s₁.setTop (mkF m 2 #[.val (.ref a), .val (.ref o2), .val (.ref eb), .val (.int (2 : Int32))] [(.ref eb), (.int (2 : Int32))]))
  obtain ⟨c216, Ar216, -, S216, N216, -, -⟩ := id AB
  refine Run.pre (X0.arraylength hx (by rw [e0]; exact Ar216.1) (State.isArrayOf_alike hZ.alike Ar216.2.1) (g := (mkF m 2 #[.val (.ref a), .val (.ref o2), .val (.ref eb), .val (.int (2 : Int32))] [(.ref eb), (.int (2 : Int32))])) rfl rfl (hb hby d19_2)) ?_
  rw [len_of S216 N216]
  show Run p e below s _ _ _ (s₁.setTop (mkF m 3 #[.val (.ref a), .val (.ref o2), .val (.ref eb), .val (.int (2 : Int32))] [(.int (10 : Int32)), (.int (2 : Int32))]))
  refine Run.pre (fun _ k => XS.icmpYes X0.here hx rfl (pc0 := 3) (pc' := 11) rfl (hb hby d19_3) rfl (feq ((by decide) : ¬ ((2 : Int32) = (10 : Int32)))).2 (by decide) (by decide) k) ?_
  show Run p e below s _ _ _ (s₁.setTop (mkF m 11 #[.val (.ref a), .val (.ref o2), .val (.ref eb), .val (.int (2 : Int32))] []))
  refine Run.pre (fun _ k => XS.aloadN X0.here hx rfl (hb hby d19_11) rfl rfl k) ?_
  show Run p e below s _ _ _ (s₁.setTop (mkF m 12 #[.val (.ref a), .val (.ref o2), .val (.ref eb), .val (.int (2 : Int32))] [(.ref eb)]))
  refine Run.pre (fun _ k => XS.iloadN X0.here hx rfl (hb hby d19_12) rfl  k) ?_
  show Run p e below s _ _ _ (s₁.setTop (mkF m 13 #[.val (.ref a), .val (.ref o2), .val (.ref eb), .val (.int (2 : Int32))] [(.int (2 : Int32)), (.ref eb)]))
  refine Run.pre (fun _ k => XS.aloadN X0.here hx rfl (hb hby d19_13) rfl rfl k) ?_
  show Run p e below s _ _ _ (s₁.setTop (mkF m 14 #[.val (.ref a), .val (.ref o2), .val (.ref eb), .val (.int (2 : Int32))] [(.ref o2), (.int (2 : Int32)), (.ref eb)]))
  obtain ⟨c217, Ar217, q217, S217, N217, H217, G217⟩ := id AB
  have hin217 : ¬ ((2 : Int32) < 0 ∨ c217.slots.size ≤ ((2 : Int32)).toNatClampNeg) := inb_of S217 ⟨by decide, by decide⟩
  obtain ⟨T218, h218, X218, e218, W218, st218⟩ := stR X0 hx hZ e0 Ar217 (j := (2 : Int32)) hin217 rfl (Sto.ofV Ar217 q217 OV (Ins.of_exa E_o (hw _ (List.mem_of_getElem? (i := 144) rfl)))) (g := (mkF m 14 #[.val (.ref a), .val (.ref o2), .val (.ref eb), .val (.int (2 : Int32))] [(.ref o2), (.int (2 : Int32)), (.ref eb)])) rfl rfl (hb hby d19_14)
  refine Run.pre st218 ?_
  have V_eb_218 : Arv Z h218 eb kb (.object "java/lang/Object") (10 : Int32) [(.ref o0), (.ref o1), (.ref o2), .null, .null, .null, .null, .null, .null, .null] .null := Arv.set Ar217 q217 S217 N217 H217 G217 rfl W218 2 rfl (Nat.le_of_ble_eq_true rfl)
  have K218 : Keep h0 h218 [a, eb] := (Keep.refl h0 [a, eb]).wr W218 (Or.inl (by simp))
  have N218 := Fr.snoc X218 N0 g_eb
  show Run p e below s _ _ _ (T218.setTop (mkF m 15 #[.val (.ref a), .val (.ref o2), .val (.ref eb), .val (.int (2 : Int32))] []))
  refine Run.pre (fun _ k => XS.aloadN X218.here hx rfl (hb hby d19_15) rfl rfl k) ?_
  show Run p e below s _ _ _ (T218.setTop (mkF m 16 #[.val (.ref a), .val (.ref o2), .val (.ref eb), .val (.int (2 : Int32))] [(.ref a)]))
  refine Run.pre (fun _ k => XS.iloadN X218.here hx rfl (hb hby d19_16) rfl  k) ?_
  show Run p e below s _ _ _ (T218.setTop (mkF m 17 #[.val (.ref a), .val (.ref o2), .val (.ref eb), .val (.int (2 : Int32))] [(.int (2 : Int32)), (.ref a)]))
  refine Run.pre (fun _ k => XS.iconst X218.here hx rfl (hb hby d19_17) k) ?_
  show Run p e below s _ _ _ (T218.setTop (mkF m 18 #[.val (.ref a), .val (.ref o2), .val (.ref eb), .val (.int (2 : Int32))] [(.int (1 : Int32)), (.int (2 : Int32)), (.ref a)]))
  refine Run.pre (fun _ k => XS.iadd X218.here hx rfl (hb hby d19_18) rfl k) ?_
  show Run p e below s _ _ _ (T218.setTop (mkF m 19 #[.val (.ref a), .val (.ref o2), .val (.ref eb), .val (.int (2 : Int32))] [(.int (3 : Int32)), (.ref a)]))
  have f219 := (E_a.wr W218)
  have f220 := (FS.other W218 (Or.inl (Ne.symm nba)))
  obtain ⟨T221, h221, X221, e221, W221, st221⟩ := putF X218 hx hZ hown (host := "") (Or.inl (hw _ (List.mem_of_getElem? (i := 114) rfl))) Via.refl e218 f220 f219 (Or.inl (hw _ (List.mem_of_getElem? (i := 115) rfl))) (hw _ (List.mem_of_getElem? (i := 27) rfl)) (ty := .int) (by decide) rfl rfl (g := (mkF m 19 #[.val (.ref a), .val (.ref o2), .val (.ref eb), .val (.int (2 : Int32))] [(.int (3 : Int32)), (.ref a)])) rfl rfl (hb hby d19_19)
  refine Run.pre st221 ?_
  have Fw221 := f220.same W221
  have K221 : Keep h0 h221 [a, eb] := K218.wr W221 (Or.inl (by simp))
  have N221 := Fr.snoc X221 N218 g_a
  show Run p e below s _ _ _ (T221.setTop (mkF m 22 #[.val (.ref a), .val (.ref o2), .val (.ref eb), .val (.int (2 : Int32))] []))
  have f222 := (V_eb_218.other W221 nba)
  have f223 := ((FM.other W218 (Or.inl (Ne.symm nba))).other W221 (Or.inr (slot_ne (Or.inl (hw _ (List.mem_of_getElem? (i := 46) rfl))) (Or.inl (hw _ (List.mem_of_getElem? (i := 115) rfl))) (by decide) (t := .int) (t' := .int) (by decide) (by decide))))
  have f224 := ((FE.other W218 (Or.inl (Ne.symm nba))).other W221 (Or.inr (slot_ne (Or.inl (hw _ (List.mem_of_getElem? (i := 49) rfl))) (Or.inl (hw _ (List.mem_of_getElem? (i := 115) rfl))) (by decide) (t := (.array (.object "java/lang/Object"))) (t' := .int) (by decide) (by decide))))
  exact Run.retV hS (by first | exact Nat.le_refl _ | (rw [e221]; exact (Nat.le_trans (Nat.le_trans (Nat.zero_le _) (Keep.of_wr W218).1) (Keep.of_wr W221).1))) X221 hx hret hlk (hb hby d19_22) (by first | (rw [e221]; exact ⟨rfl, N221, K221, f222, f223, f224, Fw221⟩) | exact ⟨rfl, N221, K221, f222, f223, f224, Fw221⟩) (by decide) (by decide)
set_option maxRecDepth 65536 in
set_option maxHeartbeats 40000000 in
theorem rmA1_2 (l : Launch) (Z : State) (a0 : Array Value) (hw : ∀ d ∈ tables_1, d.before a0 Z = true) (a : Addr) (eb : Addr) (kb : ClassId) (o0 : Addr) (o1 : Addr) (o2 : Addr) (h0 : Heap) (n0 : Nat) (Z0 : n0 ≤ h0.size) (OL : Old Z n0 h0) (AB : Arv Z h0 eb kb (.object "java/lang/Object") 10 [(.ref o0), (.ref o1), .null, .null, .null, .null, .null, .null, .null, .null] .null) (OV : Ovr Z kb "java/lang/Object") (g_eb : n0 ≤ eb) (nba : eb ≠ a) (E_a : Exa Z h0 a "java/util/ArrayList") (FM : Fld Z h0 a "java/util/AbstractList" "modCount" "I" (.int 2)) (FE : Fld Z h0 a "java/util/ArrayList" "elementData" "[Ljava/lang/Object;" (.ref eb)) (FS : Fld Z h0 a "java/util/ArrayList" "size" "I" (.int 2)) (g_a : n0 ≤ a) (E_o : Exa Z h0 o2 "java/lang/String") :
    Con l (⟨"java/util/ArrayList", "add", "(Ljava/lang/Object;)Z"⟩ : MethodName) jdk_38_method_25_code 2 (some .boolean) ({ frames := 1, cells := 0, slots := 0, locals := 15 } : Room) Z #[(.ref a), (.ref o2)] h0 (fun _ => True) (fun v h L vm => v = some (.int 1) ∧ Fr n0 L ∧ Keep h0 h [a, eb] ∧ Arv Z h eb kb (.object "java/lang/Object") 10 [(.ref o0), (.ref o1), (.ref o2), .null, .null, .null, .null, .null, .null, .null] .null ∧ Fld Z h a "java/util/AbstractList" "modCount" "I" (.int 3) ∧ Fld Z h a "java/util/ArrayList" "elementData" "[Ljava/lang/Object;" (.ref eb) ∧ Fld Z h a "java/util/ArrayList" "size" "I" (.int 3)) := by
  refine Con.mk (plainFor_of_name pn_18) (fun m => show entryFrame m #[(.ref a), (.ref o2)] 2 = mkF m 0 #[.val (.ref a), .val (.ref o2)] [] by first | (simp [entryFrame, mkF, argsToLocals, Value.category]; done) | rfl) ?_
  intro p e s m below meth c s₁ vm0 hx hby hml hown hnm hret hlk hZ X0 e0 hS hs0 hP0
  have N0 := Fr.nil n0
  show Run p e below s _ _ _ (s₁.setTop (mkF m 0 #[.val (.ref a), .val (.ref o2)] []))
  refine Run.pre (fun _ k => XS.aloadN X0.here hx rfl (hb hby d18_0) rfl rfl k) ?_
  show Run p e below s _ _ _ (s₁.setTop (mkF m 1 #[.val (.ref a), .val (.ref o2)] [(.ref a)]))
  refine Run.pre (fun _ k => XS.dup X0.here hx rfl (hb hby d18_1) rfl rfl k) ?_
  show Run p e below s _ _ _ (s₁.setTop (mkF m 2 #[.val (.ref a), .val (.ref o2)] [(.ref a), (.ref a)]))
  obtain ⟨T225, X225, e225, st225⟩ := getF X0 hx hZ hown (host := "") (Or.inl (hw _ (List.mem_of_getElem? (i := 121) rfl))) (Via.of (hw _ (List.mem_of_getElem? (i := 122) rfl))) e0 FM (g := (mkF m 2 #[.val (.ref a), .val (.ref o2)] [(.ref a), (.ref a)])) rfl rfl (hb hby d18_2)
  refine Run.pre st225 ?_
  show Run p e below s _ _ _ (T225.setTop (mkF m 5 #[.val (.ref a), .val (.ref o2)] [(.int (2 : Int32)), (.ref a)]))
  refine Run.pre (fun _ k => XS.iconst X225.here hx rfl (hb hby d18_5) k) ?_
  show Run p e below s _ _ _ (T225.setTop (mkF m 6 #[.val (.ref a), .val (.ref o2)] [(.int (1 : Int32)), (.int (2 : Int32)), (.ref a)]))
  refine Run.pre (fun _ k => XS.iadd X225.here hx rfl (hb hby d18_6) rfl k) ?_
  show Run p e below s _ _ _ (T225.setTop (mkF m 7 #[.val (.ref a), .val (.ref o2)] [(.int (3 : Int32)), (.ref a)]))
  obtain ⟨T226, h226, X226, e226, W226, st226⟩ := putF X225 hx hZ hown (host := "") (Or.inl (hw _ (List.mem_of_getElem? (i := 121) rfl))) (Via.of (hw _ (List.mem_of_getElem? (i := 122) rfl))) e225 FM E_a (Or.inl (hw _ (List.mem_of_getElem? (i := 46) rfl))) (hw _ (List.mem_of_getElem? (i := 27) rfl)) (ty := .int) (by decide) rfl rfl (g := (mkF m 7 #[.val (.ref a), .val (.ref o2)] [(.int (3 : Int32)), (.ref a)])) rfl rfl (hb hby d18_7)
  refine Run.pre st226 ?_
  have Fw226 := FM.same W226
  have K226 : Keep h0 h226 [a, eb] := (Keep.refl h0 [a, eb]).wr W226 (Or.inl (by simp))
  have N226 := Fr.snoc X226 N0 g_a
  show Run p e below s _ _ _ (T226.setTop (mkF m 10 #[.val (.ref a), .val (.ref o2)] []))
  refine Run.pre (fun _ k => XS.aloadN X226.here hx rfl (hb hby d18_10) rfl rfl k) ?_
  show Run p e below s _ _ _ (T226.setTop (mkF m 11 #[.val (.ref a), .val (.ref o2)] [(.ref a)]))
  refine Run.pre (fun _ k => XS.aloadN X226.here hx rfl (hb hby d18_11) rfl rfl k) ?_
  show Run p e below s _ _ _ (T226.setTop (mkF m 12 #[.val (.ref a), .val (.ref o2)] [(.ref o2), (.ref a)]))
  refine Run.pre (fun _ k => XS.aloadN X226.here hx rfl (hb hby d18_12) rfl rfl k) ?_
  show Run p e below s _ _ _ (T226.setTop (mkF m 13 #[.val (.ref a), .val (.ref o2)] [(.ref a), (.ref o2), (.ref a)]))
  have f227 := (FE.other W226 (Or.inr (slot_ne (Or.inl (hw _ (List.mem_of_getElem? (i := 49) rfl))) (Or.inl (hw _ (List.mem_of_getElem? (i := 46) rfl))) (by decide) (t := (.array (.object "java/lang/Object"))) (t' := .int) (by decide) (by decide))))
  obtain ⟨T228, X228, e228, st228⟩ := getF X226 hx hZ hown (host := "") (Or.inl (hw _ (List.mem_of_getElem? (i := 48) rfl))) Via.refl e226 f227 (g := (mkF m 13 #[.val (.ref a), .val (.ref o2)] [(.ref a), (.ref o2), (.ref a)])) rfl rfl (hb hby d18_13)
  refine Run.pre st228 ?_
  show Run p e below s _ _ _ (T228.setTop (mkF m 16 #[.val (.ref a), .val (.ref o2)] [(.ref eb), (.ref o2), (.ref a)]))
  refine Run.pre (fun _ k => XS.aloadN X228.here hx rfl (hb hby d18_16) rfl rfl k) ?_
  show Run p e below s _ _ _ (T228.setTop (mkF m 17 #[.val (.ref a), .val (.ref o2)] [(.ref a), (.ref eb), (.ref o2), (.ref a)]))
  have f229 := (FS.other W226 (Or.inr (slot_ne (Or.inl (hw _ (List.mem_of_getElem? (i := 115) rfl))) (Or.inl (hw _ (List.mem_of_getElem? (i := 46) rfl))) (by decide) (t := .int) (t' := .int) (by decide) (by decide))))
  obtain ⟨T230, X230, e230, st230⟩ := getF X228 hx hZ hown (host := "") (Or.inl (hw _ (List.mem_of_getElem? (i := 114) rfl))) Via.refl e228 f229 (g := (mkF m 17 #[.val (.ref a), .val (.ref o2)] [(.ref a), (.ref eb), (.ref o2), (.ref a)])) rfl rfl (hb hby d18_17)
  refine Run.pre st230 ?_
  show Run p e below s _ _ _ (T230.setTop (mkF m 20 #[.val (.ref a), .val (.ref o2)] [(.int (2 : Int32)), (.ref eb), (.ref o2), (.ref a)]))
  have f231 := (OL.wr W226 g_a)
  have f232 := (AB.other W226 nba)
  have f233 := (E_a.wr W226)
  have f234 := (E_o.wr W226)
  refine Run.callP hS (by first | exact Nat.le_refl _ | (rw [e230]; exact (Nat.le_trans (Nat.zero_le _) (Keep.of_wr W226).1))) X230 hx hZ (y := (⟨"java/util/ArrayList", "add", "(Ljava/lang/Object;[Ljava/lang/Object;I)V"⟩ : MethodName)) hown (hw _ (List.mem_of_getElem? (i := 123) rfl)) (hw _ (List.mem_of_getElem? (i := 124) rfl)) (hw _ (List.mem_of_getElem? (i := 126) rfl)) (hw _ (List.mem_of_getElem? (i := 125) rfl)) (hw _ (List.mem_of_getElem? (i := 127) rfl)) (hw _ (List.mem_of_getElem? (i := 28) rfl)) (by decide) (a := a) f233 (W := 0) (rmA3_2 l Z a0 hw a eb kb o0 o1 o2 h226 n0 (Nat.le_trans Z0 K226.1) f231 f232 OV g_eb nba f233 Fw226 f227 f229 g_a f234) e230 (by decide) (by decide) (by decide) (by decide) (fun _ _ => trivial) (g := (mkF m 20 #[.val (.ref a), .val (.ref o2)] [(.int (2 : Int32)), (.ref eb), (.ref o2), (.ref a)])) rfl (by rw [hml]; rfl) (argsL := [(.ref o2), (.ref eb), (.int (2 : Int32))]) (rest := []) (lenOf pd_9 rfl) rfl (by show 2 * 0 + _ ≤ _; exact Nat.le_of_eq rfl) (hb hby d18_20) ?_
  intro v235 T235 L235 X235 hS hZ hown hV235 hQ235
  obtain ⟨rfl, Nq235, Kc235, vb235, fm235, fe235, fs235⟩ := hQ235
  have N235 := Fr.app N226 Nq235
  have K235 : Keep h0 T235.heap [a, eb] := K226.trans Kc235 (allS (Or.inl (by simp)) (allS (Or.inl (by simp)) all0))
  show Run p e below s _ _ _ (T235.setTop (mkF m 23 #[.val (.ref a), .val (.ref o2)] []))
  refine Run.pre (fun _ k => XS.iconst X235.here hx rfl (hb hby d18_23) k) ?_
  show Run p e below s _ _ _ (T235.setTop (mkF m 24 #[.val (.ref a), .val (.ref o2)] [(.int (1 : Int32))]))
  exact Run.retN hS (Nat.le_refl _) X235 hx hret (t := .boolean) (by simp) hlk (hb hby d18_24) ⟨rfl, N235, K235, vb235, fm235, fe235, fs235⟩ (by decide) (by decide)
theorem d17_0 : decode jdk_38_method_8_code 0 = .ok (.aload_n 0, 1) := by decide +kernel
theorem d17_1 : decode jdk_38_method_8_code 1 = .ok (.getfield 48, 3) := by decide +kernel
theorem d17_4 : decode jdk_38_method_8_code 4 = .ok (.ireturn, 1) := by decide +kernel
theorem pn_17 : plainName "java/util/ArrayList" = true := by first | (simp [plainName, overriddenIn]; done) | decide +kernel
set_option maxRecDepth 65536 in
set_option maxHeartbeats 40000000 in
theorem rmSz (l : Launch) (Z : State) (a0 : Array Value) (hw : ∀ d ∈ tables_1, d.before a0 Z = true) (a : Addr) (zz : Int32) (h0 : Heap) (n0 : Nat) (Z0 : n0 ≤ h0.size) (FS : Fld Z h0 a "java/util/ArrayList" "size" "I" (.int zz)) :
    Con l (⟨"java/util/ArrayList", "size", "()I"⟩ : MethodName) jdk_38_method_8_code 1 (some .int) ({ frames := 0, cells := 0, slots := 0, locals := 0 } : Room) Z #[(.ref a)] h0 (fun _ => True) (fun v h L vm => v = some (.int zz) ∧ Fr n0 L ∧ h = h0) := by
  refine Con.mk (plainFor_of_name pn_17) (fun m => show entryFrame m #[(.ref a)] 1 = mkF m 0 #[.val (.ref a)] [] by first | (simp [entryFrame, mkF, argsToLocals, Value.category]; done) | rfl) ?_
  intro p e s m below meth c s₁ vm0 hx hby hml hown hnm hret hlk hZ X0 e0 hS hs0 hP0
  have N0 := Fr.nil n0
  show Run p e below s _ _ _ (s₁.setTop (mkF m 0 #[.val (.ref a)] []))
  refine Run.pre (fun _ k => XS.aloadN X0.here hx rfl (hb hby d17_0) rfl rfl k) ?_
  show Run p e below s _ _ _ (s₁.setTop (mkF m 1 #[.val (.ref a)] [(.ref a)]))
  obtain ⟨T236, X236, e236, st236⟩ := getF X0 hx hZ hown (host := "") (Or.inl (hw _ (List.mem_of_getElem? (i := 114) rfl))) Via.refl e0 FS (g := (mkF m 1 #[.val (.ref a)] [(.ref a)])) rfl rfl (hb hby d17_1)
  refine Run.pre st236 ?_
  show Run p e below s _ _ _ (T236.setTop (mkF m 4 #[.val (.ref a)] [(.int zz)]))
  exact Run.retI hS (by first | exact Nat.le_refl _ | (rw [e236]; exact (Nat.zero_le _))) X236 hx hret hlk (hb hby d17_4) (by first | (rw [e236]; exact ⟨rfl, N0, rfl⟩) | exact ⟨rfl, N0, rfl⟩) (by decide) (by decide)
theorem d25_0 : decode jdk_41_method_11_code 0 = .ok (.iload_n 0, 1) := by decide +kernel
theorem d25_1 : decode jdk_41_method_11_code 1 = .ok (.ifCond .lt 8, 3) := by decide +kernel
theorem d25_4 : decode jdk_41_method_11_code 4 = .ok (.iload_n 0, 1) := by decide +kernel
theorem d25_5 : decode jdk_41_method_11_code 5 = .ok (.iload_n 1, 1) := by decide +kernel
theorem d25_6 : decode jdk_41_method_11_code 6 = .ok (.if_icmp .lt 10, 3) := by decide +kernel
theorem d25_16 : decode jdk_41_method_11_code 16 = .ok (.iload_n 0, 1) := by decide +kernel
theorem d25_17 : decode jdk_41_method_11_code 17 = .ok (.ireturn, 1) := by decide +kernel
theorem pn_25 : plainName "jdk/internal/util/Preconditions" = true := by first | (simp [plainName, overriddenIn]; done) | decide +kernel
set_option maxRecDepth 65536 in
set_option maxHeartbeats 40000000 in
theorem rmPre (l : Launch) (Z : State) (a0 : Array Value) (hw : ∀ d ∈ tables_1, d.before a0 Z = true) (ix : Int32) (nn : Int32) (h0 : Heap) (n0 : Nat) (Z0 : n0 ≤ h0.size) (k1 : ¬ ix < 0) (k2 : ix < nn) :
    Con l (⟨"jdk/internal/util/Preconditions", "checkIndex", "(IILjava/util/function/BiFunction;)I"⟩ : MethodName) jdk_41_method_11_code 3 (some .int) ({ frames := 0, cells := 0, slots := 0, locals := 0 } : Room) Z #[(.int ix), (.int nn), .null] h0 (fun _ => True) (fun v h L vm => v = some (.int ix) ∧ Fr n0 L ∧ h = h0) := by
  refine Con.mk (plainFor_of_name pn_25) (fun m => show entryFrame m #[(.int ix), (.int nn), .null] 3 = mkF m 0 #[.val (.int ix), .val (.int nn), .val .null] [] by first | (simp [entryFrame, mkF, argsToLocals, Value.category]; done) | rfl) ?_
  intro p e s m below meth c s₁ vm0 hx hby hml hown hnm hret hlk hZ X0 e0 hS hs0 hP0
  have N0 := Fr.nil n0
  show Run p e below s _ _ _ (s₁.setTop (mkF m 0 #[.val (.int ix), .val (.int nn), .val .null] []))
  refine Run.pre (fun _ k => XS.iloadN X0.here hx rfl (hb hby d25_0) rfl  k) ?_
  show Run p e below s _ _ _ (s₁.setTop (mkF m 1 #[.val (.int ix), .val (.int nn), .val .null] [(.int ix)]))
  refine Run.pre (fun _ k => XS.ifNo X0.here hx rfl (hb hby d25_1) rfl ((if0 _ _).trans (flt (k1 : ¬ (ix < (0 : Int32)))).1) k) ?_
  show Run p e below s _ _ _ (s₁.setTop (mkF m 4 #[.val (.int ix), .val (.int nn), .val .null] []))
  refine Run.pre (fun _ k => XS.iloadN X0.here hx rfl (hb hby d25_4) rfl  k) ?_
  show Run p e below s _ _ _ (s₁.setTop (mkF m 5 #[.val (.int ix), .val (.int nn), .val .null] [(.int ix)]))
  refine Run.pre (fun _ k => XS.iloadN X0.here hx rfl (hb hby d25_5) rfl  k) ?_
  show Run p e below s _ _ _ (s₁.setTop (mkF m 6 #[.val (.int ix), .val (.int nn), .val .null] [(.int nn), (.int ix)]))
  refine Run.pre (fun _ k => XS.icmpYes X0.here hx rfl (pc0 := 6) (pc' := 16) rfl (hb hby d25_6) rfl (tlt (k2 : ix < nn)).1 (by decide) (by decide) k) ?_
  show Run p e below s _ _ _ (s₁.setTop (mkF m 16 #[.val (.int ix), .val (.int nn), .val .null] []))
  refine Run.pre (fun _ k => XS.iloadN X0.here hx rfl (hb hby d25_16) rfl  k) ?_
  show Run p e below s _ _ _ (s₁.setTop (mkF m 17 #[.val (.int ix), .val (.int nn), .val .null] [(.int ix)]))
  exact Run.retI hS (by first | exact Nat.le_refl _ | (rw [e0]; exact (Nat.zero_le _))) X0 hx hret hlk (hb hby d25_17) (by first | (rw [e0]; exact ⟨rfl, N0, rfl⟩) | exact ⟨rfl, N0, rfl⟩) (by decide) (by decide)
theorem d24_0 : decode jdk_31_method_17_code 0 = .ok (.iload_n 0, 1) := by decide +kernel
theorem d24_1 : decode jdk_31_method_17_code 1 = .ok (.iload_n 1, 1) := by decide +kernel
theorem d24_2 : decode jdk_31_method_17_code 2 = .ok (.aconst_null, 1) := by decide +kernel
theorem pd_10 : parseMethodDescriptor "(IILjava/util/function/BiFunction;)I" = some ⟨[.int, .int, (.object "java/util/function/BiFunction")], some .int⟩ := by decide +kernel
theorem d24_3 : decode jdk_31_method_17_code 3 = .ok (.invokestatic 105, 3) := by decide +kernel
theorem d24_6 : decode jdk_31_method_17_code 6 = .ok (.ireturn, 1) := by decide +kernel
theorem pn_24 : plainName "java/util/Objects" = true := by first | (simp [plainName, overriddenIn]; done) | decide +kernel
set_option maxRecDepth 65536 in
set_option maxHeartbeats 40000000 in
theorem rmChk (l : Launch) (Z : State) (a0 : Array Value) (hw : ∀ d ∈ tables_1, d.before a0 Z = true) (ix : Int32) (nn : Int32) (h0 : Heap) (n0 : Nat) (Z0 : n0 ≤ h0.size) (k1 : ¬ ix < 0) (k2 : ix < nn) :
    Con l (⟨"java/util/Objects", "checkIndex", "(II)I"⟩ : MethodName) jdk_31_method_17_code 2 (some .int) ({ frames := 1, cells := 0, slots := 0, locals := 14 } : Room) Z #[(.int ix), (.int nn)] h0 (fun _ => True) (fun v h L vm => v = some (.int ix) ∧ Fr n0 L ∧ h = h0) := by
  refine Con.mk (plainFor_of_name pn_24) (fun m => show entryFrame m #[(.int ix), (.int nn)] 2 = mkF m 0 #[.val (.int ix), .val (.int nn)] [] by first | (simp [entryFrame, mkF, argsToLocals, Value.category]; done) | rfl) ?_
  intro p e s m below meth c s₁ vm0 hx hby hml hown hnm hret hlk hZ X0 e0 hS hs0 hP0
  have N0 := Fr.nil n0
  show Run p e below s _ _ _ (s₁.setTop (mkF m 0 #[.val (.int ix), .val (.int nn)] []))
  refine Run.pre (fun _ k => XS.iloadN X0.here hx rfl (hb hby d24_0) rfl  k) ?_
  show Run p e below s _ _ _ (s₁.setTop (mkF m 1 #[.val (.int ix), .val (.int nn)] [(.int ix)]))
  refine Run.pre (fun _ k => XS.iloadN X0.here hx rfl (hb hby d24_1) rfl  k) ?_
  show Run p e below s _ _ _ (s₁.setTop (mkF m 2 #[.val (.int ix), .val (.int nn)] [(.int nn), (.int ix)]))
  refine Run.pre (fun _ k => XS.aconstNull X0.here hx rfl (hb hby d24_2) k) ?_
  show Run p e below s _ _ _ (s₁.setTop (mkF m 3 #[.val (.int ix), .val (.int nn)] [.null, (.int nn), (.int ix)]))
  refine Run.callS hS (by first | exact Nat.le_refl _ | (rw [e0]; exact (Nat.zero_le _))) X0 hx hZ (y := (⟨"jdk/internal/util/Preconditions", "checkIndex", "(IILjava/util/function/BiFunction;)I"⟩ : MethodName)) hown (hw _ (List.mem_of_getElem? (i := 157) rfl)) (hw _ (List.mem_of_getElem? (i := 158) rfl)) (hw _ (List.mem_of_getElem? (i := 159) rfl)) (hw _ (List.mem_of_getElem? (i := 160) rfl)) (by decide) (W := 0) (rmPre l Z a0 hw ix nn h0 n0 (Nat.le_trans Z0 (Keep.refl h0 []).1) k1 k2) e0 (by decide) (by decide) (by decide) (by decide) (fun _ _ => trivial) (g := (mkF m 3 #[.val (.int ix), .val (.int nn)] [.null, (.int nn), (.int ix)])) rfl (by rw [hml]; rfl) (argsL := [(.int ix), (.int nn), .null]) (rest := []) (lenOf pd_10 rfl) rfl (by show 2 * 0 + _ ≤ _; exact Nat.le_of_eq rfl) (hb hby d24_3) ?_
  intro v237 T237 L237 X237 hS hZ hown hV237 hQ237
  obtain ⟨rfl, Nq237, he237⟩ := hQ237
  have N237 := Fr.app N0 Nq237
  have e237 : T237.heap = h0 := he237
  show Run p e below s _ _ _ (T237.setTop (mkF m 6 #[.val (.int ix), .val (.int nn)] [(.int ix)]))
  exact Run.retI hS (by first | exact Nat.le_refl _ | (rw [e237]; exact (Nat.le_of_eq (congrArg Array.size e237)))) X237 hx hret hlk (hb hby d24_6) (by first | (rw [e237]; exact ⟨rfl, N237, rfl⟩) | exact ⟨rfl, N237, rfl⟩) (by decide) (by decide)
theorem d26_0 : decode jdk_38_method_18_code 0 = .ok (.aload_n 0, 1) := by decide +kernel
theorem d26_1 : decode jdk_38_method_18_code 1 = .ok (.getfield 9, 3) := by decide +kernel
theorem d26_4 : decode jdk_38_method_18_code 4 = .ok (.iload_n 1, 1) := by decide +kernel
theorem d26_5 : decode jdk_38_method_18_code 5 = .ok (.aaload, 1) := by decide +kernel
theorem d26_6 : decode jdk_38_method_18_code 6 = .ok (.areturn, 1) := by decide +kernel
theorem pn_26 : plainName "java/util/ArrayList" = true := by first | (simp [plainName, overriddenIn]; done) | decide +kernel
set_option maxRecDepth 65536 in
set_option maxHeartbeats 40000000 in
theorem rmE_01 (l : Launch) (Z : State) (a0 : Array Value) (hw : ∀ d ∈ tables_1, d.before a0 Z = true) (a : Addr) (eb : Addr) (kb : ClassId) (o0 : Addr) (h0 : Heap) (n0 : Nat) (Z0 : n0 ≤ h0.size) (E_a : Exa Z h0 a "java/util/ArrayList") (FE : Fld Z h0 a "java/util/ArrayList" "elementData" "[Ljava/lang/Object;" (.ref eb)) (AB : Arv Z h0 eb kb (.object "java/lang/Object") 10 [(.ref o0), .null, .null, .null, .null, .null, .null, .null, .null, .null] .null) :
    Con l (⟨"java/util/ArrayList", "elementData", "(I)Ljava/lang/Object;"⟩ : MethodName) jdk_38_method_18_code 2 (some (.object "java/lang/Object")) ({ frames := 0, cells := 0, slots := 0, locals := 0 } : Room) Z #[(.ref a), (.int (0 : Int32))] h0 (fun _ => True) (fun v h L vm => v = some (.ref o0) ∧ Fr n0 L ∧ h = h0) := by
  refine Con.mk (plainFor_of_name pn_26) (fun m => show entryFrame m #[(.ref a), (.int (0 : Int32))] 2 = mkF m 0 #[.val (.ref a), .val (.int (0 : Int32))] [] by first | (simp [entryFrame, mkF, argsToLocals, Value.category]; done) | rfl) ?_
  intro p e s m below meth c s₁ vm0 hx hby hml hown hnm hret hlk hZ X0 e0 hS hs0 hP0
  have N0 := Fr.nil n0
  show Run p e below s _ _ _ (s₁.setTop (mkF m 0 #[.val (.ref a), .val (.int (0 : Int32))] []))
  refine Run.pre (fun _ k => XS.aloadN X0.here hx rfl (hb hby d26_0) rfl rfl k) ?_
  show Run p e below s _ _ _ (s₁.setTop (mkF m 1 #[.val (.ref a), .val (.int (0 : Int32))] [(.ref a)]))
  obtain ⟨T238, X238, e238, st238⟩ := getF X0 hx hZ hown (host := "") (Or.inl (hw _ (List.mem_of_getElem? (i := 48) rfl))) Via.refl e0 FE (g := (mkF m 1 #[.val (.ref a), .val (.int (0 : Int32))] [(.ref a)])) rfl rfl (hb hby d26_1)
  refine Run.pre st238 ?_
  show Run p e below s _ _ _ (T238.setTop (mkF m 4 #[.val (.ref a), .val (.int (0 : Int32))] [(.ref eb)]))
  refine Run.pre (fun _ k => XS.iloadN X238.here hx rfl (hb hby d26_4) rfl  k) ?_
  show Run p e below s _ _ _ (T238.setTop (mkF m 5 #[.val (.ref a), .val (.int (0 : Int32))] [(.int (0 : Int32)), (.ref eb)]))
  obtain ⟨c239, Ar239, -, S239, N239, H239, -⟩ := id AB
  have hin239 : ¬ ((0 : Int32) < 0 ∨ c239.slots.size ≤ ((0 : Int32)).toNatClampNeg) := inb_of S239 ⟨by decide, by decide⟩
  refine Run.pre (X238.aaload hx (j := (0 : Int32)) (v := (.ref o0)) (by rw [e238]; exact Ar239.1) (State.isArrayOf_alike hZ.alike Ar239.2.1) rfl Ar239.2.2 hin239 (H239.at hin239 rfl) (g := (mkF m 5 #[.val (.ref a), .val (.int (0 : Int32))] [(.int (0 : Int32)), (.ref eb)])) rfl rfl (hb hby d26_5)) ?_
  show Run p e below s _ _ _ (T238.setTop (mkF m 6 #[.val (.ref a), .val (.int (0 : Int32))] [(.ref o0)]))
  exact Run.retA hS (by first | exact Nat.le_refl _ | (rw [e238]; exact (Nat.zero_le _))) X238 hx hret rfl rfl hlk (hb hby d26_6) (by first | (rw [e238]; exact ⟨rfl, N0, rfl⟩) | exact ⟨rfl, N0, rfl⟩) (by decide) (by decide)
theorem d23_0 : decode jdk_38_method_20_code 0 = .ok (.iload_n 1, 1) := by decide +kernel
theorem d23_1 : decode jdk_38_method_20_code 1 = .ok (.aload_n 0, 1) := by decide +kernel
theorem d23_2 : decode jdk_38_method_20_code 2 = .ok (.getfield 48, 3) := by decide +kernel
theorem d23_5 : decode jdk_38_method_20_code 5 = .ok (.invokestatic 118, 3) := by decide +kernel
theorem d23_8 : decode jdk_38_method_20_code 8 = .ok (.pop, 1) := by decide +kernel
theorem d23_9 : decode jdk_38_method_20_code 9 = .ok (.aload_n 0, 1) := by decide +kernel
theorem d23_10 : decode jdk_38_method_20_code 10 = .ok (.iload_n 1, 1) := by decide +kernel
theorem pd_11 : parseMethodDescriptor "(I)Ljava/lang/Object;" = some ⟨[.int], some (.object "java/lang/Object")⟩ := by decide +kernel
theorem d23_11 : decode jdk_38_method_20_code 11 = .ok (.invokevirtual 123, 3) := by decide +kernel
theorem d23_14 : decode jdk_38_method_20_code 14 = .ok (.areturn, 1) := by decide +kernel
theorem pn_23 : plainName "java/util/ArrayList" = true := by first | (simp [plainName, overriddenIn]; done) | decide +kernel
set_option maxRecDepth 65536 in
set_option maxHeartbeats 40000000 in
theorem rmGt_01 (l : Launch) (Z : State) (a0 : Array Value) (hw : ∀ d ∈ tables_1, d.before a0 Z = true) (a : Addr) (eb : Addr) (kb : ClassId) (o0 : Addr) (h0 : Heap) (n0 : Nat) (Z0 : n0 ≤ h0.size) (E_a : Exa Z h0 a "java/util/ArrayList") (FE : Fld Z h0 a "java/util/ArrayList" "elementData" "[Ljava/lang/Object;" (.ref eb)) (AB : Arv Z h0 eb kb (.object "java/lang/Object") 10 [(.ref o0), .null, .null, .null, .null, .null, .null, .null, .null, .null] .null) (FS : Fld Z h0 a "java/util/ArrayList" "size" "I" (.int 1)) :
    Con l (⟨"java/util/ArrayList", "get", "(I)Ljava/lang/Object;"⟩ : MethodName) jdk_38_method_20_code 2 (some (.object "java/lang/Object")) ({ frames := 2, cells := 0, slots := 0, locals := 27 } : Room) Z #[(.ref a), (.int (0 : Int32))] h0 (fun _ => True) (fun v h L vm => v = some (.ref o0) ∧ Fr n0 L ∧ h = h0) := by
  refine Con.mk (plainFor_of_name pn_23) (fun m => show entryFrame m #[(.ref a), (.int (0 : Int32))] 2 = mkF m 0 #[.val (.ref a), .val (.int (0 : Int32))] [] by first | (simp [entryFrame, mkF, argsToLocals, Value.category]; done) | rfl) ?_
  intro p e s m below meth c s₁ vm0 hx hby hml hown hnm hret hlk hZ X0 e0 hS hs0 hP0
  have N0 := Fr.nil n0
  show Run p e below s _ _ _ (s₁.setTop (mkF m 0 #[.val (.ref a), .val (.int (0 : Int32))] []))
  refine Run.pre (fun _ k => XS.iloadN X0.here hx rfl (hb hby d23_0) rfl  k) ?_
  show Run p e below s _ _ _ (s₁.setTop (mkF m 1 #[.val (.ref a), .val (.int (0 : Int32))] [(.int (0 : Int32))]))
  refine Run.pre (fun _ k => XS.aloadN X0.here hx rfl (hb hby d23_1) rfl rfl k) ?_
  show Run p e below s _ _ _ (s₁.setTop (mkF m 2 #[.val (.ref a), .val (.int (0 : Int32))] [(.ref a), (.int (0 : Int32))]))
  obtain ⟨T240, X240, e240, st240⟩ := getF X0 hx hZ hown (host := "") (Or.inl (hw _ (List.mem_of_getElem? (i := 114) rfl))) Via.refl e0 FS (g := (mkF m 2 #[.val (.ref a), .val (.int (0 : Int32))] [(.ref a), (.int (0 : Int32))])) rfl rfl (hb hby d23_2)
  refine Run.pre st240 ?_
  show Run p e below s _ _ _ (T240.setTop (mkF m 5 #[.val (.ref a), .val (.int (0 : Int32))] [(.int (1 : Int32)), (.int (0 : Int32))]))
  refine Run.callS hS (by first | exact Nat.le_refl _ | (rw [e240]; exact (Nat.zero_le _))) X240 hx hZ (y := (⟨"java/util/Objects", "checkIndex", "(II)I"⟩ : MethodName)) hown (hw _ (List.mem_of_getElem? (i := 153) rfl)) (hw _ (List.mem_of_getElem? (i := 154) rfl)) (hw _ (List.mem_of_getElem? (i := 155) rfl)) (hw _ (List.mem_of_getElem? (i := 156) rfl)) (by decide) (W := 0) (rmChk l Z a0 hw 0 1 h0 n0 (Nat.le_trans Z0 (Keep.refl h0 []).1) (by decide) (by decide)) e240 (by decide) (by decide) (by decide) (by decide) (fun _ _ => trivial) (g := (mkF m 5 #[.val (.ref a), .val (.int (0 : Int32))] [(.int (1 : Int32)), (.int (0 : Int32))])) rfl (by rw [hml]; rfl) (argsL := [(.int (0 : Int32)), (.int (1 : Int32))]) (rest := []) (lenOf pd_6 rfl) rfl (by show 2 * 0 + _ ≤ _; exact Nat.le_of_eq rfl) (hb hby d23_5) ?_
  intro v241 T241 L241 X241 hS hZ hown hV241 hQ241
  obtain ⟨rfl, Nq241, he241⟩ := hQ241
  have N241 := Fr.app N0 Nq241
  have e241 : T241.heap = h0 := he241
  show Run p e below s _ _ _ (T241.setTop (mkF m 8 #[.val (.ref a), .val (.int (0 : Int32))] [(.int (0 : Int32))]))
  refine Run.pre (fun _ k => XS.pop X241.here hx rfl (hb hby d23_8) rfl rfl k) ?_
  show Run p e below s _ _ _ (T241.setTop (mkF m 9 #[.val (.ref a), .val (.int (0 : Int32))] []))
  refine Run.pre (fun _ k => XS.aloadN X241.here hx rfl (hb hby d23_9) rfl rfl k) ?_
  show Run p e below s _ _ _ (T241.setTop (mkF m 10 #[.val (.ref a), .val (.int (0 : Int32))] [(.ref a)]))
  refine Run.pre (fun _ k => XS.iloadN X241.here hx rfl (hb hby d23_10) rfl  k) ?_
  show Run p e below s _ _ _ (T241.setTop (mkF m 11 #[.val (.ref a), .val (.int (0 : Int32))] [(.int (0 : Int32)), (.ref a)]))
  refine Run.callV hS (by first | exact Nat.le_refl _ | (rw [e241]; exact (Nat.le_of_eq (congrArg Array.size e241)))) X241 hx hZ (y := (⟨"java/util/ArrayList", "elementData", "(I)Ljava/lang/Object;"⟩ : MethodName)) (z := (⟨"java/util/ArrayList", "elementData", "(I)Ljava/lang/Object;"⟩ : MethodName)) hown (hw _ (List.mem_of_getElem? (i := 161) rfl)) (hw _ (List.mem_of_getElem? (i := 162) rfl)) (notFace_of_selects (args := #[]) (mvT hZ (hw _ (List.mem_of_getElem? (i := 164) rfl)))) (hw _ (List.mem_of_getElem? (i := 164) rfl)) (hw _ (List.mem_of_getElem? (i := 163) rfl)) (hw _ (List.mem_of_getElem? (i := 165) rfl)) (hw _ (List.mem_of_getElem? (i := 28) rfl)) (by decide) (b := a) E_a (W := 0) (rmE_01 l Z a0 hw a eb kb o0 h0 n0 (Nat.le_trans Z0 (Keep.refl h0 []).1) E_a FE AB) e241 (by decide) (by decide) (by decide) (by decide) (fun _ _ => trivial) (g := (mkF m 11 #[.val (.ref a), .val (.int (0 : Int32))] [(.int (0 : Int32)), (.ref a)])) rfl (by rw [hml]; rfl) (argsL := [(.int (0 : Int32))]) (rest := []) (lenOf pd_11 rfl) rfl (by show 2 * 0 + _ ≤ _; exact Nat.le_of_eq rfl) (hb hby d23_11) ?_
  intro v242 T242 L242 X242 hS hZ hown hV242 hQ242
  obtain ⟨rfl, Nq242, he242⟩ := hQ242
  have N242 := Fr.app N241 Nq242
  have e242 : T242.heap = h0 := he242
  show Run p e below s _ _ _ (T242.setTop (mkF m 14 #[.val (.ref a), .val (.int (0 : Int32))] [(.ref o0)]))
  exact Run.retA hS (by first | exact Nat.le_refl _ | (rw [e242]; exact (Nat.le_of_eq (congrArg Array.size e242)))) X242 hx hret rfl rfl hlk (hb hby d23_14) (by first | (rw [e242]; exact ⟨rfl, N242, rfl⟩) | exact ⟨rfl, N242, rfl⟩) (by decide) (by decide)
set_option maxRecDepth 65536 in
set_option maxHeartbeats 40000000 in
theorem rmE_02 (l : Launch) (Z : State) (a0 : Array Value) (hw : ∀ d ∈ tables_1, d.before a0 Z = true) (a : Addr) (eb : Addr) (kb : ClassId) (o0 : Addr) (o1 : Addr) (h0 : Heap) (n0 : Nat) (Z0 : n0 ≤ h0.size) (E_a : Exa Z h0 a "java/util/ArrayList") (FE : Fld Z h0 a "java/util/ArrayList" "elementData" "[Ljava/lang/Object;" (.ref eb)) (AB : Arv Z h0 eb kb (.object "java/lang/Object") 10 [(.ref o0), (.ref o1), .null, .null, .null, .null, .null, .null, .null, .null] .null) :
    Con l (⟨"java/util/ArrayList", "elementData", "(I)Ljava/lang/Object;"⟩ : MethodName) jdk_38_method_18_code 2 (some (.object "java/lang/Object")) ({ frames := 0, cells := 0, slots := 0, locals := 0 } : Room) Z #[(.ref a), (.int (0 : Int32))] h0 (fun _ => True) (fun v h L vm => v = some (.ref o0) ∧ Fr n0 L ∧ h = h0) := by
  refine Con.mk (plainFor_of_name pn_26) (fun m => show entryFrame m #[(.ref a), (.int (0 : Int32))] 2 = mkF m 0 #[.val (.ref a), .val (.int (0 : Int32))] [] by first | (simp [entryFrame, mkF, argsToLocals, Value.category]; done) | rfl) ?_
  intro p e s m below meth c s₁ vm0 hx hby hml hown hnm hret hlk hZ X0 e0 hS hs0 hP0
  have N0 := Fr.nil n0
  show Run p e below s _ _ _ (s₁.setTop (mkF m 0 #[.val (.ref a), .val (.int (0 : Int32))] []))
  refine Run.pre (fun _ k => XS.aloadN X0.here hx rfl (hb hby d26_0) rfl rfl k) ?_
  show Run p e below s _ _ _ (s₁.setTop (mkF m 1 #[.val (.ref a), .val (.int (0 : Int32))] [(.ref a)]))
  obtain ⟨T243, X243, e243, st243⟩ := getF X0 hx hZ hown (host := "") (Or.inl (hw _ (List.mem_of_getElem? (i := 48) rfl))) Via.refl e0 FE (g := (mkF m 1 #[.val (.ref a), .val (.int (0 : Int32))] [(.ref a)])) rfl rfl (hb hby d26_1)
  refine Run.pre st243 ?_
  show Run p e below s _ _ _ (T243.setTop (mkF m 4 #[.val (.ref a), .val (.int (0 : Int32))] [(.ref eb)]))
  refine Run.pre (fun _ k => XS.iloadN X243.here hx rfl (hb hby d26_4) rfl  k) ?_
  show Run p e below s _ _ _ (T243.setTop (mkF m 5 #[.val (.ref a), .val (.int (0 : Int32))] [(.int (0 : Int32)), (.ref eb)]))
  obtain ⟨c244, Ar244, -, S244, N244, H244, -⟩ := id AB
  have hin244 : ¬ ((0 : Int32) < 0 ∨ c244.slots.size ≤ ((0 : Int32)).toNatClampNeg) := inb_of S244 ⟨by decide, by decide⟩
  refine Run.pre (X243.aaload hx (j := (0 : Int32)) (v := (.ref o0)) (by rw [e243]; exact Ar244.1) (State.isArrayOf_alike hZ.alike Ar244.2.1) rfl Ar244.2.2 hin244 (H244.at hin244 rfl) (g := (mkF m 5 #[.val (.ref a), .val (.int (0 : Int32))] [(.int (0 : Int32)), (.ref eb)])) rfl rfl (hb hby d26_5)) ?_
  show Run p e below s _ _ _ (T243.setTop (mkF m 6 #[.val (.ref a), .val (.int (0 : Int32))] [(.ref o0)]))
  exact Run.retA hS (by first | exact Nat.le_refl _ | (rw [e243]; exact (Nat.zero_le _))) X243 hx hret rfl rfl hlk (hb hby d26_6) (by first | (rw [e243]; exact ⟨rfl, N0, rfl⟩) | exact ⟨rfl, N0, rfl⟩) (by decide) (by decide)
set_option maxRecDepth 65536 in
set_option maxHeartbeats 40000000 in
theorem rmGt_02 (l : Launch) (Z : State) (a0 : Array Value) (hw : ∀ d ∈ tables_1, d.before a0 Z = true) (a : Addr) (eb : Addr) (kb : ClassId) (o0 : Addr) (o1 : Addr) (h0 : Heap) (n0 : Nat) (Z0 : n0 ≤ h0.size) (E_a : Exa Z h0 a "java/util/ArrayList") (FE : Fld Z h0 a "java/util/ArrayList" "elementData" "[Ljava/lang/Object;" (.ref eb)) (AB : Arv Z h0 eb kb (.object "java/lang/Object") 10 [(.ref o0), (.ref o1), .null, .null, .null, .null, .null, .null, .null, .null] .null) (FS : Fld Z h0 a "java/util/ArrayList" "size" "I" (.int 2)) :
    Con l (⟨"java/util/ArrayList", "get", "(I)Ljava/lang/Object;"⟩ : MethodName) jdk_38_method_20_code 2 (some (.object "java/lang/Object")) ({ frames := 2, cells := 0, slots := 0, locals := 27 } : Room) Z #[(.ref a), (.int (0 : Int32))] h0 (fun _ => True) (fun v h L vm => v = some (.ref o0) ∧ Fr n0 L ∧ h = h0) := by
  refine Con.mk (plainFor_of_name pn_23) (fun m => show entryFrame m #[(.ref a), (.int (0 : Int32))] 2 = mkF m 0 #[.val (.ref a), .val (.int (0 : Int32))] [] by first | (simp [entryFrame, mkF, argsToLocals, Value.category]; done) | rfl) ?_
  intro p e s m below meth c s₁ vm0 hx hby hml hown hnm hret hlk hZ X0 e0 hS hs0 hP0
  have N0 := Fr.nil n0
  show Run p e below s _ _ _ (s₁.setTop (mkF m 0 #[.val (.ref a), .val (.int (0 : Int32))] []))
  refine Run.pre (fun _ k => XS.iloadN X0.here hx rfl (hb hby d23_0) rfl  k) ?_
  show Run p e below s _ _ _ (s₁.setTop (mkF m 1 #[.val (.ref a), .val (.int (0 : Int32))] [(.int (0 : Int32))]))
  refine Run.pre (fun _ k => XS.aloadN X0.here hx rfl (hb hby d23_1) rfl rfl k) ?_
  show Run p e below s _ _ _ (s₁.setTop (mkF m 2 #[.val (.ref a), .val (.int (0 : Int32))] [(.ref a), (.int (0 : Int32))]))
  obtain ⟨T245, X245, e245, st245⟩ := getF X0 hx hZ hown (host := "") (Or.inl (hw _ (List.mem_of_getElem? (i := 114) rfl))) Via.refl e0 FS (g := (mkF m 2 #[.val (.ref a), .val (.int (0 : Int32))] [(.ref a), (.int (0 : Int32))])) rfl rfl (hb hby d23_2)
  refine Run.pre st245 ?_
  show Run p e below s _ _ _ (T245.setTop (mkF m 5 #[.val (.ref a), .val (.int (0 : Int32))] [(.int (2 : Int32)), (.int (0 : Int32))]))
  refine Run.callS hS (by first | exact Nat.le_refl _ | (rw [e245]; exact (Nat.zero_le _))) X245 hx hZ (y := (⟨"java/util/Objects", "checkIndex", "(II)I"⟩ : MethodName)) hown (hw _ (List.mem_of_getElem? (i := 153) rfl)) (hw _ (List.mem_of_getElem? (i := 154) rfl)) (hw _ (List.mem_of_getElem? (i := 155) rfl)) (hw _ (List.mem_of_getElem? (i := 156) rfl)) (by decide) (W := 0) (rmChk l Z a0 hw 0 2 h0 n0 (Nat.le_trans Z0 (Keep.refl h0 []).1) (by decide) (by decide)) e245 (by decide) (by decide) (by decide) (by decide) (fun _ _ => trivial) (g := (mkF m 5 #[.val (.ref a), .val (.int (0 : Int32))] [(.int (2 : Int32)), (.int (0 : Int32))])) rfl (by rw [hml]; rfl) (argsL := [(.int (0 : Int32)), (.int (2 : Int32))]) (rest := []) (lenOf pd_6 rfl) rfl (by show 2 * 0 + _ ≤ _; exact Nat.le_of_eq rfl) (hb hby d23_5) ?_
  intro v246 T246 L246 X246 hS hZ hown hV246 hQ246
  obtain ⟨rfl, Nq246, he246⟩ := hQ246
  have N246 := Fr.app N0 Nq246
  have e246 : T246.heap = h0 := he246
  show Run p e below s _ _ _ (T246.setTop (mkF m 8 #[.val (.ref a), .val (.int (0 : Int32))] [(.int (0 : Int32))]))
  refine Run.pre (fun _ k => XS.pop X246.here hx rfl (hb hby d23_8) rfl rfl k) ?_
  show Run p e below s _ _ _ (T246.setTop (mkF m 9 #[.val (.ref a), .val (.int (0 : Int32))] []))
  refine Run.pre (fun _ k => XS.aloadN X246.here hx rfl (hb hby d23_9) rfl rfl k) ?_
  show Run p e below s _ _ _ (T246.setTop (mkF m 10 #[.val (.ref a), .val (.int (0 : Int32))] [(.ref a)]))
  refine Run.pre (fun _ k => XS.iloadN X246.here hx rfl (hb hby d23_10) rfl  k) ?_
  show Run p e below s _ _ _ (T246.setTop (mkF m 11 #[.val (.ref a), .val (.int (0 : Int32))] [(.int (0 : Int32)), (.ref a)]))
  refine Run.callV hS (by first | exact Nat.le_refl _ | (rw [e246]; exact (Nat.le_of_eq (congrArg Array.size e246)))) X246 hx hZ (y := (⟨"java/util/ArrayList", "elementData", "(I)Ljava/lang/Object;"⟩ : MethodName)) (z := (⟨"java/util/ArrayList", "elementData", "(I)Ljava/lang/Object;"⟩ : MethodName)) hown (hw _ (List.mem_of_getElem? (i := 161) rfl)) (hw _ (List.mem_of_getElem? (i := 162) rfl)) (notFace_of_selects (args := #[]) (mvT hZ (hw _ (List.mem_of_getElem? (i := 164) rfl)))) (hw _ (List.mem_of_getElem? (i := 164) rfl)) (hw _ (List.mem_of_getElem? (i := 163) rfl)) (hw _ (List.mem_of_getElem? (i := 165) rfl)) (hw _ (List.mem_of_getElem? (i := 28) rfl)) (by decide) (b := a) E_a (W := 0) (rmE_02 l Z a0 hw a eb kb o0 o1 h0 n0 (Nat.le_trans Z0 (Keep.refl h0 []).1) E_a FE AB) e246 (by decide) (by decide) (by decide) (by decide) (fun _ _ => trivial) (g := (mkF m 11 #[.val (.ref a), .val (.int (0 : Int32))] [(.int (0 : Int32)), (.ref a)])) rfl (by rw [hml]; rfl) (argsL := [(.int (0 : Int32))]) (rest := []) (lenOf pd_11 rfl) rfl (by show 2 * 0 + _ ≤ _; exact Nat.le_of_eq rfl) (hb hby d23_11) ?_
  intro v247 T247 L247 X247 hS hZ hown hV247 hQ247
  obtain ⟨rfl, Nq247, he247⟩ := hQ247
  have N247 := Fr.app N246 Nq247
  have e247 : T247.heap = h0 := he247
  show Run p e below s _ _ _ (T247.setTop (mkF m 14 #[.val (.ref a), .val (.int (0 : Int32))] [(.ref o0)]))
  exact Run.retA hS (by first | exact Nat.le_refl _ | (rw [e247]; exact (Nat.le_of_eq (congrArg Array.size e247)))) X247 hx hret rfl rfl hlk (hb hby d23_14) (by first | (rw [e247]; exact ⟨rfl, N247, rfl⟩) | exact ⟨rfl, N247, rfl⟩) (by decide) (by decide)
set_option maxRecDepth 65536 in
set_option maxHeartbeats 40000000 in
theorem rmE_03 (l : Launch) (Z : State) (a0 : Array Value) (hw : ∀ d ∈ tables_1, d.before a0 Z = true) (a : Addr) (eb : Addr) (kb : ClassId) (o0 : Addr) (o1 : Addr) (o2 : Addr) (h0 : Heap) (n0 : Nat) (Z0 : n0 ≤ h0.size) (E_a : Exa Z h0 a "java/util/ArrayList") (FE : Fld Z h0 a "java/util/ArrayList" "elementData" "[Ljava/lang/Object;" (.ref eb)) (AB : Arv Z h0 eb kb (.object "java/lang/Object") 10 [(.ref o0), (.ref o1), (.ref o2), .null, .null, .null, .null, .null, .null, .null] .null) :
    Con l (⟨"java/util/ArrayList", "elementData", "(I)Ljava/lang/Object;"⟩ : MethodName) jdk_38_method_18_code 2 (some (.object "java/lang/Object")) ({ frames := 0, cells := 0, slots := 0, locals := 0 } : Room) Z #[(.ref a), (.int (0 : Int32))] h0 (fun _ => True) (fun v h L vm => v = some (.ref o0) ∧ Fr n0 L ∧ h = h0) := by
  refine Con.mk (plainFor_of_name pn_26) (fun m => show entryFrame m #[(.ref a), (.int (0 : Int32))] 2 = mkF m 0 #[.val (.ref a), .val (.int (0 : Int32))] [] by first | (simp [entryFrame, mkF, argsToLocals, Value.category]; done) | rfl) ?_
  intro p e s m below meth c s₁ vm0 hx hby hml hown hnm hret hlk hZ X0 e0 hS hs0 hP0
  have N0 := Fr.nil n0
  show Run p e below s _ _ _ (s₁.setTop (mkF m 0 #[.val (.ref a), .val (.int (0 : Int32))] []))
  refine Run.pre (fun _ k => XS.aloadN X0.here hx rfl (hb hby d26_0) rfl rfl k) ?_
  show Run p e below s _ _ _ (s₁.setTop (mkF m 1 #[.val (.ref a), .val (.int (0 : Int32))] [(.ref a)]))
  obtain ⟨T248, X248, e248, st248⟩ := getF X0 hx hZ hown (host := "") (Or.inl (hw _ (List.mem_of_getElem? (i := 48) rfl))) Via.refl e0 FE (g := (mkF m 1 #[.val (.ref a), .val (.int (0 : Int32))] [(.ref a)])) rfl rfl (hb hby d26_1)
  refine Run.pre st248 ?_
  show Run p e below s _ _ _ (T248.setTop (mkF m 4 #[.val (.ref a), .val (.int (0 : Int32))] [(.ref eb)]))
  refine Run.pre (fun _ k => XS.iloadN X248.here hx rfl (hb hby d26_4) rfl  k) ?_
  show Run p e below s _ _ _ (T248.setTop (mkF m 5 #[.val (.ref a), .val (.int (0 : Int32))] [(.int (0 : Int32)), (.ref eb)]))
  obtain ⟨c249, Ar249, -, S249, N249, H249, -⟩ := id AB
  have hin249 : ¬ ((0 : Int32) < 0 ∨ c249.slots.size ≤ ((0 : Int32)).toNatClampNeg) := inb_of S249 ⟨by decide, by decide⟩
  refine Run.pre (X248.aaload hx (j := (0 : Int32)) (v := (.ref o0)) (by rw [e248]; exact Ar249.1) (State.isArrayOf_alike hZ.alike Ar249.2.1) rfl Ar249.2.2 hin249 (H249.at hin249 rfl) (g := (mkF m 5 #[.val (.ref a), .val (.int (0 : Int32))] [(.int (0 : Int32)), (.ref eb)])) rfl rfl (hb hby d26_5)) ?_
  show Run p e below s _ _ _ (T248.setTop (mkF m 6 #[.val (.ref a), .val (.int (0 : Int32))] [(.ref o0)]))
  exact Run.retA hS (by first | exact Nat.le_refl _ | (rw [e248]; exact (Nat.zero_le _))) X248 hx hret rfl rfl hlk (hb hby d26_6) (by first | (rw [e248]; exact ⟨rfl, N0, rfl⟩) | exact ⟨rfl, N0, rfl⟩) (by decide) (by decide)
set_option maxRecDepth 65536 in
set_option maxHeartbeats 40000000 in
theorem rmGt_03 (l : Launch) (Z : State) (a0 : Array Value) (hw : ∀ d ∈ tables_1, d.before a0 Z = true) (a : Addr) (eb : Addr) (kb : ClassId) (o0 : Addr) (o1 : Addr) (o2 : Addr) (h0 : Heap) (n0 : Nat) (Z0 : n0 ≤ h0.size) (E_a : Exa Z h0 a "java/util/ArrayList") (FE : Fld Z h0 a "java/util/ArrayList" "elementData" "[Ljava/lang/Object;" (.ref eb)) (AB : Arv Z h0 eb kb (.object "java/lang/Object") 10 [(.ref o0), (.ref o1), (.ref o2), .null, .null, .null, .null, .null, .null, .null] .null) (FS : Fld Z h0 a "java/util/ArrayList" "size" "I" (.int 3)) :
    Con l (⟨"java/util/ArrayList", "get", "(I)Ljava/lang/Object;"⟩ : MethodName) jdk_38_method_20_code 2 (some (.object "java/lang/Object")) ({ frames := 2, cells := 0, slots := 0, locals := 27 } : Room) Z #[(.ref a), (.int (0 : Int32))] h0 (fun _ => True) (fun v h L vm => v = some (.ref o0) ∧ Fr n0 L ∧ h = h0) := by
  refine Con.mk (plainFor_of_name pn_23) (fun m => show entryFrame m #[(.ref a), (.int (0 : Int32))] 2 = mkF m 0 #[.val (.ref a), .val (.int (0 : Int32))] [] by first | (simp [entryFrame, mkF, argsToLocals, Value.category]; done) | rfl) ?_
  intro p e s m below meth c s₁ vm0 hx hby hml hown hnm hret hlk hZ X0 e0 hS hs0 hP0
  have N0 := Fr.nil n0
  show Run p e below s _ _ _ (s₁.setTop (mkF m 0 #[.val (.ref a), .val (.int (0 : Int32))] []))
  refine Run.pre (fun _ k => XS.iloadN X0.here hx rfl (hb hby d23_0) rfl  k) ?_
  show Run p e below s _ _ _ (s₁.setTop (mkF m 1 #[.val (.ref a), .val (.int (0 : Int32))] [(.int (0 : Int32))]))
  refine Run.pre (fun _ k => XS.aloadN X0.here hx rfl (hb hby d23_1) rfl rfl k) ?_
  show Run p e below s _ _ _ (s₁.setTop (mkF m 2 #[.val (.ref a), .val (.int (0 : Int32))] [(.ref a), (.int (0 : Int32))]))
  obtain ⟨T250, X250, e250, st250⟩ := getF X0 hx hZ hown (host := "") (Or.inl (hw _ (List.mem_of_getElem? (i := 114) rfl))) Via.refl e0 FS (g := (mkF m 2 #[.val (.ref a), .val (.int (0 : Int32))] [(.ref a), (.int (0 : Int32))])) rfl rfl (hb hby d23_2)
  refine Run.pre st250 ?_
  show Run p e below s _ _ _ (T250.setTop (mkF m 5 #[.val (.ref a), .val (.int (0 : Int32))] [(.int (3 : Int32)), (.int (0 : Int32))]))
  refine Run.callS hS (by first | exact Nat.le_refl _ | (rw [e250]; exact (Nat.zero_le _))) X250 hx hZ (y := (⟨"java/util/Objects", "checkIndex", "(II)I"⟩ : MethodName)) hown (hw _ (List.mem_of_getElem? (i := 153) rfl)) (hw _ (List.mem_of_getElem? (i := 154) rfl)) (hw _ (List.mem_of_getElem? (i := 155) rfl)) (hw _ (List.mem_of_getElem? (i := 156) rfl)) (by decide) (W := 0) (rmChk l Z a0 hw 0 3 h0 n0 (Nat.le_trans Z0 (Keep.refl h0 []).1) (by decide) (by decide)) e250 (by decide) (by decide) (by decide) (by decide) (fun _ _ => trivial) (g := (mkF m 5 #[.val (.ref a), .val (.int (0 : Int32))] [(.int (3 : Int32)), (.int (0 : Int32))])) rfl (by rw [hml]; rfl) (argsL := [(.int (0 : Int32)), (.int (3 : Int32))]) (rest := []) (lenOf pd_6 rfl) rfl (by show 2 * 0 + _ ≤ _; exact Nat.le_of_eq rfl) (hb hby d23_5) ?_
  intro v251 T251 L251 X251 hS hZ hown hV251 hQ251
  obtain ⟨rfl, Nq251, he251⟩ := hQ251
  have N251 := Fr.app N0 Nq251
  have e251 : T251.heap = h0 := he251
  show Run p e below s _ _ _ (T251.setTop (mkF m 8 #[.val (.ref a), .val (.int (0 : Int32))] [(.int (0 : Int32))]))
  refine Run.pre (fun _ k => XS.pop X251.here hx rfl (hb hby d23_8) rfl rfl k) ?_
  show Run p e below s _ _ _ (T251.setTop (mkF m 9 #[.val (.ref a), .val (.int (0 : Int32))] []))
  refine Run.pre (fun _ k => XS.aloadN X251.here hx rfl (hb hby d23_9) rfl rfl k) ?_
  show Run p e below s _ _ _ (T251.setTop (mkF m 10 #[.val (.ref a), .val (.int (0 : Int32))] [(.ref a)]))
  refine Run.pre (fun _ k => XS.iloadN X251.here hx rfl (hb hby d23_10) rfl  k) ?_
  show Run p e below s _ _ _ (T251.setTop (mkF m 11 #[.val (.ref a), .val (.int (0 : Int32))] [(.int (0 : Int32)), (.ref a)]))
  refine Run.callV hS (by first | exact Nat.le_refl _ | (rw [e251]; exact (Nat.le_of_eq (congrArg Array.size e251)))) X251 hx hZ (y := (⟨"java/util/ArrayList", "elementData", "(I)Ljava/lang/Object;"⟩ : MethodName)) (z := (⟨"java/util/ArrayList", "elementData", "(I)Ljava/lang/Object;"⟩ : MethodName)) hown (hw _ (List.mem_of_getElem? (i := 161) rfl)) (hw _ (List.mem_of_getElem? (i := 162) rfl)) (notFace_of_selects (args := #[]) (mvT hZ (hw _ (List.mem_of_getElem? (i := 164) rfl)))) (hw _ (List.mem_of_getElem? (i := 164) rfl)) (hw _ (List.mem_of_getElem? (i := 163) rfl)) (hw _ (List.mem_of_getElem? (i := 165) rfl)) (hw _ (List.mem_of_getElem? (i := 28) rfl)) (by decide) (b := a) E_a (W := 0) (rmE_03 l Z a0 hw a eb kb o0 o1 o2 h0 n0 (Nat.le_trans Z0 (Keep.refl h0 []).1) E_a FE AB) e251 (by decide) (by decide) (by decide) (by decide) (fun _ _ => trivial) (g := (mkF m 11 #[.val (.ref a), .val (.int (0 : Int32))] [(.int (0 : Int32)), (.ref a)])) rfl (by rw [hml]; rfl) (argsL := [(.int (0 : Int32))]) (rest := []) (lenOf pd_11 rfl) rfl (by show 2 * 0 + _ ≤ _; exact Nat.le_of_eq rfl) (hb hby d23_11) ?_
  intro v252 T252 L252 X252 hS hZ hown hV252 hQ252
  obtain ⟨rfl, Nq252, he252⟩ := hQ252
  have N252 := Fr.app N251 Nq252
  have e252 : T252.heap = h0 := he252
  show Run p e below s _ _ _ (T252.setTop (mkF m 14 #[.val (.ref a), .val (.int (0 : Int32))] [(.ref o0)]))
  exact Run.retA hS (by first | exact Nat.le_refl _ | (rw [e252]; exact (Nat.le_of_eq (congrArg Array.size e252)))) X252 hx hret rfl rfl hlk (hb hby d23_14) (by first | (rw [e252]; exact ⟨rfl, N252, rfl⟩) | exact ⟨rfl, N252, rfl⟩) (by decide) (by decide)
set_option maxRecDepth 65536 in
set_option maxHeartbeats 40000000 in
theorem rmE_12 (l : Launch) (Z : State) (a0 : Array Value) (hw : ∀ d ∈ tables_1, d.before a0 Z = true) (a : Addr) (eb : Addr) (kb : ClassId) (o0 : Addr) (o1 : Addr) (h0 : Heap) (n0 : Nat) (Z0 : n0 ≤ h0.size) (E_a : Exa Z h0 a "java/util/ArrayList") (FE : Fld Z h0 a "java/util/ArrayList" "elementData" "[Ljava/lang/Object;" (.ref eb)) (AB : Arv Z h0 eb kb (.object "java/lang/Object") 10 [(.ref o0), (.ref o1), .null, .null, .null, .null, .null, .null, .null, .null] .null) :
    Con l (⟨"java/util/ArrayList", "elementData", "(I)Ljava/lang/Object;"⟩ : MethodName) jdk_38_method_18_code 2 (some (.object "java/lang/Object")) ({ frames := 0, cells := 0, slots := 0, locals := 0 } : Room) Z #[(.ref a), (.int (1 : Int32))] h0 (fun _ => True) (fun v h L vm => v = some (.ref o1) ∧ Fr n0 L ∧ h = h0) := by
  refine Con.mk (plainFor_of_name pn_26) (fun m => show entryFrame m #[(.ref a), (.int (1 : Int32))] 2 = mkF m 0 #[.val (.ref a), .val (.int (1 : Int32))] [] by first | (simp [entryFrame, mkF, argsToLocals, Value.category]; done) | rfl) ?_
  intro p e s m below meth c s₁ vm0 hx hby hml hown hnm hret hlk hZ X0 e0 hS hs0 hP0
  have N0 := Fr.nil n0
  show Run p e below s _ _ _ (s₁.setTop (mkF m 0 #[.val (.ref a), .val (.int (1 : Int32))] []))
  refine Run.pre (fun _ k => XS.aloadN X0.here hx rfl (hb hby d26_0) rfl rfl k) ?_
  show Run p e below s _ _ _ (s₁.setTop (mkF m 1 #[.val (.ref a), .val (.int (1 : Int32))] [(.ref a)]))
  obtain ⟨T253, X253, e253, st253⟩ := getF X0 hx hZ hown (host := "") (Or.inl (hw _ (List.mem_of_getElem? (i := 48) rfl))) Via.refl e0 FE (g := (mkF m 1 #[.val (.ref a), .val (.int (1 : Int32))] [(.ref a)])) rfl rfl (hb hby d26_1)
  refine Run.pre st253 ?_
  show Run p e below s _ _ _ (T253.setTop (mkF m 4 #[.val (.ref a), .val (.int (1 : Int32))] [(.ref eb)]))
  refine Run.pre (fun _ k => XS.iloadN X253.here hx rfl (hb hby d26_4) rfl  k) ?_
  show Run p e below s _ _ _ (T253.setTop (mkF m 5 #[.val (.ref a), .val (.int (1 : Int32))] [(.int (1 : Int32)), (.ref eb)]))
  obtain ⟨c254, Ar254, -, S254, N254, H254, -⟩ := id AB
  have hin254 : ¬ ((1 : Int32) < 0 ∨ c254.slots.size ≤ ((1 : Int32)).toNatClampNeg) := inb_of S254 ⟨by decide, by decide⟩
  refine Run.pre (X253.aaload hx (j := (1 : Int32)) (v := (.ref o1)) (by rw [e253]; exact Ar254.1) (State.isArrayOf_alike hZ.alike Ar254.2.1) rfl Ar254.2.2 hin254 (H254.at hin254 rfl) (g := (mkF m 5 #[.val (.ref a), .val (.int (1 : Int32))] [(.int (1 : Int32)), (.ref eb)])) rfl rfl (hb hby d26_5)) ?_
  show Run p e below s _ _ _ (T253.setTop (mkF m 6 #[.val (.ref a), .val (.int (1 : Int32))] [(.ref o1)]))
  exact Run.retA hS (by first | exact Nat.le_refl _ | (rw [e253]; exact (Nat.zero_le _))) X253 hx hret rfl rfl hlk (hb hby d26_6) (by first | (rw [e253]; exact ⟨rfl, N0, rfl⟩) | exact ⟨rfl, N0, rfl⟩) (by decide) (by decide)
set_option maxRecDepth 65536 in
set_option maxHeartbeats 40000000 in
theorem rmGt_12 (l : Launch) (Z : State) (a0 : Array Value) (hw : ∀ d ∈ tables_1, d.before a0 Z = true) (a : Addr) (eb : Addr) (kb : ClassId) (o0 : Addr) (o1 : Addr) (h0 : Heap) (n0 : Nat) (Z0 : n0 ≤ h0.size) (E_a : Exa Z h0 a "java/util/ArrayList") (FE : Fld Z h0 a "java/util/ArrayList" "elementData" "[Ljava/lang/Object;" (.ref eb)) (AB : Arv Z h0 eb kb (.object "java/lang/Object") 10 [(.ref o0), (.ref o1), .null, .null, .null, .null, .null, .null, .null, .null] .null) (FS : Fld Z h0 a "java/util/ArrayList" "size" "I" (.int 2)) :
    Con l (⟨"java/util/ArrayList", "get", "(I)Ljava/lang/Object;"⟩ : MethodName) jdk_38_method_20_code 2 (some (.object "java/lang/Object")) ({ frames := 2, cells := 0, slots := 0, locals := 27 } : Room) Z #[(.ref a), (.int (1 : Int32))] h0 (fun _ => True) (fun v h L vm => v = some (.ref o1) ∧ Fr n0 L ∧ h = h0) := by
  refine Con.mk (plainFor_of_name pn_23) (fun m => show entryFrame m #[(.ref a), (.int (1 : Int32))] 2 = mkF m 0 #[.val (.ref a), .val (.int (1 : Int32))] [] by first | (simp [entryFrame, mkF, argsToLocals, Value.category]; done) | rfl) ?_
  intro p e s m below meth c s₁ vm0 hx hby hml hown hnm hret hlk hZ X0 e0 hS hs0 hP0
  have N0 := Fr.nil n0
  show Run p e below s _ _ _ (s₁.setTop (mkF m 0 #[.val (.ref a), .val (.int (1 : Int32))] []))
  refine Run.pre (fun _ k => XS.iloadN X0.here hx rfl (hb hby d23_0) rfl  k) ?_
  show Run p e below s _ _ _ (s₁.setTop (mkF m 1 #[.val (.ref a), .val (.int (1 : Int32))] [(.int (1 : Int32))]))
  refine Run.pre (fun _ k => XS.aloadN X0.here hx rfl (hb hby d23_1) rfl rfl k) ?_
  show Run p e below s _ _ _ (s₁.setTop (mkF m 2 #[.val (.ref a), .val (.int (1 : Int32))] [(.ref a), (.int (1 : Int32))]))
  obtain ⟨T255, X255, e255, st255⟩ := getF X0 hx hZ hown (host := "") (Or.inl (hw _ (List.mem_of_getElem? (i := 114) rfl))) Via.refl e0 FS (g := (mkF m 2 #[.val (.ref a), .val (.int (1 : Int32))] [(.ref a), (.int (1 : Int32))])) rfl rfl (hb hby d23_2)
  refine Run.pre st255 ?_
  show Run p e below s _ _ _ (T255.setTop (mkF m 5 #[.val (.ref a), .val (.int (1 : Int32))] [(.int (2 : Int32)), (.int (1 : Int32))]))
  refine Run.callS hS (by first | exact Nat.le_refl _ | (rw [e255]; exact (Nat.zero_le _))) X255 hx hZ (y := (⟨"java/util/Objects", "checkIndex", "(II)I"⟩ : MethodName)) hown (hw _ (List.mem_of_getElem? (i := 153) rfl)) (hw _ (List.mem_of_getElem? (i := 154) rfl)) (hw _ (List.mem_of_getElem? (i := 155) rfl)) (hw _ (List.mem_of_getElem? (i := 156) rfl)) (by decide) (W := 0) (rmChk l Z a0 hw 1 2 h0 n0 (Nat.le_trans Z0 (Keep.refl h0 []).1) (by decide) (by decide)) e255 (by decide) (by decide) (by decide) (by decide) (fun _ _ => trivial) (g := (mkF m 5 #[.val (.ref a), .val (.int (1 : Int32))] [(.int (2 : Int32)), (.int (1 : Int32))])) rfl (by rw [hml]; rfl) (argsL := [(.int (1 : Int32)), (.int (2 : Int32))]) (rest := []) (lenOf pd_6 rfl) rfl (by show 2 * 0 + _ ≤ _; exact Nat.le_of_eq rfl) (hb hby d23_5) ?_
  intro v256 T256 L256 X256 hS hZ hown hV256 hQ256
  obtain ⟨rfl, Nq256, he256⟩ := hQ256
  have N256 := Fr.app N0 Nq256
  have e256 : T256.heap = h0 := he256
  show Run p e below s _ _ _ (T256.setTop (mkF m 8 #[.val (.ref a), .val (.int (1 : Int32))] [(.int (1 : Int32))]))
  refine Run.pre (fun _ k => XS.pop X256.here hx rfl (hb hby d23_8) rfl rfl k) ?_
  show Run p e below s _ _ _ (T256.setTop (mkF m 9 #[.val (.ref a), .val (.int (1 : Int32))] []))
  refine Run.pre (fun _ k => XS.aloadN X256.here hx rfl (hb hby d23_9) rfl rfl k) ?_
  show Run p e below s _ _ _ (T256.setTop (mkF m 10 #[.val (.ref a), .val (.int (1 : Int32))] [(.ref a)]))
  refine Run.pre (fun _ k => XS.iloadN X256.here hx rfl (hb hby d23_10) rfl  k) ?_
  show Run p e below s _ _ _ (T256.setTop (mkF m 11 #[.val (.ref a), .val (.int (1 : Int32))] [(.int (1 : Int32)), (.ref a)]))
  refine Run.callV hS (by first | exact Nat.le_refl _ | (rw [e256]; exact (Nat.le_of_eq (congrArg Array.size e256)))) X256 hx hZ (y := (⟨"java/util/ArrayList", "elementData", "(I)Ljava/lang/Object;"⟩ : MethodName)) (z := (⟨"java/util/ArrayList", "elementData", "(I)Ljava/lang/Object;"⟩ : MethodName)) hown (hw _ (List.mem_of_getElem? (i := 161) rfl)) (hw _ (List.mem_of_getElem? (i := 162) rfl)) (notFace_of_selects (args := #[]) (mvT hZ (hw _ (List.mem_of_getElem? (i := 164) rfl)))) (hw _ (List.mem_of_getElem? (i := 164) rfl)) (hw _ (List.mem_of_getElem? (i := 163) rfl)) (hw _ (List.mem_of_getElem? (i := 165) rfl)) (hw _ (List.mem_of_getElem? (i := 28) rfl)) (by decide) (b := a) E_a (W := 0) (rmE_12 l Z a0 hw a eb kb o0 o1 h0 n0 (Nat.le_trans Z0 (Keep.refl h0 []).1) E_a FE AB) e256 (by decide) (by decide) (by decide) (by decide) (fun _ _ => trivial) (g := (mkF m 11 #[.val (.ref a), .val (.int (1 : Int32))] [(.int (1 : Int32)), (.ref a)])) rfl (by rw [hml]; rfl) (argsL := [(.int (1 : Int32))]) (rest := []) (lenOf pd_11 rfl) rfl (by show 2 * 0 + _ ≤ _; exact Nat.le_of_eq rfl) (hb hby d23_11) ?_
  intro v257 T257 L257 X257 hS hZ hown hV257 hQ257
  obtain ⟨rfl, Nq257, he257⟩ := hQ257
  have N257 := Fr.app N256 Nq257
  have e257 : T257.heap = h0 := he257
  show Run p e below s _ _ _ (T257.setTop (mkF m 14 #[.val (.ref a), .val (.int (1 : Int32))] [(.ref o1)]))
  exact Run.retA hS (by first | exact Nat.le_refl _ | (rw [e257]; exact (Nat.le_of_eq (congrArg Array.size e257)))) X257 hx hret rfl rfl hlk (hb hby d23_14) (by first | (rw [e257]; exact ⟨rfl, N257, rfl⟩) | exact ⟨rfl, N257, rfl⟩) (by decide) (by decide)
set_option maxRecDepth 65536 in
set_option maxHeartbeats 40000000 in
theorem rmE_13 (l : Launch) (Z : State) (a0 : Array Value) (hw : ∀ d ∈ tables_1, d.before a0 Z = true) (a : Addr) (eb : Addr) (kb : ClassId) (o0 : Addr) (o1 : Addr) (o2 : Addr) (h0 : Heap) (n0 : Nat) (Z0 : n0 ≤ h0.size) (E_a : Exa Z h0 a "java/util/ArrayList") (FE : Fld Z h0 a "java/util/ArrayList" "elementData" "[Ljava/lang/Object;" (.ref eb)) (AB : Arv Z h0 eb kb (.object "java/lang/Object") 10 [(.ref o0), (.ref o1), (.ref o2), .null, .null, .null, .null, .null, .null, .null] .null) :
    Con l (⟨"java/util/ArrayList", "elementData", "(I)Ljava/lang/Object;"⟩ : MethodName) jdk_38_method_18_code 2 (some (.object "java/lang/Object")) ({ frames := 0, cells := 0, slots := 0, locals := 0 } : Room) Z #[(.ref a), (.int (1 : Int32))] h0 (fun _ => True) (fun v h L vm => v = some (.ref o1) ∧ Fr n0 L ∧ h = h0) := by
  refine Con.mk (plainFor_of_name pn_26) (fun m => show entryFrame m #[(.ref a), (.int (1 : Int32))] 2 = mkF m 0 #[.val (.ref a), .val (.int (1 : Int32))] [] by first | (simp [entryFrame, mkF, argsToLocals, Value.category]; done) | rfl) ?_
  intro p e s m below meth c s₁ vm0 hx hby hml hown hnm hret hlk hZ X0 e0 hS hs0 hP0
  have N0 := Fr.nil n0
  show Run p e below s _ _ _ (s₁.setTop (mkF m 0 #[.val (.ref a), .val (.int (1 : Int32))] []))
  refine Run.pre (fun _ k => XS.aloadN X0.here hx rfl (hb hby d26_0) rfl rfl k) ?_
  show Run p e below s _ _ _ (s₁.setTop (mkF m 1 #[.val (.ref a), .val (.int (1 : Int32))] [(.ref a)]))
  obtain ⟨T258, X258, e258, st258⟩ := getF X0 hx hZ hown (host := "") (Or.inl (hw _ (List.mem_of_getElem? (i := 48) rfl))) Via.refl e0 FE (g := (mkF m 1 #[.val (.ref a), .val (.int (1 : Int32))] [(.ref a)])) rfl rfl (hb hby d26_1)
  refine Run.pre st258 ?_
  show Run p e below s _ _ _ (T258.setTop (mkF m 4 #[.val (.ref a), .val (.int (1 : Int32))] [(.ref eb)]))
  refine Run.pre (fun _ k => XS.iloadN X258.here hx rfl (hb hby d26_4) rfl  k) ?_
  show Run p e below s _ _ _ (T258.setTop (mkF m 5 #[.val (.ref a), .val (.int (1 : Int32))] [(.int (1 : Int32)), (.ref eb)]))
  obtain ⟨c259, Ar259, -, S259, N259, H259, -⟩ := id AB
  have hin259 : ¬ ((1 : Int32) < 0 ∨ c259.slots.size ≤ ((1 : Int32)).toNatClampNeg) := inb_of S259 ⟨by decide, by decide⟩
  refine Run.pre (X258.aaload hx (j := (1 : Int32)) (v := (.ref o1)) (by rw [e258]; exact Ar259.1) (State.isArrayOf_alike hZ.alike Ar259.2.1) rfl Ar259.2.2 hin259 (H259.at hin259 rfl) (g := (mkF m 5 #[.val (.ref a), .val (.int (1 : Int32))] [(.int (1 : Int32)), (.ref eb)])) rfl rfl (hb hby d26_5)) ?_
  show Run p e below s _ _ _ (T258.setTop (mkF m 6 #[.val (.ref a), .val (.int (1 : Int32))] [(.ref o1)]))
  exact Run.retA hS (by first | exact Nat.le_refl _ | (rw [e258]; exact (Nat.zero_le _))) X258 hx hret rfl rfl hlk (hb hby d26_6) (by first | (rw [e258]; exact ⟨rfl, N0, rfl⟩) | exact ⟨rfl, N0, rfl⟩) (by decide) (by decide)
set_option maxRecDepth 65536 in
set_option maxHeartbeats 40000000 in
theorem rmGt_13 (l : Launch) (Z : State) (a0 : Array Value) (hw : ∀ d ∈ tables_1, d.before a0 Z = true) (a : Addr) (eb : Addr) (kb : ClassId) (o0 : Addr) (o1 : Addr) (o2 : Addr) (h0 : Heap) (n0 : Nat) (Z0 : n0 ≤ h0.size) (E_a : Exa Z h0 a "java/util/ArrayList") (FE : Fld Z h0 a "java/util/ArrayList" "elementData" "[Ljava/lang/Object;" (.ref eb)) (AB : Arv Z h0 eb kb (.object "java/lang/Object") 10 [(.ref o0), (.ref o1), (.ref o2), .null, .null, .null, .null, .null, .null, .null] .null) (FS : Fld Z h0 a "java/util/ArrayList" "size" "I" (.int 3)) :
    Con l (⟨"java/util/ArrayList", "get", "(I)Ljava/lang/Object;"⟩ : MethodName) jdk_38_method_20_code 2 (some (.object "java/lang/Object")) ({ frames := 2, cells := 0, slots := 0, locals := 27 } : Room) Z #[(.ref a), (.int (1 : Int32))] h0 (fun _ => True) (fun v h L vm => v = some (.ref o1) ∧ Fr n0 L ∧ h = h0) := by
  refine Con.mk (plainFor_of_name pn_23) (fun m => show entryFrame m #[(.ref a), (.int (1 : Int32))] 2 = mkF m 0 #[.val (.ref a), .val (.int (1 : Int32))] [] by first | (simp [entryFrame, mkF, argsToLocals, Value.category]; done) | rfl) ?_
  intro p e s m below meth c s₁ vm0 hx hby hml hown hnm hret hlk hZ X0 e0 hS hs0 hP0
  have N0 := Fr.nil n0
  show Run p e below s _ _ _ (s₁.setTop (mkF m 0 #[.val (.ref a), .val (.int (1 : Int32))] []))
  refine Run.pre (fun _ k => XS.iloadN X0.here hx rfl (hb hby d23_0) rfl  k) ?_
  show Run p e below s _ _ _ (s₁.setTop (mkF m 1 #[.val (.ref a), .val (.int (1 : Int32))] [(.int (1 : Int32))]))
  refine Run.pre (fun _ k => XS.aloadN X0.here hx rfl (hb hby d23_1) rfl rfl k) ?_
  show Run p e below s _ _ _ (s₁.setTop (mkF m 2 #[.val (.ref a), .val (.int (1 : Int32))] [(.ref a), (.int (1 : Int32))]))
  obtain ⟨T260, X260, e260, st260⟩ := getF X0 hx hZ hown (host := "") (Or.inl (hw _ (List.mem_of_getElem? (i := 114) rfl))) Via.refl e0 FS (g := (mkF m 2 #[.val (.ref a), .val (.int (1 : Int32))] [(.ref a), (.int (1 : Int32))])) rfl rfl (hb hby d23_2)
  refine Run.pre st260 ?_
  show Run p e below s _ _ _ (T260.setTop (mkF m 5 #[.val (.ref a), .val (.int (1 : Int32))] [(.int (3 : Int32)), (.int (1 : Int32))]))
  refine Run.callS hS (by first | exact Nat.le_refl _ | (rw [e260]; exact (Nat.zero_le _))) X260 hx hZ (y := (⟨"java/util/Objects", "checkIndex", "(II)I"⟩ : MethodName)) hown (hw _ (List.mem_of_getElem? (i := 153) rfl)) (hw _ (List.mem_of_getElem? (i := 154) rfl)) (hw _ (List.mem_of_getElem? (i := 155) rfl)) (hw _ (List.mem_of_getElem? (i := 156) rfl)) (by decide) (W := 0) (rmChk l Z a0 hw 1 3 h0 n0 (Nat.le_trans Z0 (Keep.refl h0 []).1) (by decide) (by decide)) e260 (by decide) (by decide) (by decide) (by decide) (fun _ _ => trivial) (g := (mkF m 5 #[.val (.ref a), .val (.int (1 : Int32))] [(.int (3 : Int32)), (.int (1 : Int32))])) rfl (by rw [hml]; rfl) (argsL := [(.int (1 : Int32)), (.int (3 : Int32))]) (rest := []) (lenOf pd_6 rfl) rfl (by show 2 * 0 + _ ≤ _; exact Nat.le_of_eq rfl) (hb hby d23_5) ?_
  intro v261 T261 L261 X261 hS hZ hown hV261 hQ261
  obtain ⟨rfl, Nq261, he261⟩ := hQ261
  have N261 := Fr.app N0 Nq261
  have e261 : T261.heap = h0 := he261
  show Run p e below s _ _ _ (T261.setTop (mkF m 8 #[.val (.ref a), .val (.int (1 : Int32))] [(.int (1 : Int32))]))
  refine Run.pre (fun _ k => XS.pop X261.here hx rfl (hb hby d23_8) rfl rfl k) ?_
  show Run p e below s _ _ _ (T261.setTop (mkF m 9 #[.val (.ref a), .val (.int (1 : Int32))] []))
  refine Run.pre (fun _ k => XS.aloadN X261.here hx rfl (hb hby d23_9) rfl rfl k) ?_
  show Run p e below s _ _ _ (T261.setTop (mkF m 10 #[.val (.ref a), .val (.int (1 : Int32))] [(.ref a)]))
  refine Run.pre (fun _ k => XS.iloadN X261.here hx rfl (hb hby d23_10) rfl  k) ?_
  show Run p e below s _ _ _ (T261.setTop (mkF m 11 #[.val (.ref a), .val (.int (1 : Int32))] [(.int (1 : Int32)), (.ref a)]))
  refine Run.callV hS (by first | exact Nat.le_refl _ | (rw [e261]; exact (Nat.le_of_eq (congrArg Array.size e261)))) X261 hx hZ (y := (⟨"java/util/ArrayList", "elementData", "(I)Ljava/lang/Object;"⟩ : MethodName)) (z := (⟨"java/util/ArrayList", "elementData", "(I)Ljava/lang/Object;"⟩ : MethodName)) hown (hw _ (List.mem_of_getElem? (i := 161) rfl)) (hw _ (List.mem_of_getElem? (i := 162) rfl)) (notFace_of_selects (args := #[]) (mvT hZ (hw _ (List.mem_of_getElem? (i := 164) rfl)))) (hw _ (List.mem_of_getElem? (i := 164) rfl)) (hw _ (List.mem_of_getElem? (i := 163) rfl)) (hw _ (List.mem_of_getElem? (i := 165) rfl)) (hw _ (List.mem_of_getElem? (i := 28) rfl)) (by decide) (b := a) E_a (W := 0) (rmE_13 l Z a0 hw a eb kb o0 o1 o2 h0 n0 (Nat.le_trans Z0 (Keep.refl h0 []).1) E_a FE AB) e261 (by decide) (by decide) (by decide) (by decide) (fun _ _ => trivial) (g := (mkF m 11 #[.val (.ref a), .val (.int (1 : Int32))] [(.int (1 : Int32)), (.ref a)])) rfl (by rw [hml]; rfl) (argsL := [(.int (1 : Int32))]) (rest := []) (lenOf pd_11 rfl) rfl (by show 2 * 0 + _ ≤ _; exact Nat.le_of_eq rfl) (hb hby d23_11) ?_
  intro v262 T262 L262 X262 hS hZ hown hV262 hQ262
  obtain ⟨rfl, Nq262, he262⟩ := hQ262
  have N262 := Fr.app N261 Nq262
  have e262 : T262.heap = h0 := he262
  show Run p e below s _ _ _ (T262.setTop (mkF m 14 #[.val (.ref a), .val (.int (1 : Int32))] [(.ref o1)]))
  exact Run.retA hS (by first | exact Nat.le_refl _ | (rw [e262]; exact (Nat.le_of_eq (congrArg Array.size e262)))) X262 hx hret rfl rfl hlk (hb hby d23_14) (by first | (rw [e262]; exact ⟨rfl, N262, rfl⟩) | exact ⟨rfl, N262, rfl⟩) (by decide) (by decide)
set_option maxRecDepth 65536 in
set_option maxHeartbeats 40000000 in
theorem rmE_23 (l : Launch) (Z : State) (a0 : Array Value) (hw : ∀ d ∈ tables_1, d.before a0 Z = true) (a : Addr) (eb : Addr) (kb : ClassId) (o0 : Addr) (o1 : Addr) (o2 : Addr) (h0 : Heap) (n0 : Nat) (Z0 : n0 ≤ h0.size) (E_a : Exa Z h0 a "java/util/ArrayList") (FE : Fld Z h0 a "java/util/ArrayList" "elementData" "[Ljava/lang/Object;" (.ref eb)) (AB : Arv Z h0 eb kb (.object "java/lang/Object") 10 [(.ref o0), (.ref o1), (.ref o2), .null, .null, .null, .null, .null, .null, .null] .null) :
    Con l (⟨"java/util/ArrayList", "elementData", "(I)Ljava/lang/Object;"⟩ : MethodName) jdk_38_method_18_code 2 (some (.object "java/lang/Object")) ({ frames := 0, cells := 0, slots := 0, locals := 0 } : Room) Z #[(.ref a), (.int (2 : Int32))] h0 (fun _ => True) (fun v h L vm => v = some (.ref o2) ∧ Fr n0 L ∧ h = h0) := by
  refine Con.mk (plainFor_of_name pn_26) (fun m => show entryFrame m #[(.ref a), (.int (2 : Int32))] 2 = mkF m 0 #[.val (.ref a), .val (.int (2 : Int32))] [] by first | (simp [entryFrame, mkF, argsToLocals, Value.category]; done) | rfl) ?_
  intro p e s m below meth c s₁ vm0 hx hby hml hown hnm hret hlk hZ X0 e0 hS hs0 hP0
  have N0 := Fr.nil n0
  show Run p e below s _ _ _ (s₁.setTop (mkF m 0 #[.val (.ref a), .val (.int (2 : Int32))] []))
  refine Run.pre (fun _ k => XS.aloadN X0.here hx rfl (hb hby d26_0) rfl rfl k) ?_
  show Run p e below s _ _ _ (s₁.setTop (mkF m 1 #[.val (.ref a), .val (.int (2 : Int32))] [(.ref a)]))
  obtain ⟨T263, X263, e263, st263⟩ := getF X0 hx hZ hown (host := "") (Or.inl (hw _ (List.mem_of_getElem? (i := 48) rfl))) Via.refl e0 FE (g := (mkF m 1 #[.val (.ref a), .val (.int (2 : Int32))] [(.ref a)])) rfl rfl (hb hby d26_1)
  refine Run.pre st263 ?_
  show Run p e below s _ _ _ (T263.setTop (mkF m 4 #[.val (.ref a), .val (.int (2 : Int32))] [(.ref eb)]))
  refine Run.pre (fun _ k => XS.iloadN X263.here hx rfl (hb hby d26_4) rfl  k) ?_
  show Run p e below s _ _ _ (T263.setTop (mkF m 5 #[.val (.ref a), .val (.int (2 : Int32))] [(.int (2 : Int32)), (.ref eb)]))
  obtain ⟨c264, Ar264, -, S264, N264, H264, -⟩ := id AB
  have hin264 : ¬ ((2 : Int32) < 0 ∨ c264.slots.size ≤ ((2 : Int32)).toNatClampNeg) := inb_of S264 ⟨by decide, by decide⟩
  refine Run.pre (X263.aaload hx (j := (2 : Int32)) (v := (.ref o2)) (by rw [e263]; exact Ar264.1) (State.isArrayOf_alike hZ.alike Ar264.2.1) rfl Ar264.2.2 hin264 (H264.at hin264 rfl) (g := (mkF m 5 #[.val (.ref a), .val (.int (2 : Int32))] [(.int (2 : Int32)), (.ref eb)])) rfl rfl (hb hby d26_5)) ?_
  show Run p e below s _ _ _ (T263.setTop (mkF m 6 #[.val (.ref a), .val (.int (2 : Int32))] [(.ref o2)]))
  exact Run.retA hS (by first | exact Nat.le_refl _ | (rw [e263]; exact (Nat.zero_le _))) X263 hx hret rfl rfl hlk (hb hby d26_6) (by first | (rw [e263]; exact ⟨rfl, N0, rfl⟩) | exact ⟨rfl, N0, rfl⟩) (by decide) (by decide)
set_option maxRecDepth 65536 in
set_option maxHeartbeats 40000000 in
theorem rmGt_23 (l : Launch) (Z : State) (a0 : Array Value) (hw : ∀ d ∈ tables_1, d.before a0 Z = true) (a : Addr) (eb : Addr) (kb : ClassId) (o0 : Addr) (o1 : Addr) (o2 : Addr) (h0 : Heap) (n0 : Nat) (Z0 : n0 ≤ h0.size) (E_a : Exa Z h0 a "java/util/ArrayList") (FE : Fld Z h0 a "java/util/ArrayList" "elementData" "[Ljava/lang/Object;" (.ref eb)) (AB : Arv Z h0 eb kb (.object "java/lang/Object") 10 [(.ref o0), (.ref o1), (.ref o2), .null, .null, .null, .null, .null, .null, .null] .null) (FS : Fld Z h0 a "java/util/ArrayList" "size" "I" (.int 3)) :
    Con l (⟨"java/util/ArrayList", "get", "(I)Ljava/lang/Object;"⟩ : MethodName) jdk_38_method_20_code 2 (some (.object "java/lang/Object")) ({ frames := 2, cells := 0, slots := 0, locals := 27 } : Room) Z #[(.ref a), (.int (2 : Int32))] h0 (fun _ => True) (fun v h L vm => v = some (.ref o2) ∧ Fr n0 L ∧ h = h0) := by
  refine Con.mk (plainFor_of_name pn_23) (fun m => show entryFrame m #[(.ref a), (.int (2 : Int32))] 2 = mkF m 0 #[.val (.ref a), .val (.int (2 : Int32))] [] by first | (simp [entryFrame, mkF, argsToLocals, Value.category]; done) | rfl) ?_
  intro p e s m below meth c s₁ vm0 hx hby hml hown hnm hret hlk hZ X0 e0 hS hs0 hP0
  have N0 := Fr.nil n0
  show Run p e below s _ _ _ (s₁.setTop (mkF m 0 #[.val (.ref a), .val (.int (2 : Int32))] []))
  refine Run.pre (fun _ k => XS.iloadN X0.here hx rfl (hb hby d23_0) rfl  k) ?_
  show Run p e below s _ _ _ (s₁.setTop (mkF m 1 #[.val (.ref a), .val (.int (2 : Int32))] [(.int (2 : Int32))]))
  refine Run.pre (fun _ k => XS.aloadN X0.here hx rfl (hb hby d23_1) rfl rfl k) ?_
  show Run p e below s _ _ _ (s₁.setTop (mkF m 2 #[.val (.ref a), .val (.int (2 : Int32))] [(.ref a), (.int (2 : Int32))]))
  obtain ⟨T265, X265, e265, st265⟩ := getF X0 hx hZ hown (host := "") (Or.inl (hw _ (List.mem_of_getElem? (i := 114) rfl))) Via.refl e0 FS (g := (mkF m 2 #[.val (.ref a), .val (.int (2 : Int32))] [(.ref a), (.int (2 : Int32))])) rfl rfl (hb hby d23_2)
  refine Run.pre st265 ?_
  show Run p e below s _ _ _ (T265.setTop (mkF m 5 #[.val (.ref a), .val (.int (2 : Int32))] [(.int (3 : Int32)), (.int (2 : Int32))]))
  refine Run.callS hS (by first | exact Nat.le_refl _ | (rw [e265]; exact (Nat.zero_le _))) X265 hx hZ (y := (⟨"java/util/Objects", "checkIndex", "(II)I"⟩ : MethodName)) hown (hw _ (List.mem_of_getElem? (i := 153) rfl)) (hw _ (List.mem_of_getElem? (i := 154) rfl)) (hw _ (List.mem_of_getElem? (i := 155) rfl)) (hw _ (List.mem_of_getElem? (i := 156) rfl)) (by decide) (W := 0) (rmChk l Z a0 hw 2 3 h0 n0 (Nat.le_trans Z0 (Keep.refl h0 []).1) (by decide) (by decide)) e265 (by decide) (by decide) (by decide) (by decide) (fun _ _ => trivial) (g := (mkF m 5 #[.val (.ref a), .val (.int (2 : Int32))] [(.int (3 : Int32)), (.int (2 : Int32))])) rfl (by rw [hml]; rfl) (argsL := [(.int (2 : Int32)), (.int (3 : Int32))]) (rest := []) (lenOf pd_6 rfl) rfl (by show 2 * 0 + _ ≤ _; exact Nat.le_of_eq rfl) (hb hby d23_5) ?_
  intro v266 T266 L266 X266 hS hZ hown hV266 hQ266
  obtain ⟨rfl, Nq266, he266⟩ := hQ266
  have N266 := Fr.app N0 Nq266
  have e266 : T266.heap = h0 := he266
  show Run p e below s _ _ _ (T266.setTop (mkF m 8 #[.val (.ref a), .val (.int (2 : Int32))] [(.int (2 : Int32))]))
  refine Run.pre (fun _ k => XS.pop X266.here hx rfl (hb hby d23_8) rfl rfl k) ?_
  show Run p e below s _ _ _ (T266.setTop (mkF m 9 #[.val (.ref a), .val (.int (2 : Int32))] []))
  refine Run.pre (fun _ k => XS.aloadN X266.here hx rfl (hb hby d23_9) rfl rfl k) ?_
  show Run p e below s _ _ _ (T266.setTop (mkF m 10 #[.val (.ref a), .val (.int (2 : Int32))] [(.ref a)]))
  refine Run.pre (fun _ k => XS.iloadN X266.here hx rfl (hb hby d23_10) rfl  k) ?_
  show Run p e below s _ _ _ (T266.setTop (mkF m 11 #[.val (.ref a), .val (.int (2 : Int32))] [(.int (2 : Int32)), (.ref a)]))
  refine Run.callV hS (by first | exact Nat.le_refl _ | (rw [e266]; exact (Nat.le_of_eq (congrArg Array.size e266)))) X266 hx hZ (y := (⟨"java/util/ArrayList", "elementData", "(I)Ljava/lang/Object;"⟩ : MethodName)) (z := (⟨"java/util/ArrayList", "elementData", "(I)Ljava/lang/Object;"⟩ : MethodName)) hown (hw _ (List.mem_of_getElem? (i := 161) rfl)) (hw _ (List.mem_of_getElem? (i := 162) rfl)) (notFace_of_selects (args := #[]) (mvT hZ (hw _ (List.mem_of_getElem? (i := 164) rfl)))) (hw _ (List.mem_of_getElem? (i := 164) rfl)) (hw _ (List.mem_of_getElem? (i := 163) rfl)) (hw _ (List.mem_of_getElem? (i := 165) rfl)) (hw _ (List.mem_of_getElem? (i := 28) rfl)) (by decide) (b := a) E_a (W := 0) (rmE_23 l Z a0 hw a eb kb o0 o1 o2 h0 n0 (Nat.le_trans Z0 (Keep.refl h0 []).1) E_a FE AB) e266 (by decide) (by decide) (by decide) (by decide) (fun _ _ => trivial) (g := (mkF m 11 #[.val (.ref a), .val (.int (2 : Int32))] [(.int (2 : Int32)), (.ref a)])) rfl (by rw [hml]; rfl) (argsL := [(.int (2 : Int32))]) (rest := []) (lenOf pd_11 rfl) rfl (by show 2 * 0 + _ ≤ _; exact Nat.le_of_eq rfl) (hb hby d23_11) ?_
  intro v267 T267 L267 X267 hS hZ hown hV267 hQ267
  obtain ⟨rfl, Nq267, he267⟩ := hQ267
  have N267 := Fr.app N266 Nq267
  have e267 : T267.heap = h0 := he267
  show Run p e below s _ _ _ (T267.setTop (mkF m 14 #[.val (.ref a), .val (.int (2 : Int32))] [(.ref o2)]))
  exact Run.retA hS (by first | exact Nat.le_refl _ | (rw [e267]; exact (Nat.le_of_eq (congrArg Array.size e267)))) X267 hx hret rfl rfl hlk (hb hby d23_14) (by first | (rw [e267]; exact ⟨rfl, N267, rfl⟩) | exact ⟨rfl, N267, rfl⟩) (by decide) (by decide)
theorem d9_0 : decode jdk_32_method_1_code 0 = .ok (.getstatic 1, 3) := by decide +kernel
theorem d9_3 : decode jdk_32_method_1_code 3 = .ok (.astore_n 0, 1) := by decide +kernel
theorem d9_4 : decode jdk_32_method_1_code 4 = .ok (.aload_n 0, 1) := by decide +kernel
theorem d9_5 : decode jdk_32_method_1_code 5 = .ok (.areturn, 1) := by decide +kernel
theorem pn_9 : plainName "java/util/Optional" = true := by first | (simp [plainName, overriddenIn]; done) | decide +kernel
set_option maxRecDepth 65536 in
set_option maxHeartbeats 40000000 in
theorem rmOE (l : Launch) (Z : State) (a0 : Array Value) (hw : ∀ d ∈ tables_1, d.before a0 Z = true) (we : Addr) (h0 : Heap) (n0 : Nat) (Z0 : n0 ≤ h0.size) (OL : Old Z n0 h0) (SE : Sta Z Z.heap "java/util/Optional" "EMPTY" "Ljava/util/Optional;" (.ref we)) :
    Con l (⟨"java/util/Optional", "empty", "()Ljava/util/Optional;"⟩ : MethodName) jdk_32_method_1_code 1 (some (.object "java/util/Optional")) ({ frames := 0, cells := 0, slots := 0, locals := 0 } : Room) Z #[] h0 (fun _ => True) (fun v h L vm => v = some (.ref we) ∧ Fr n0 L ∧ h = h0) := by
  refine Con.mk (plainFor_of_name pn_9) (fun m => show entryFrame m #[] 1 = mkF m 0 #[.unset] [] by first | (simp [entryFrame, mkF, argsToLocals, Value.category]; done) | rfl) ?_
  intro p e s m below meth c s₁ vm0 hx hby hml hown hnm hret hlk hZ X0 e0 hS hs0 hP0
  have N0 := Fr.nil n0
  show Run p e below s _ _ _ (s₁.setTop (mkF m 0 #[.unset] []))
  obtain ⟨T268, X268, e268, st268⟩ := getS2 X0 hx hZ hown (host := "") (Or.inl (hw _ (List.mem_of_getElem? (i := 60) rfl))) Via.refl e0 (SE.ext OL.2) (g := (mkF m 0 #[.unset] [])) rfl (hb hby d9_0)
  refine Run.pre st268 ?_
  show Run p e below s _ _ _ (T268.setTop (mkF m 3 #[.unset] [(.ref we)]))
  refine Run.pre (fun _ k => XS.astoreN X268.here hx rfl (hb hby d9_3) rfl rfl (l' := #[.val (.ref we)]) rfl k) ?_
  show Run p e below s _ _ _ (T268.setTop (mkF m 4 #[.val (.ref we)] []))
  refine Run.pre (fun _ k => XS.aloadN X268.here hx rfl (hb hby d9_4) rfl rfl k) ?_
  show Run p e below s _ _ _ (T268.setTop (mkF m 5 #[.val (.ref we)] [(.ref we)]))
  exact Run.retA hS (by first | exact Nat.le_refl _ | (rw [e268]; exact (Nat.zero_le _))) X268 hx hret rfl rfl hlk (hb hby d9_5) (by first | (rw [e268]; exact ⟨rfl, N0, rfl⟩) | exact ⟨rfl, N0, rfl⟩) (by decide) (by decide)
theorem d11_0 : decode jdk_30_method_1_code 0 = .ok (.aload_n 0, 1) := by decide +kernel
theorem d11_1 : decode jdk_30_method_1_code 1 = .ok (.invokespecial 1, 3) := by decide +kernel
theorem d11_4 : decode jdk_30_method_1_code 4 = .ok (.return_, 1) := by decide +kernel
theorem pn_11 : plainName "java/lang/Record" = true := by first | (simp [plainName, overriddenIn]; done) | decide +kernel
set_option maxRecDepth 65536 in
set_option maxHeartbeats 40000000 in
theorem rmRec (l : Launch) (Z : State) (a0 : Array Value) (hw : ∀ d ∈ tables_1, d.before a0 Z = true) (a : Addr) (h0 : Heap) (n0 : Nat) (Z0 : n0 ≤ h0.size) (E_a : Exa Z h0 a "com/example/portcullis/portcullis/http/GateDecision") :
    Con l (⟨"java/lang/Record", "<init>", "()V"⟩ : MethodName) jdk_30_method_1_code 1 none ({ frames := 1, cells := 0, slots := 0, locals := 12 } : Room) Z #[(.ref a)] h0 (fun _ => True) (fun v h L vm => v = none ∧ Fr n0 L ∧ h = h0) := by
  refine Con.mk (plainFor_of_name pn_11) (fun m => show entryFrame m #[(.ref a)] 1 = mkF m 0 #[.val (.ref a)] [] by first | (simp [entryFrame, mkF, argsToLocals, Value.category]; done) | rfl) ?_
  intro p e s m below meth c s₁ vm0 hx hby hml hown hnm hret hlk hZ X0 e0 hS hs0 hP0
  have N0 := Fr.nil n0
  show Run p e below s _ _ _ (s₁.setTop (mkF m 0 #[.val (.ref a)] []))
  refine Run.pre (fun _ k => XS.aloadN X0.here hx rfl (hb hby d11_0) rfl rfl k) ?_
  show Run p e below s _ _ _ (s₁.setTop (mkF m 1 #[.val (.ref a)] [(.ref a)]))
  obtain ⟨T269, X269, e269, st269⟩ := initO X0 hx hZ hown (hw _ (List.mem_of_getElem? (i := 69) rfl)) (hw _ (List.mem_of_getElem? (i := 16) rfl)) (hw _ (List.mem_of_getElem? (i := 17) rfl)) e0 (g := (mkF m 1 #[.val (.ref a)] [(.ref a)])) rfl (by rw [hml]; rfl) rfl (hb hby d11_1) (by decide) (W := 0) (by show 2 * 0 + _ ≤ _; exact Nat.le_of_eq rfl) (by decide)
  refine Run.pre st269 ?_
  show Run p e below s _ _ _ (T269.setTop (mkF m 4 #[.val (.ref a)] []))
  exact Run.retV hS (by first | exact Nat.le_refl _ | (rw [e269]; exact (Nat.zero_le _))) X269 hx hret hlk (hb hby d11_4) (by first | (rw [e269]; exact ⟨rfl, N0, rfl⟩) | exact ⟨rfl, N0, rfl⟩) (by decide) (by decide)
theorem d10_0 : decode prog_28_method_1_code 0 = .ok (.aload_n 0, 1) := by decide +kernel
theorem d10_1 : decode prog_28_method_1_code 1 = .ok (.invokespecial 1, 3) := by decide +kernel
theorem d10_4 : decode prog_28_method_1_code 4 = .ok (.aload_n 0, 1) := by decide +kernel
theorem d10_5 : decode prog_28_method_1_code 5 = .ok (.iload_n 1, 1) := by decide +kernel
theorem d10_6 : decode prog_28_method_1_code 6 = .ok (.putfield 7, 3) := by decide +kernel
theorem d10_9 : decode prog_28_method_1_code 9 = .ok (.aload_n 0, 1) := by decide +kernel
theorem d10_10 : decode prog_28_method_1_code 10 = .ok (.aload_n 2, 1) := by decide +kernel
theorem d10_11 : decode prog_28_method_1_code 11 = .ok (.putfield 13, 3) := by decide +kernel
theorem d10_14 : decode prog_28_method_1_code 14 = .ok (.aload_n 0, 1) := by decide +kernel
theorem d10_15 : decode prog_28_method_1_code 15 = .ok (.aload_n 3, 1) := by decide +kernel
theorem d10_16 : decode prog_28_method_1_code 16 = .ok (.putfield 17, 3) := by decide +kernel
theorem d10_19 : decode prog_28_method_1_code 19 = .ok (.aload_n 0, 1) := by decide +kernel
theorem d10_20 : decode prog_28_method_1_code 20 = .ok (.aload 4, 2) := by decide +kernel
theorem d10_22 : decode prog_28_method_1_code 22 = .ok (.putfield 20, 3) := by decide +kernel
theorem d10_25 : decode prog_28_method_1_code 25 = .ok (.return_, 1) := by decide +kernel
theorem pn_10 : plainName "com/example/portcullis/portcullis/http/GateDecision" = true := by first | (simp [plainName, overriddenIn]; done) | decide +kernel
set_option maxRecDepth 65536 in
set_option maxHeartbeats 40000000 in
theorem rmGI (l : Launch) (Z : State) (a0 : Array Value) (hw : ∀ d ∈ tables_1, d.before a0 Z = true) (a : Addr) (we : Addr) (lst : Addr) (h0 : Heap) (n0 : Nat) (Z0 : n0 ≤ h0.size) (E_a : Exa Z h0 a "com/example/portcullis/portcullis/http/GateDecision") (F0 : Fld Z h0 a "com/example/portcullis/portcullis/http/GateDecision" "status" "I" (.int 0)) (F1 : Fld Z h0 a "com/example/portcullis/portcullis/http/GateDecision" "identity" "Ljava/util/Optional;" .null) (F2 : Fld Z h0 a "com/example/portcullis/portcullis/http/GateDecision" "mechanism" "Ljava/util/Optional;" .null) (F3 : Fld Z h0 a "com/example/portcullis/portcullis/http/GateDecision" "challenges" "Ljava/util/List;" .null) (g_a : n0 ≤ a) :
    Con l (⟨"com/example/portcullis/portcullis/http/GateDecision", "<init>", "(ILjava/util/Optional;Ljava/util/Optional;Ljava/util/List;)V"⟩ : MethodName) prog_28_method_1_code 5 none ({ frames := 2, cells := 0, slots := 0, locals := 24 } : Room) Z #[(.ref a), (.int (401 : Int32)), (.ref we), (.ref we), (.ref lst)] h0 (fun _ => True) (fun v h L vm => v = none ∧ Fr n0 L ∧ Keep h0 h [a] ∧ Fld Z h a "com/example/portcullis/portcullis/http/GateDecision" "status" "I" (.int 401) ∧ Fld Z h a "com/example/portcullis/portcullis/http/GateDecision" "identity" "Ljava/util/Optional;" (.ref we) ∧ Fld Z h a "com/example/portcullis/portcullis/http/GateDecision" "mechanism" "Ljava/util/Optional;" (.ref we) ∧ Fld Z h a "com/example/portcullis/portcullis/http/GateDecision" "challenges" "Ljava/util/List;" (.ref lst)) := by
  refine Con.mk (plainFor_of_name pn_10) (fun m => show entryFrame m #[(.ref a), (.int (401 : Int32)), (.ref we), (.ref we), (.ref lst)] 5 = mkF m 0 #[.val (.ref a), .val (.int (401 : Int32)), .val (.ref we), .val (.ref we), .val (.ref lst)] [] by first | (simp [entryFrame, mkF, argsToLocals, Value.category]; done) | rfl) ?_
  intro p e s m below meth c s₁ vm0 hx hby hml hown hnm hret hlk hZ X0 e0 hS hs0 hP0
  have N0 := Fr.nil n0
  show Run p e below s _ _ _ (s₁.setTop (mkF m 0 #[.val (.ref a), .val (.int (401 : Int32)), .val (.ref we), .val (.ref we), .val (.ref lst)] []))
  refine Run.pre (fun _ k => XS.aloadN X0.here hx rfl (hb hby d10_0) rfl rfl k) ?_
  show Run p e below s _ _ _ (s₁.setTop (mkF m 1 #[.val (.ref a), .val (.int (401 : Int32)), .val (.ref we), .val (.ref we), .val (.ref lst)] [(.ref a)]))
  refine Run.callI hS (by first | exact Nat.le_refl _ | (rw [e0]; exact (Nat.zero_le _))) X0 hx hZ (y := (⟨"java/lang/Record", "<init>", "()V"⟩ : MethodName)) rfl hown (hw _ (List.mem_of_getElem? (i := 64) rfl)) (hw _ (List.mem_of_getElem? (i := 65) rfl)) (hw _ (List.mem_of_getElem? (i := 68) rfl)) (hw _ (List.mem_of_getElem? (i := 67) rfl)) (by decide) (a := a) (W := 0) (rmRec l Z a0 hw a h0 n0 (Nat.le_trans Z0 (Keep.refl h0 [a]).1) E_a) e0 (by decide) (by decide) (by decide) (by decide) (fun _ _ => trivial) (g := (mkF m 1 #[.val (.ref a), .val (.int (401 : Int32)), .val (.ref we), .val (.ref we), .val (.ref lst)] [(.ref a)])) rfl (by rw [hml]; rfl) (argsL := []) (rest := []) (lenOf pd_5 rfl) rfl (by show 2 * 0 + _ ≤ _; exact Nat.le_of_eq rfl) (hb hby d10_1) ?_
  intro v270 T270 L270 X270 hS hZ hown hV270 hQ270
  obtain ⟨rfl, Nq270, he270⟩ := hQ270
  have N270 := Fr.app N0 Nq270
  have e270 : T270.heap = h0 := he270
  show Run p e below s _ _ _ (T270.setTop (mkF m 4 #[.val (.ref a), .val (.int (401 : Int32)), .val (.ref we), .val (.ref we), .val (.ref lst)] []))
  refine Run.pre (fun _ k => XS.aloadN X270.here hx rfl (hb hby d10_4) rfl rfl k) ?_
  show Run p e below s _ _ _ (T270.setTop (mkF m 5 #[.val (.ref a), .val (.int (401 : Int32)), .val (.ref we), .val (.ref we), .val (.ref lst)] [(.ref a)]))
  refine Run.pre (fun _ k => XS.iloadN X270.here hx rfl (hb hby d10_5) rfl  k) ?_
  show Run p e below s _ _ _ (T270.setTop (mkF m 6 #[.val (.ref a), .val (.int (401 : Int32)), .val (.ref we), .val (.ref we), .val (.ref lst)] [(.int (401 : Int32)), (.ref a)]))
  obtain ⟨T271, h271, X271, e271, W271, st271⟩ := putF X270 hx hZ hown (host := "") (Or.inl (hw _ (List.mem_of_getElem? (i := 70) rfl))) Via.refl e270 F0 E_a (Or.inr ⟨(hw _ (List.mem_of_getElem? (i := 71) rfl)), rfl, hnm⟩) (hw _ (List.mem_of_getElem? (i := 55) rfl)) (ty := .int) (by decide) rfl rfl (g := (mkF m 6 #[.val (.ref a), .val (.int (401 : Int32)), .val (.ref we), .val (.ref we), .val (.ref lst)] [(.int (401 : Int32)), (.ref a)])) rfl rfl (hb hby d10_6)
  refine Run.pre st271 ?_
  have Fw271 := F0.same W271
  have K271 : Keep h0 h271 [a] := (Keep.refl h0 [a]).wr W271 (Or.inl (by simp))
  have N271 := Fr.snoc X271 N270 g_a
  show Run p e below s _ _ _ (T271.setTop (mkF m 9 #[.val (.ref a), .val (.int (401 : Int32)), .val (.ref we), .val (.ref we), .val (.ref lst)] []))
  refine Run.pre (fun _ k => XS.aloadN X271.here hx rfl (hb hby d10_9) rfl rfl k) ?_
  show Run p e below s _ _ _ (T271.setTop (mkF m 10 #[.val (.ref a), .val (.int (401 : Int32)), .val (.ref we), .val (.ref we), .val (.ref lst)] [(.ref a)]))
  refine Run.pre (fun _ k => XS.aloadN X271.here hx rfl (hb hby d10_10) rfl rfl k) ?_
  show Run p e below s _ _ _ (T271.setTop (mkF m 11 #[.val (.ref a), .val (.int (401 : Int32)), .val (.ref we), .val (.ref we), .val (.ref lst)] [(.ref we), (.ref a)]))
  have f272 := (E_a.wr W271)
  have f273 := (F1.other W271 (Or.inr (slot_ne (Or.inr (hw _ (List.mem_of_getElem? (i := 73) rfl))) (Or.inr (hw _ (List.mem_of_getElem? (i := 71) rfl))) (by decide) (t := (.object "java/util/Optional")) (t' := .int) (by decide) (by decide))))
  obtain ⟨T274, h274, X274, e274, W274, st274⟩ := putF X271 hx hZ hown (host := "") (Or.inl (hw _ (List.mem_of_getElem? (i := 72) rfl))) Via.refl e271 f273 f272 (Or.inr ⟨(hw _ (List.mem_of_getElem? (i := 73) rfl)), rfl, hnm⟩) (hw _ (List.mem_of_getElem? (i := 55) rfl)) (ty := (.object "java/util/Optional")) (by decide) rfl rfl (g := (mkF m 11 #[.val (.ref a), .val (.int (401 : Int32)), .val (.ref we), .val (.ref we), .val (.ref lst)] [(.ref we), (.ref a)])) rfl rfl (hb hby d10_11)
  refine Run.pre st274 ?_
  have Fw274 := f273.same W274
  have K274 : Keep h0 h274 [a] := K271.wr W274 (Or.inl (by simp))
  have N274 := Fr.snoc X274 N271 g_a
  show Run p e below s _ _ _ (T274.setTop (mkF m 14 #[.val (.ref a), .val (.int (401 : Int32)), .val (.ref we), .val (.ref we), .val (.ref lst)] []))
  refine Run.pre (fun _ k => XS.aloadN X274.here hx rfl (hb hby d10_14) rfl rfl k) ?_
  show Run p e below s _ _ _ (T274.setTop (mkF m 15 #[.val (.ref a), .val (.int (401 : Int32)), .val (.ref we), .val (.ref we), .val (.ref lst)] [(.ref a)]))
  refine Run.pre (fun _ k => XS.aloadN X274.here hx rfl (hb hby d10_15) rfl rfl k) ?_
  show Run p e below s _ _ _ (T274.setTop (mkF m 16 #[.val (.ref a), .val (.int (401 : Int32)), .val (.ref we), .val (.ref we), .val (.ref lst)] [(.ref we), (.ref a)]))
  have f275 := (f272.wr W274)
  have f276 := ((F2.other W271 (Or.inr (slot_ne (Or.inr (hw _ (List.mem_of_getElem? (i := 75) rfl))) (Or.inr (hw _ (List.mem_of_getElem? (i := 71) rfl))) (by decide) (t := (.object "java/util/Optional")) (t' := .int) (by decide) (by decide)))).other W274 (Or.inr (slot_ne (Or.inr (hw _ (List.mem_of_getElem? (i := 75) rfl))) (Or.inr (hw _ (List.mem_of_getElem? (i := 73) rfl))) (by decide) (t := (.object "java/util/Optional")) (t' := (.object "java/util/Optional")) (by decide) (by decide))))
  obtain ⟨T277, h277, X277, e277, W277, st277⟩ := putF X274 hx hZ hown (host := "") (Or.inl (hw _ (List.mem_of_getElem? (i := 74) rfl))) Via.refl e274 f276 f275 (Or.inr ⟨(hw _ (List.mem_of_getElem? (i := 75) rfl)), rfl, hnm⟩) (hw _ (List.mem_of_getElem? (i := 55) rfl)) (ty := (.object "java/util/Optional")) (by decide) rfl rfl (g := (mkF m 16 #[.val (.ref a), .val (.int (401 : Int32)), .val (.ref we), .val (.ref we), .val (.ref lst)] [(.ref we), (.ref a)])) rfl rfl (hb hby d10_16)
  refine Run.pre st277 ?_
  have Fw277 := f276.same W277
  have K277 : Keep h0 h277 [a] := K274.wr W277 (Or.inl (by simp))
  have N277 := Fr.snoc X277 N274 g_a
  show Run p e below s _ _ _ (T277.setTop (mkF m 19 #[.val (.ref a), .val (.int (401 : Int32)), .val (.ref we), .val (.ref we), .val (.ref lst)] []))
  refine Run.pre (fun _ k => XS.aloadN X277.here hx rfl (hb hby d10_19) rfl rfl k) ?_
  show Run p e below s _ _ _ (T277.setTop (mkF m 20 #[.val (.ref a), .val (.int (401 : Int32)), .val (.ref we), .val (.ref we), .val (.ref lst)] [(.ref a)]))
  refine Run.pre (fun _ k => XS.aload X277.here hx rfl (hb hby d10_20) rfl rfl k) ?_
  show Run p e below s _ _ _ (T277.setTop (mkF m 22 #[.val (.ref a), .val (.int (401 : Int32)), .val (.ref we), .val (.ref we), .val (.ref lst)] [(.ref lst), (.ref a)]))
  have f278 := (f275.wr W277)
  have f279 := (((F3.other W271 (Or.inr (slot_ne (Or.inr (hw _ (List.mem_of_getElem? (i := 77) rfl))) (Or.inr (hw _ (List.mem_of_getElem? (i := 71) rfl))) (by decide) (t := (.object "java/util/List")) (t' := .int) (by decide) (by decide)))).other W274 (Or.inr (slot_ne (Or.inr (hw _ (List.mem_of_getElem? (i := 77) rfl))) (Or.inr (hw _ (List.mem_of_getElem? (i := 73) rfl))) (by decide) (t := (.object "java/util/List")) (t' := (.object "java/util/Optional")) (by decide) (by decide)))).other W277 (Or.inr (slot_ne (Or.inr (hw _ (List.mem_of_getElem? (i := 77) rfl))) (Or.inr (hw _ (List.mem_of_getElem? (i := 75) rfl))) (by decide) (t := (.object "java/util/List")) (t' := (.object "java/util/Optional")) (by decide) (by decide))))
  obtain ⟨T280, h280, X280, e280, W280, st280⟩ := putF X277 hx hZ hown (host := "") (Or.inl (hw _ (List.mem_of_getElem? (i := 76) rfl))) Via.refl e277 f279 f278 (Or.inr ⟨(hw _ (List.mem_of_getElem? (i := 77) rfl)), rfl, hnm⟩) (hw _ (List.mem_of_getElem? (i := 55) rfl)) (ty := (.object "java/util/List")) (by decide) rfl rfl (g := (mkF m 22 #[.val (.ref a), .val (.int (401 : Int32)), .val (.ref we), .val (.ref we), .val (.ref lst)] [(.ref lst), (.ref a)])) rfl rfl (hb hby d10_22)
  refine Run.pre st280 ?_
  have Fw280 := f279.same W280
  have K280 : Keep h0 h280 [a] := K277.wr W280 (Or.inl (by simp))
  have N280 := Fr.snoc X280 N277 g_a
  show Run p e below s _ _ _ (T280.setTop (mkF m 25 #[.val (.ref a), .val (.int (401 : Int32)), .val (.ref we), .val (.ref we), .val (.ref lst)] []))
  have f281 := (((Fw271.other W274 (Or.inr (slot_ne (Or.inr (hw _ (List.mem_of_getElem? (i := 71) rfl))) (Or.inr (hw _ (List.mem_of_getElem? (i := 73) rfl))) (by decide) (t := .int) (t' := (.object "java/util/Optional")) (by decide) (by decide)))).other W277 (Or.inr (slot_ne (Or.inr (hw _ (List.mem_of_getElem? (i := 71) rfl))) (Or.inr (hw _ (List.mem_of_getElem? (i := 75) rfl))) (by decide) (t := .int) (t' := (.object "java/util/Optional")) (by decide) (by decide)))).other W280 (Or.inr (slot_ne (Or.inr (hw _ (List.mem_of_getElem? (i := 71) rfl))) (Or.inr (hw _ (List.mem_of_getElem? (i := 77) rfl))) (by decide) (t := .int) (t' := (.object "java/util/List")) (by decide) (by decide))))
  have f282 := ((Fw274.other W277 (Or.inr (slot_ne (Or.inr (hw _ (List.mem_of_getElem? (i := 73) rfl))) (Or.inr (hw _ (List.mem_of_getElem? (i := 75) rfl))) (by decide) (t := (.object "java/util/Optional")) (t' := (.object "java/util/Optional")) (by decide) (by decide)))).other W280 (Or.inr (slot_ne (Or.inr (hw _ (List.mem_of_getElem? (i := 73) rfl))) (Or.inr (hw _ (List.mem_of_getElem? (i := 77) rfl))) (by decide) (t := (.object "java/util/Optional")) (t' := (.object "java/util/List")) (by decide) (by decide))))
  have f283 := (Fw277.other W280 (Or.inr (slot_ne (Or.inr (hw _ (List.mem_of_getElem? (i := 75) rfl))) (Or.inr (hw _ (List.mem_of_getElem? (i := 77) rfl))) (by decide) (t := (.object "java/util/Optional")) (t' := (.object "java/util/List")) (by decide) (by decide))))
  exact Run.retV hS (by first | exact Nat.le_refl _ | (rw [e280]; exact (Nat.le_trans (Nat.le_trans (Nat.le_trans (Nat.le_trans (Nat.le_of_eq (congrArg Array.size e270)) (Keep.of_wr W271).1) (Keep.of_wr W274).1) (Keep.of_wr W277).1) (Keep.of_wr W280).1))) X280 hx hret hlk (hb hby d10_25) (by first | (rw [e280]; exact ⟨rfl, N280, K280, f281, f282, f283, Fw280⟩) | exact ⟨rfl, N280, K280, f281, f282, f283, Fw280⟩) (by decide) (by decide)
theorem d8_0 : decode prog_28_method_4_code 0 = .ok (.new 8, 3) := by decide +kernel
theorem d8_3 : decode prog_28_method_4_code 3 = .ok (.dup, 1) := by decide +kernel
theorem d8_4 : decode prog_28_method_4_code 4 = .ok (.sipush 401, 3) := by decide +kernel
theorem pd_12 : parseMethodDescriptor "()Ljava/util/Optional;" = some ⟨[], some (.object "java/util/Optional")⟩ := by decide +kernel
theorem d8_7 : decode prog_28_method_4_code 7 = .ok (.invokestatic 40, 3) := by decide +kernel
theorem d8_10 : decode prog_28_method_4_code 10 = .ok (.invokestatic 40, 3) := by decide +kernel
theorem d8_13 : decode prog_28_method_4_code 13 = .ok (.aload_n 0, 1) := by decide +kernel
theorem pd_13 : parseMethodDescriptor "(ILjava/util/Optional;Ljava/util/Optional;Ljava/util/List;)V" = some ⟨[.int, (.object "java/util/Optional"), (.object "java/util/Optional"), (.object "java/util/List")], none⟩ := by decide +kernel
theorem d8_14 : decode prog_28_method_4_code 14 = .ok (.invokespecial 37, 3) := by decide +kernel
theorem d8_17 : decode prog_28_method_4_code 17 = .ok (.areturn, 1) := by decide +kernel
theorem pn_8 : plainName "com/example/portcullis/portcullis/http/GateDecision" = true := by first | (simp [plainName, overriddenIn]; done) | decide +kernel
set_option maxRecDepth 65536 in
set_option maxHeartbeats 40000000 in
theorem rmCh (l : Launch) (Z : State) (a0 : Array Value) (hw : ∀ d ∈ tables_1, d.before a0 Z = true) (we : Addr) (lst : Addr) (h0 : Heap) (n0 : Nat) (Z0 : n0 ≤ h0.size) (OL : Old Z n0 h0) (SE : Sta Z Z.heap "java/util/Optional" "EMPTY" "Ljava/util/Optional;" (.ref we)) :
    Con l (⟨"com/example/portcullis/portcullis/http/GateDecision", "challenged", "(Ljava/util/List;)Lcom/example/portcullis/portcullis/http/GateDecision;"⟩ : MethodName) prog_28_method_4_code 1 (some (.object "com/example/portcullis/portcullis/http/GateDecision")) ({ frames := 3, cells := 1, slots := 4, locals := 41 } : Room) Z #[(.ref lst)] h0 (fun _ => True) (fun v h L vm => ∃ b : Addr, v = some (.ref b) ∧ Fr n0 L ∧ Keep h0 h [] ∧ h0.size ≤ b ∧ Exa Z h b "com/example/portcullis/portcullis/http/GateDecision" ∧ Fld Z h b "com/example/portcullis/portcullis/http/GateDecision" "status" "I" (.int 401) ∧ Fld Z h b "com/example/portcullis/portcullis/http/GateDecision" "identity" "Ljava/util/Optional;" (.ref we) ∧ Fld Z h b "com/example/portcullis/portcullis/http/GateDecision" "mechanism" "Ljava/util/Optional;" (.ref we) ∧ Fld Z h b "com/example/portcullis/portcullis/http/GateDecision" "challenges" "Ljava/util/List;" (.ref lst)) := by
  refine Con.mk (plainFor_of_name pn_8) (fun m => show entryFrame m #[(.ref lst)] 1 = mkF m 0 #[.val (.ref lst)] [] by first | (simp [entryFrame, mkF, argsToLocals, Value.category]; done) | rfl) ?_
  intro p e s m below meth c s₁ vm0 hx hby hml hown hnm hret hlk hZ X0 e0 hS hs0 hP0
  have N0 := Fr.nil n0
  show Run p e below s _ _ _ (s₁.setTop (mkF m 0 #[.val (.ref lst)] []))
  obtain ⟨T284, h284, X284, e284, E284, A284, D284, -, st284⟩ := newO X0 hx hZ hown (hw _ (List.mem_of_getElem? (i := 54) rfl)) (hw _ (List.mem_of_getElem? (i := 55) rfl)) (hw _ (List.mem_of_getElem? (i := 52) rfl)) e0 (g := (mkF m 0 #[.val (.ref lst)] [])) rfl (hb hby d8_0) (by decide) (by decide)
  obtain ⟨b284, g284⟩ : ∃ z, z = h0.size := ⟨_, rfl⟩
  rw [← g284] at A284 D284 st284
  refine Run.pre st284 ?_
  have gn_b284 : n0 ≤ b284 := Nat.le_trans (Nat.le_trans Z0 (Keep.refl h0 []).1) (Nat.le_of_eq g284.symm)
  have sz_b284 : h0.size ≤ b284 := Nat.le_trans (Keep.refl h0 []).1 (Nat.le_of_eq g284.symm)
  have K284 : Keep h0 h284 [] := (Keep.refl h0 []).ext E284
  have F_status_b284 : Fld Z h284 b284 "com/example/portcullis/portcullis/http/GateDecision" "status" "I" (.int (0 : Int32)) := D284 (Or.inr (hw _ (List.mem_of_getElem? (i := 71) rfl))) (ty := .int) (by decide)
  have F_identity_b284 : Fld Z h284 b284 "com/example/portcullis/portcullis/http/GateDecision" "identity" "Ljava/util/Optional;" .null := D284 (Or.inr (hw _ (List.mem_of_getElem? (i := 73) rfl))) (ty := (.object "java/util/Optional")) (by decide)
  have F_mechanism_b284 : Fld Z h284 b284 "com/example/portcullis/portcullis/http/GateDecision" "mechanism" "Ljava/util/Optional;" .null := D284 (Or.inr (hw _ (List.mem_of_getElem? (i := 75) rfl))) (ty := (.object "java/util/Optional")) (by decide)
  have F_challenges_b284 : Fld Z h284 b284 "com/example/portcullis/portcullis/http/GateDecision" "challenges" "Ljava/util/List;" .null := D284 (Or.inr (hw _ (List.mem_of_getElem? (i := 77) rfl))) (ty := (.object "java/util/List")) (by decide)
  show Run p e below s _ _ _ (T284.setTop (mkF m 3 #[.val (.ref lst)] [(.ref b284)]))
  refine Run.pre (fun _ k => XS.dup X284.here hx rfl (hb hby d8_3) rfl rfl k) ?_
  show Run p e below s _ _ _ (T284.setTop (mkF m 4 #[.val (.ref lst)] [(.ref b284), (.ref b284)]))
  refine Run.pre (fun _ k => XS.sipush X284.here hx rfl (hb hby d8_4) k) ?_
  show Run p e below s _ _ _ (T284.setTop (mkF m 7 #[.val (.ref lst)] [(.int (401 : Int32)), (.ref b284), (.ref b284)]))
  have f285 := (OL.ext E284)
  refine Run.callS hS (by first | exact Nat.le_refl _ | (rw [e284]; exact (Nat.le_trans (Nat.zero_le _) E284.1))) X284 hx hZ (y := (⟨"java/util/Optional", "empty", "()Ljava/util/Optional;"⟩ : MethodName)) hown (hw _ (List.mem_of_getElem? (i := 56) rfl)) (hw _ (List.mem_of_getElem? (i := 57) rfl)) (hw _ (List.mem_of_getElem? (i := 58) rfl)) (hw _ (List.mem_of_getElem? (i := 59) rfl)) (by decide) (W := 3) (rmOE l Z a0 hw we h284 n0 (Nat.le_trans Z0 K284.1) f285 SE) e284 (by decide) (by decide) (by decide) (by decide) (fun _ _ => trivial) (g := (mkF m 7 #[.val (.ref lst)] [(.int (401 : Int32)), (.ref b284), (.ref b284)])) rfl (by rw [hml]; rfl) (argsL := []) (rest := [(.int (401 : Int32)), (.ref b284), (.ref b284)]) (lenOf pd_12 rfl) rfl (by show 2 * 0 + _ ≤ _; exact Nat.le_of_eq rfl) (hb hby d8_7) ?_
  intro v286 T286 L286 X286 hS hZ hown hV286 hQ286
  obtain ⟨rfl, Nq286, he286⟩ := hQ286
  have N286 := Fr.app N0 Nq286
  have e286 : T286.heap = h284 := he286
  show Run p e below s _ _ _ (T286.setTop (mkF m 10 #[.val (.ref lst)] [(.ref we), (.int (401 : Int32)), (.ref b284), (.ref b284)]))
  refine Run.callS hS (by first | exact Nat.le_refl _ | (rw [e286]; exact (Nat.le_of_eq (congrArg Array.size e286)))) X286 hx hZ (y := (⟨"java/util/Optional", "empty", "()Ljava/util/Optional;"⟩ : MethodName)) hown (hw _ (List.mem_of_getElem? (i := 56) rfl)) (hw _ (List.mem_of_getElem? (i := 57) rfl)) (hw _ (List.mem_of_getElem? (i := 58) rfl)) (hw _ (List.mem_of_getElem? (i := 59) rfl)) (by decide) (W := 4) (rmOE l Z a0 hw we h284 n0 (Nat.le_trans Z0 K284.1) f285 SE) e286 (by decide) (by decide) (by decide) (by decide) (fun _ _ => trivial) (g := (mkF m 10 #[.val (.ref lst)] [(.ref we), (.int (401 : Int32)), (.ref b284), (.ref b284)])) rfl (by rw [hml]; rfl) (argsL := []) (rest := [(.ref we), (.int (401 : Int32)), (.ref b284), (.ref b284)]) (lenOf pd_12 rfl) rfl (by show 2 * 0 + _ ≤ _; exact Nat.le_of_eq rfl) (hb hby d8_10) ?_
  intro v287 T287 L287 X287 hS hZ hown hV287 hQ287
  obtain ⟨rfl, Nq287, he287⟩ := hQ287
  have N287 := Fr.app N286 Nq287
  have e287 : T287.heap = h284 := he287
  show Run p e below s _ _ _ (T287.setTop (mkF m 13 #[.val (.ref lst)] [(.ref we), (.ref we), (.int (401 : Int32)), (.ref b284), (.ref b284)]))
  refine Run.pre (fun _ k => XS.aloadN X287.here hx rfl (hb hby d8_13) rfl rfl k) ?_
  show Run p e below s _ _ _ (T287.setTop (mkF m 14 #[.val (.ref lst)] [(.ref lst), (.ref we), (.ref we), (.int (401 : Int32)), (.ref b284), (.ref b284)]))
  refine Run.callI hS (by first | exact Nat.le_refl _ | (rw [e287]; exact (Nat.le_of_eq (congrArg Array.size e287)))) X287 hx hZ (y := (⟨"com/example/portcullis/portcullis/http/GateDecision", "<init>", "(ILjava/util/Optional;Ljava/util/Optional;Ljava/util/List;)V"⟩ : MethodName)) rfl hown (hw _ (List.mem_of_getElem? (i := 61) rfl)) (hw _ (List.mem_of_getElem? (i := 62) rfl)) (hw _ (List.mem_of_getElem? (i := 63) rfl)) (hw _ (List.mem_of_getElem? (i := 52) rfl)) (by decide) (a := b284) (W := 1) (rmGI l Z a0 hw b284 we lst h284 n0 (Nat.le_trans Z0 K284.1) A284 F_status_b284 F_identity_b284 F_mechanism_b284 F_challenges_b284 gn_b284) e287 (by decide) (by decide) (by decide) (by decide) (fun _ _ => trivial) (g := (mkF m 14 #[.val (.ref lst)] [(.ref lst), (.ref we), (.ref we), (.int (401 : Int32)), (.ref b284), (.ref b284)])) rfl (by rw [hml]; rfl) (argsL := [(.int (401 : Int32)), (.ref we), (.ref we), (.ref lst)]) (rest := [(.ref b284)]) (lenOf pd_13 rfl) rfl (by show 2 * 0 + _ ≤ _; exact Nat.le_of_eq rfl) (hb hby d8_14) ?_
  intro v288 T288 L288 X288 hS hZ hown hV288 hQ288
  obtain ⟨rfl, Nq288, Kc288, fg0_288, fg1_288, fg2_288, fg3_288⟩ := hQ288
  have N288 := Fr.app N287 Nq288
  have K288 : Keep h0 T288.heap [] := K284.trans Kc288 (allS (Or.inr sz_b284) all0)
  show Run p e below s _ _ _ (T288.setTop (mkF m 17 #[.val (.ref lst)] [(.ref b284)]))
  have f289 := (A284.keep Kc288)
  exact Run.retA hS (Nat.le_refl _) X288 hx hret rfl rfl hlk (hb hby d8_17) ⟨b284, rfl, N288, K288, sz_b284, f289, fg0_288, fg1_288, fg2_288, fg3_288⟩ (by decide) (by decide)
theorem d12_0 : decode prog_28_method_11_code 0 = .ok (.aload_n 0, 1) := by decide +kernel
theorem d12_1 : decode prog_28_method_11_code 1 = .ok (.getfield 7, 3) := by decide +kernel
theorem d12_4 : decode prog_28_method_11_code 4 = .ok (.ireturn, 1) := by decide +kernel
theorem pn_12 : plainName "com/example/portcullis/portcullis/http/GateDecision" = true := by first | (simp [plainName, overriddenIn]; done) | decide +kernel
set_option maxRecDepth 65536 in
set_option maxHeartbeats 40000000 in
theorem rmget_status (l : Launch) (Z : State) (a0 : Array Value) (hw : ∀ d ∈ tables_1, d.before a0 Z = true) (a : Addr) (yv : Int32) (h0 : Heap) (n0 : Nat) (Z0 : n0 ≤ h0.size) (FF : Fld Z h0 a "com/example/portcullis/portcullis/http/GateDecision" "status" "I" (.int yv)) :
    Con l (⟨"com/example/portcullis/portcullis/http/GateDecision", "status", "()I"⟩ : MethodName) prog_28_method_11_code 1 (some .int) ({ frames := 0, cells := 0, slots := 0, locals := 0 } : Room) Z #[(.ref a)] h0 (fun _ => True) (fun v h L vm => v = some (.int yv) ∧ Fr n0 L ∧ h = h0) := by
  refine Con.mk (plainFor_of_name pn_12) (fun m => show entryFrame m #[(.ref a)] 1 = mkF m 0 #[.val (.ref a)] [] by first | (simp [entryFrame, mkF, argsToLocals, Value.category]; done) | rfl) ?_
  intro p e s m below meth c s₁ vm0 hx hby hml hown hnm hret hlk hZ X0 e0 hS hs0 hP0
  have N0 := Fr.nil n0
  show Run p e below s _ _ _ (s₁.setTop (mkF m 0 #[.val (.ref a)] []))
  refine Run.pre (fun _ k => XS.aloadN X0.here hx rfl (hb hby d12_0) rfl rfl k) ?_
  show Run p e below s _ _ _ (s₁.setTop (mkF m 1 #[.val (.ref a)] [(.ref a)]))
  obtain ⟨T290, X290, e290, st290⟩ := getF X0 hx hZ hown (host := "") (Or.inl (hw _ (List.mem_of_getElem? (i := 70) rfl))) Via.refl e0 FF (g := (mkF m 1 #[.val (.ref a)] [(.ref a)])) rfl rfl (hb hby d12_1)
  refine Run.pre st290 ?_
  show Run p e below s _ _ _ (T290.setTop (mkF m 4 #[.val (.ref a)] [(.int yv)]))
  exact Run.retI hS (by first | exact Nat.le_refl _ | (rw [e290]; exact (Nat.zero_le _))) X290 hx hret hlk (hb hby d12_4) (by first | (rw [e290]; exact ⟨rfl, N0, rfl⟩) | exact ⟨rfl, N0, rfl⟩) (by decide) (by decide)
theorem d13_0 : decode prog_28_method_12_code 0 = .ok (.aload_n 0, 1) := by decide +kernel
theorem d13_1 : decode prog_28_method_12_code 1 = .ok (.getfield 13, 3) := by decide +kernel
theorem d13_4 : decode prog_28_method_12_code 4 = .ok (.areturn, 1) := by decide +kernel
theorem pn_13 : plainName "com/example/portcullis/portcullis/http/GateDecision" = true := by first | (simp [plainName, overriddenIn]; done) | decide +kernel
set_option maxRecDepth 65536 in
set_option maxHeartbeats 40000000 in
theorem rmget_identity (l : Launch) (Z : State) (a0 : Array Value) (hw : ∀ d ∈ tables_1, d.before a0 Z = true) (a : Addr) (yv : Addr) (h0 : Heap) (n0 : Nat) (Z0 : n0 ≤ h0.size) (FF : Fld Z h0 a "com/example/portcullis/portcullis/http/GateDecision" "identity" "Ljava/util/Optional;" (.ref yv)) :
    Con l (⟨"com/example/portcullis/portcullis/http/GateDecision", "identity", "()Ljava/util/Optional;"⟩ : MethodName) prog_28_method_12_code 1 (some (.object "java/util/Optional")) ({ frames := 0, cells := 0, slots := 0, locals := 0 } : Room) Z #[(.ref a)] h0 (fun _ => True) (fun v h L vm => v = some (.ref yv) ∧ Fr n0 L ∧ h = h0) := by
  refine Con.mk (plainFor_of_name pn_13) (fun m => show entryFrame m #[(.ref a)] 1 = mkF m 0 #[.val (.ref a)] [] by first | (simp [entryFrame, mkF, argsToLocals, Value.category]; done) | rfl) ?_
  intro p e s m below meth c s₁ vm0 hx hby hml hown hnm hret hlk hZ X0 e0 hS hs0 hP0
  have N0 := Fr.nil n0
  show Run p e below s _ _ _ (s₁.setTop (mkF m 0 #[.val (.ref a)] []))
  refine Run.pre (fun _ k => XS.aloadN X0.here hx rfl (hb hby d13_0) rfl rfl k) ?_
  show Run p e below s _ _ _ (s₁.setTop (mkF m 1 #[.val (.ref a)] [(.ref a)]))
  obtain ⟨T291, X291, e291, st291⟩ := getF X0 hx hZ hown (host := "") (Or.inl (hw _ (List.mem_of_getElem? (i := 72) rfl))) Via.refl e0 FF (g := (mkF m 1 #[.val (.ref a)] [(.ref a)])) rfl rfl (hb hby d13_1)
  refine Run.pre st291 ?_
  show Run p e below s _ _ _ (T291.setTop (mkF m 4 #[.val (.ref a)] [(.ref yv)]))
  exact Run.retA hS (by first | exact Nat.le_refl _ | (rw [e291]; exact (Nat.zero_le _))) X291 hx hret rfl rfl hlk (hb hby d13_4) (by first | (rw [e291]; exact ⟨rfl, N0, rfl⟩) | exact ⟨rfl, N0, rfl⟩) (by decide) (by decide)
theorem d15_0 : decode prog_28_method_13_code 0 = .ok (.aload_n 0, 1) := by decide +kernel
theorem d15_1 : decode prog_28_method_13_code 1 = .ok (.getfield 17, 3) := by decide +kernel
theorem d15_4 : decode prog_28_method_13_code 4 = .ok (.areturn, 1) := by decide +kernel
theorem pn_15 : plainName "com/example/portcullis/portcullis/http/GateDecision" = true := by first | (simp [plainName, overriddenIn]; done) | decide +kernel
set_option maxRecDepth 65536 in
set_option maxHeartbeats 40000000 in
theorem rmget_mechanism (l : Launch) (Z : State) (a0 : Array Value) (hw : ∀ d ∈ tables_1, d.before a0 Z = true) (a : Addr) (yv : Addr) (h0 : Heap) (n0 : Nat) (Z0 : n0 ≤ h0.size) (FF : Fld Z h0 a "com/example/portcullis/portcullis/http/GateDecision" "mechanism" "Ljava/util/Optional;" (.ref yv)) :
    Con l (⟨"com/example/portcullis/portcullis/http/GateDecision", "mechanism", "()Ljava/util/Optional;"⟩ : MethodName) prog_28_method_13_code 1 (some (.object "java/util/Optional")) ({ frames := 0, cells := 0, slots := 0, locals := 0 } : Room) Z #[(.ref a)] h0 (fun _ => True) (fun v h L vm => v = some (.ref yv) ∧ Fr n0 L ∧ h = h0) := by
  refine Con.mk (plainFor_of_name pn_15) (fun m => show entryFrame m #[(.ref a)] 1 = mkF m 0 #[.val (.ref a)] [] by first | (simp [entryFrame, mkF, argsToLocals, Value.category]; done) | rfl) ?_
  intro p e s m below meth c s₁ vm0 hx hby hml hown hnm hret hlk hZ X0 e0 hS hs0 hP0
  have N0 := Fr.nil n0
  show Run p e below s _ _ _ (s₁.setTop (mkF m 0 #[.val (.ref a)] []))
  refine Run.pre (fun _ k => XS.aloadN X0.here hx rfl (hb hby d15_0) rfl rfl k) ?_
  show Run p e below s _ _ _ (s₁.setTop (mkF m 1 #[.val (.ref a)] [(.ref a)]))
  obtain ⟨T292, X292, e292, st292⟩ := getF X0 hx hZ hown (host := "") (Or.inl (hw _ (List.mem_of_getElem? (i := 74) rfl))) Via.refl e0 FF (g := (mkF m 1 #[.val (.ref a)] [(.ref a)])) rfl rfl (hb hby d15_1)
  refine Run.pre st292 ?_
  show Run p e below s _ _ _ (T292.setTop (mkF m 4 #[.val (.ref a)] [(.ref yv)]))
  exact Run.retA hS (by first | exact Nat.le_refl _ | (rw [e292]; exact (Nat.zero_le _))) X292 hx hret rfl rfl hlk (hb hby d15_4) (by first | (rw [e292]; exact ⟨rfl, N0, rfl⟩) | exact ⟨rfl, N0, rfl⟩) (by decide) (by decide)
theorem d16_0 : decode prog_28_method_14_code 0 = .ok (.aload_n 0, 1) := by decide +kernel
theorem d16_1 : decode prog_28_method_14_code 1 = .ok (.getfield 20, 3) := by decide +kernel
theorem d16_4 : decode prog_28_method_14_code 4 = .ok (.areturn, 1) := by decide +kernel
theorem pn_16 : plainName "com/example/portcullis/portcullis/http/GateDecision" = true := by first | (simp [plainName, overriddenIn]; done) | decide +kernel
set_option maxRecDepth 65536 in
set_option maxHeartbeats 40000000 in
theorem rmget_challenges (l : Launch) (Z : State) (a0 : Array Value) (hw : ∀ d ∈ tables_1, d.before a0 Z = true) (a : Addr) (yv : Addr) (h0 : Heap) (n0 : Nat) (Z0 : n0 ≤ h0.size) (FF : Fld Z h0 a "com/example/portcullis/portcullis/http/GateDecision" "challenges" "Ljava/util/List;" (.ref yv)) :
    Con l (⟨"com/example/portcullis/portcullis/http/GateDecision", "challenges", "()Ljava/util/List;"⟩ : MethodName) prog_28_method_14_code 1 (some (.object "java/util/List")) ({ frames := 0, cells := 0, slots := 0, locals := 0 } : Room) Z #[(.ref a)] h0 (fun _ => True) (fun v h L vm => v = some (.ref yv) ∧ Fr n0 L ∧ h = h0) := by
  refine Con.mk (plainFor_of_name pn_16) (fun m => show entryFrame m #[(.ref a)] 1 = mkF m 0 #[.val (.ref a)] [] by first | (simp [entryFrame, mkF, argsToLocals, Value.category]; done) | rfl) ?_
  intro p e s m below meth c s₁ vm0 hx hby hml hown hnm hret hlk hZ X0 e0 hS hs0 hP0
  have N0 := Fr.nil n0
  show Run p e below s _ _ _ (s₁.setTop (mkF m 0 #[.val (.ref a)] []))
  refine Run.pre (fun _ k => XS.aloadN X0.here hx rfl (hb hby d16_0) rfl rfl k) ?_
  show Run p e below s _ _ _ (s₁.setTop (mkF m 1 #[.val (.ref a)] [(.ref a)]))
  obtain ⟨T293, X293, e293, st293⟩ := getF X0 hx hZ hown (host := "") (Or.inl (hw _ (List.mem_of_getElem? (i := 76) rfl))) Via.refl e0 FF (g := (mkF m 1 #[.val (.ref a)] [(.ref a)])) rfl rfl (hb hby d16_1)
  refine Run.pre st293 ?_
  show Run p e below s _ _ _ (T293.setTop (mkF m 4 #[.val (.ref a)] [(.ref yv)]))
  exact Run.retA hS (by first | exact Nat.le_refl _ | (rw [e293]; exact (Nat.zero_le _))) X293 hx hret rfl rfl hlk (hb hby d16_4) (by first | (rw [e293]; exact ⟨rfl, N0, rfl⟩) | exact ⟨rfl, N0, rfl⟩) (by decide) (by decide)
theorem d14_0 : decode jdk_32_method_6_code 0 = .ok (.aload_n 0, 1) := by decide +kernel
theorem d14_1 : decode jdk_32_method_6_code 1 = .ok (.getfield 13, 3) := by decide +kernel
theorem d14_4 : decode jdk_32_method_6_code 4 = .ok (.ifnull 7, 3) := by decide +kernel
theorem d14_11 : decode jdk_32_method_6_code 11 = .ok (.iconst 0, 1) := by decide +kernel
theorem d14_12 : decode jdk_32_method_6_code 12 = .ok (.ireturn, 1) := by decide +kernel
theorem pn_14 : plainName "java/util/Optional" = true := by first | (simp [plainName, overriddenIn]; done) | decide +kernel
set_option maxRecDepth 65536 in
set_option maxHeartbeats 40000000 in
theorem rmPr (l : Launch) (Z : State) (a0 : Array Value) (hw : ∀ d ∈ tables_1, d.before a0 Z = true) (a : Addr) (h0 : Heap) (n0 : Nat) (Z0 : n0 ≤ h0.size) (FV : Fld Z h0 a "java/util/Optional" "value" "Ljava/lang/Object;" .null) :
    Con l (⟨"java/util/Optional", "isPresent", "()Z"⟩ : MethodName) jdk_32_method_6_code 1 (some .boolean) ({ frames := 0, cells := 0, slots := 0, locals := 0 } : Room) Z #[(.ref a)] h0 (fun _ => True) (fun v h L vm => v = some (.int 0) ∧ Fr n0 L ∧ h = h0) := by
  refine Con.mk (plainFor_of_name pn_14) (fun m => show entryFrame m #[(.ref a)] 1 = mkF m 0 #[.val (.ref a)] [] by first | (simp [entryFrame, mkF, argsToLocals, Value.category]; done) | rfl) ?_
  intro p e s m below meth c s₁ vm0 hx hby hml hown hnm hret hlk hZ X0 e0 hS hs0 hP0
  have N0 := Fr.nil n0
  show Run p e below s _ _ _ (s₁.setTop (mkF m 0 #[.val (.ref a)] []))
  refine Run.pre (fun _ k => XS.aloadN X0.here hx rfl (hb hby d14_0) rfl rfl k) ?_
  show Run p e below s _ _ _ (s₁.setTop (mkF m 1 #[.val (.ref a)] [(.ref a)]))
  obtain ⟨T294, X294, e294, st294⟩ := getF X0 hx hZ hown (host := "") (Or.inl (hw _ (List.mem_of_getElem? (i := 93) rfl))) Via.refl e0 FV (g := (mkF m 1 #[.val (.ref a)] [(.ref a)])) rfl rfl (hb hby d14_1)
  refine Run.pre st294 ?_
  show Run p e below s _ _ _ (T294.setTop (mkF m 4 #[.val (.ref a)] [.null]))
  refine Run.pre (fun _ k => XS.ifnullYes X294.here hx rfl (pc0 := 4) (pc' := 11) rfl (hb hby d14_4) rfl (by decide) (by decide) k) ?_
  show Run p e below s _ _ _ (T294.setTop (mkF m 11 #[.val (.ref a)] []))
  refine Run.pre (fun _ k => XS.iconst X294.here hx rfl (hb hby d14_11) k) ?_
  show Run p e below s _ _ _ (T294.setTop (mkF m 12 #[.val (.ref a)] [(.int (0 : Int32))]))
  exact Run.retN hS (by first | exact Nat.le_refl _ | (rw [e294]; exact (Nat.zero_le _))) X294 hx hret (t := .boolean) (by simp) hlk (hb hby d14_12) (by first | (rw [e294]; exact ⟨rfl, N0, rfl⟩) | exact ⟨rfl, N0, rfl⟩) (by decide) (by decide)
theorem d27_0 : decode jdk_42_method_66_code 0 = .ok (.aload_n 0, 1) := by decide +kernel
theorem d27_1 : decode jdk_42_method_66_code 1 = .ok (.aload_n 1, 1) := by decide +kernel
theorem d27_2 : decode jdk_42_method_66_code 2 = .ok (.if_acmp .ne 5, 3) := by decide +kernel
theorem d27_5 : decode jdk_42_method_66_code 5 = .ok (.iconst 1, 1) := by decide +kernel
theorem d27_6 : decode jdk_42_method_66_code 6 = .ok (.ireturn, 1) := by decide +kernel
theorem pn_27 : plainName "java/lang/String" = true := by first | (simp [plainName, overriddenIn]; done) | decide +kernel
set_option maxRecDepth 65536 in
set_option maxHeartbeats 40000000 in
theorem rmEq (l : Launch) (Z : State) (a0 : Array Value) (hw : ∀ d ∈ tables_1, d.before a0 Z = true) (a : Addr) (h0 : Heap) (n0 : Nat) (Z0 : n0 ≤ h0.size) :
    Con l (⟨"java/lang/String", "equals", "(Ljava/lang/Object;)Z"⟩ : MethodName) jdk_42_method_66_code 3 (some .boolean) ({ frames := 0, cells := 0, slots := 0, locals := 0 } : Room) Z #[(.ref a), (.ref a)] h0 (fun _ => True) (fun v h L vm => v = some (.int 1) ∧ Fr n0 L ∧ h = h0) := by
  refine Con.mk (plainFor_of_name pn_27) (fun m => show entryFrame m #[(.ref a), (.ref a)] 3 = mkF m 0 #[.val (.ref a), .val (.ref a), .unset] [] by first | (simp [entryFrame, mkF, argsToLocals, Value.category]; done) | rfl) ?_
  intro p e s m below meth c s₁ vm0 hx hby hml hown hnm hret hlk hZ X0 e0 hS hs0 hP0
  have N0 := Fr.nil n0
  show Run p e below s _ _ _ (s₁.setTop (mkF m 0 #[.val (.ref a), .val (.ref a), .unset] []))
  refine Run.pre (fun _ k => XS.aloadN X0.here hx rfl (hb hby d27_0) rfl rfl k) ?_
  show Run p e below s _ _ _ (s₁.setTop (mkF m 1 #[.val (.ref a), .val (.ref a), .unset] [(.ref a)]))
  refine Run.pre (fun _ k => XS.aloadN X0.here hx rfl (hb hby d27_1) rfl rfl k) ?_
  show Run p e below s _ _ _ (s₁.setTop (mkF m 2 #[.val (.ref a), .val (.ref a), .unset] [(.ref a), (.ref a)]))
  refine Run.pre (fun _ k => Jvm.RoadKit.acmp (g := (mkF m 2 #[.val (.ref a), .val (.ref a), .unset] [(.ref a), (.ref a)])) X0 hx rfl rfl rfl (pc0 := 2) (pc' := 5) (same := true) rfl (hb hby d27_2) rfl (decide_eq_true rfl) (by decide) (by decide) k) ?_
  show Run p e below s _ _ _ (s₁.setTop (mkF m 5 #[.val (.ref a), .val (.ref a), .unset] []))
  refine Run.pre (fun _ k => XS.iconst X0.here hx rfl (hb hby d27_5) k) ?_
  show Run p e below s _ _ _ (s₁.setTop (mkF m 6 #[.val (.ref a), .val (.ref a), .unset] [(.int (1 : Int32))]))
  exact Run.retN hS (by first | exact Nat.le_refl _ | (rw [e0]; exact (Nat.zero_le _))) X0 hx hret (t := .boolean) (by simp) hlk (hb hby d27_6) (by first | (rw [e0]; exact ⟨rfl, N0, rfl⟩) | exact ⟨rfl, N0, rfl⟩) (by decide) (by decide)
theorem pd_14 : parseMethodDescriptor "(I)Ljava/lang/String;" = some ⟨[.int], some (.object "java/lang/String")⟩ := by decide +kernel
theorem pd_15 : parseMethodDescriptor "(Ljava/util/List;)Lcom/example/portcullis/portcullis/http/GateDecision;" = some ⟨[(.object "java/util/List")], some (.object "com/example/portcullis/portcullis/http/GateDecision")⟩ := by decide +kernel
theorem pd_16 : parseMethodDescriptor "()I" = some ⟨[], some .int⟩ := by decide +kernel
theorem pd_17 : parseMethodDescriptor "()Z" = some ⟨[], some .boolean⟩ := by decide +kernel
theorem pd_18 : parseMethodDescriptor "()Ljava/util/List;" = some ⟨[], some (.object "java/util/List")⟩ := by decide +kernel
theorem pd_19 : parseMethodDescriptor "(Ljava/lang/Object;)Z" = some ⟨[(.object "java/lang/Object")], some .boolean⟩ := by decide +kernel
theorem pn_0 : plainName "com/example/portcullis/portcullis/http/GateDecisionChallengedPinLaw" = true := by first | (simp [plainName, overriddenIn]; done) | decide +kernel
set_option maxRecDepth 65536 in
set_option maxHeartbeats 40000000 in
theorem rm0 (l : Launch) (Z : State) (a0 : Array Value) (hw : ∀ d ∈ tables_1, d.before a0 Z = true) (kz : Int32) (xa : Int32) (xb : Int32) (xc : Int32) (cs : Int32) (dd : Addr) (kd : ClassId) (we : Addr) (h0 : Heap) (n0 : Nat) (Z0 : n0 ≤ h0.size) (OL : Old Z n0 h0) (SC : Sta Z Z.heap "java/lang/String" "COMPACT_STRINGS" "Z" (.int cs)) (hcs : ¬ cs = 0) (hH : Jvm.Lit.constHeld Z "java/lang/String" 7) (hcw : Jvm.Lit.compactW.before a0 Z = true) (SD : Sta Z Z.heap "java/util/ArrayList" "DEFAULTCAPACITY_EMPTY_ELEMENTDATA" "[Ljava/lang/Object;" (.ref dd)) (AD : Arv Z Z.heap dd kd (.object "java/lang/Object") 0 [] .null) (SE : Sta Z Z.heap "java/util/Optional" "EMPTY" "Ljava/util/Optional;" (.ref we)) (EE : Exa Z Z.heap we "java/util/Optional") (FW : Fld Z Z.heap we "java/util/Optional" "value" "Ljava/lang/Object;" .null) :
    Con l x code maxLocals ret room_1 Z #[(.int kz), (.int xa), (.int xb), (.int xc)] h0 (own_LB Z h0) (fun v h L vm => v = some (.int 1) ∧ Fr n0 L) := by
  refine Con.mk (plainFor_of_name pn_0) (fun m => show entryFrame m #[(.int kz), (.int xa), (.int xb), (.int xc)] maxLocals = mkF m 0 #[.val (.int kz), .val (.int xa), .val (.int xb), .val (.int xc), .unset, .unset, .unset, .unset, .unset, .unset, .unset] [] by first | (simp [entryFrame, mkF, argsToLocals, Value.category, maxLocals]; done) | rfl) ?_
  intro p e s m below meth c s₁ vm0 hx hby hml hown hnm hret hlk hZ X0 e0 hS hs0 hP0
  have hml : c.maxLocals = 11 := hml
  have N0 := Fr.nil n0
  show Run p e below s _ _ _ (s₁.setTop (mkF m 0 #[.val (.int kz), .val (.int xa), .val (.int xb), .val (.int xc), .unset, .unset, .unset, .unset, .unset, .unset, .unset] []))
  refine Run.pre (fun _ k => XS.iloadN X0.here hx rfl (hb hby at_0) rfl  k) ?_
  show Run p e below s _ _ _ (s₁.setTop (mkF m 1 #[.val (.int kz), .val (.int xa), .val (.int xb), .val (.int xc), .unset, .unset, .unset, .unset, .unset, .unset, .unset] [(.int kz)]))
  refine Run.pre (fun _ k => XS.iconst X0.here hx rfl (hb hby at_1) k) ?_
  show Run p e below s _ _ _ (s₁.setTop (mkF m 2 #[.val (.int kz), .val (.int xa), .val (.int xb), .val (.int xc), .unset, .unset, .unset, .unset, .unset, .unset, .unset] [(.int (3 : Int32)), (.int kz)]))
  refine Run.pre (fun _ k => XS.iand X0.here hx rfl (hb hby at_2) rfl k) ?_
  show Run p e below s _ _ _ (s₁.setTop (mkF m 3 #[.val (.int kz), .val (.int xa), .val (.int xb), .val (.int xc), .unset, .unset, .unset, .unset, .unset, .unset, .unset] [(.int (kz &&& (3 : Int32)))]))
  refine Run.pre (fun _ k => XS.istore X0.here hx rfl (hb hby at_3) rfl (l' := #[.val (.int kz), .val (.int xa), .val (.int xb), .val (.int xc), .val (.int (kz &&& (3 : Int32))), .unset, .unset, .unset, .unset, .unset, .unset]) rfl k) ?_
  show Run p e below s _ _ _ (s₁.setTop (mkF m 5 #[.val (.int kz), .val (.int xa), .val (.int xb), .val (.int xc), .val (.int (kz &&& (3 : Int32))), .unset, .unset, .unset, .unset, .unset, .unset] []))
  refine Run.pre (fun _ k => XS.iloadN X0.here hx rfl (hb hby at_5) rfl  k) ?_
  show Run p e below s _ _ _ (s₁.setTop (mkF m 6 #[.val (.int kz), .val (.int xa), .val (.int xb), .val (.int xc), .val (.int (kz &&& (3 : Int32))), .unset, .unset, .unset, .unset, .unset, .unset] [(.int xa)]))
  refine Run.callS hS (by first | exact Nat.le_refl _ | (rw [e0]; exact (Nat.zero_le _))) X0 hx hZ (y := (⟨"com/example/portcullis/portcullis/http/GateDecisionChallengedPinLaw", "mk", "(I)Ljava/lang/String;"⟩ : MethodName)) hown (hw _ (List.mem_of_getElem? (i := 0) rfl)) (hw _ (List.mem_of_getElem? (i := 1) rfl)) (hw _ (List.mem_of_getElem? (i := 2) rfl)) (hw _ (List.mem_of_getElem? (i := 3) rfl)) (by decide) (W := 0) (rmMk l Z a0 hw xa cs h0 n0 (Nat.le_trans Z0 (Keep.refl h0 []).1) OL SC hcs hH hcw) e0 (by decide) (by decide) (by decide) (by decide) (fun _ q => own_LBgo hP0 q (Keep.refl _ [])) (g := (mkF m 6 #[.val (.int kz), .val (.int xa), .val (.int xb), .val (.int xc), .val (.int (kz &&& (3 : Int32))), .unset, .unset, .unset, .unset, .unset, .unset] [(.int xa)])) rfl (by rw [hml]; rfl) (argsL := [(.int xa)]) (rest := []) (lenOf pd_14 rfl) rfl (by show 2 * 0 + _ ≤ _; exact Nat.le_of_eq rfl) (hb hby at_6) ?_
  intro v295 T295 L295 X295 hS hZ hown hV295 hQ295
  obtain ⟨o295, rfl, Nq295, Kc295, sz295, eo295, lb295⟩ := hQ295
  have N295 := Fr.app N0 Nq295
  have K295 : Keep h0 T295.heap [] := (Keep.refl h0 []).trans Kc295 all0
  have sz_o295 : h0.size ≤ o295 := Nat.le_trans (Keep.refl h0 []).1 sz295
  have gn_o295 : n0 ≤ o295 := Nat.le_trans Z0 sz_o295
  show Run p e below s _ _ _ (T295.setTop (mkF m 9 #[.val (.int kz), .val (.int xa), .val (.int xb), .val (.int xc), .val (.int (kz &&& (3 : Int32))), .unset, .unset, .unset, .unset, .unset, .unset] [(.ref o295)]))
  refine Run.pre (fun _ k => XS.astore X295.here hx rfl (hb hby at_9) rfl rfl (l' := #[.val (.int kz), .val (.int xa), .val (.int xb), .val (.int xc), .val (.int (kz &&& (3 : Int32))), .val (.ref o295), .unset, .unset, .unset, .unset, .unset]) rfl k) ?_
  show Run p e below s _ _ _ (T295.setTop (mkF m 11 #[.val (.int kz), .val (.int xa), .val (.int xb), .val (.int xc), .val (.int (kz &&& (3 : Int32))), .val (.ref o295), .unset, .unset, .unset, .unset, .unset] []))
  refine Run.pre (fun _ k => XS.iloadN X295.here hx rfl (hb hby at_11) rfl  k) ?_
  show Run p e below s _ _ _ (T295.setTop (mkF m 12 #[.val (.int kz), .val (.int xa), .val (.int xb), .val (.int xc), .val (.int (kz &&& (3 : Int32))), .val (.ref o295), .unset, .unset, .unset, .unset, .unset] [(.int xb)]))
  have f296 := (OL.keep Kc295 all0)
  refine Run.callS hS (Nat.le_refl _) X295 hx hZ (y := (⟨"com/example/portcullis/portcullis/http/GateDecisionChallengedPinLaw", "mk", "(I)Ljava/lang/String;"⟩ : MethodName)) hown (hw _ (List.mem_of_getElem? (i := 0) rfl)) (hw _ (List.mem_of_getElem? (i := 1) rfl)) (hw _ (List.mem_of_getElem? (i := 2) rfl)) (hw _ (List.mem_of_getElem? (i := 3) rfl)) (by decide) (W := 0) (rmMk l Z a0 hw xb cs T295.heap n0 (Nat.le_trans Z0 K295.1) f296 SC hcs hH hcw) rfl (by decide) (by decide) (by decide) (by decide) (fun _ q => own_LBgo lb295 q (Keep.refl _ [])) (g := (mkF m 12 #[.val (.int kz), .val (.int xa), .val (.int xb), .val (.int xc), .val (.int (kz &&& (3 : Int32))), .val (.ref o295), .unset, .unset, .unset, .unset, .unset] [(.int xb)])) rfl (by rw [hml]; rfl) (argsL := [(.int xb)]) (rest := []) (lenOf pd_14 rfl) rfl (by show 2 * 0 + _ ≤ _; exact Nat.le_of_eq rfl) (hb hby at_12) ?_
  intro v297 T297 L297 X297 hS hZ hown hV297 hQ297
  obtain ⟨o297, rfl, Nq297, Kc297, sz297, eo297, lb297⟩ := hQ297
  have N297 := Fr.app N295 Nq297
  have K297 : Keep h0 T297.heap [] := K295.trans Kc297 all0
  have sz_o297 : h0.size ≤ o297 := Nat.le_trans K295.1 sz297
  have gn_o297 : n0 ≤ o297 := Nat.le_trans Z0 sz_o297
  show Run p e below s _ _ _ (T297.setTop (mkF m 15 #[.val (.int kz), .val (.int xa), .val (.int xb), .val (.int xc), .val (.int (kz &&& (3 : Int32))), .val (.ref o295), .unset, .unset, .unset, .unset, .unset] [(.ref o297)]))
  refine Run.pre (fun _ k => XS.astore X297.here hx rfl (hb hby at_15) rfl rfl (l' := #[.val (.int kz), .val (.int xa), .val (.int xb), .val (.int xc), .val (.int (kz &&& (3 : Int32))), .val (.ref o295), .val (.ref o297), .unset, .unset, .unset, .unset]) rfl k) ?_
  show Run p e below s _ _ _ (T297.setTop (mkF m 17 #[.val (.int kz), .val (.int xa), .val (.int xb), .val (.int xc), .val (.int (kz &&& (3 : Int32))), .val (.ref o295), .val (.ref o297), .unset, .unset, .unset, .unset] []))
  refine Run.pre (fun _ k => XS.iloadN X297.here hx rfl (hb hby at_17) rfl  k) ?_
  show Run p e below s _ _ _ (T297.setTop (mkF m 18 #[.val (.int kz), .val (.int xa), .val (.int xb), .val (.int xc), .val (.int (kz &&& (3 : Int32))), .val (.ref o295), .val (.ref o297), .unset, .unset, .unset, .unset] [(.int xc)]))
  have f298 := (f296.keep Kc297 all0)
  refine Run.callS hS (Nat.le_refl _) X297 hx hZ (y := (⟨"com/example/portcullis/portcullis/http/GateDecisionChallengedPinLaw", "mk", "(I)Ljava/lang/String;"⟩ : MethodName)) hown (hw _ (List.mem_of_getElem? (i := 0) rfl)) (hw _ (List.mem_of_getElem? (i := 1) rfl)) (hw _ (List.mem_of_getElem? (i := 2) rfl)) (hw _ (List.mem_of_getElem? (i := 3) rfl)) (by decide) (W := 0) (rmMk l Z a0 hw xc cs T297.heap n0 (Nat.le_trans Z0 K297.1) f298 SC hcs hH hcw) rfl (by decide) (by decide) (by decide) (by decide) (fun _ q => own_LBgo lb297 q (Keep.refl _ [])) (g := (mkF m 18 #[.val (.int kz), .val (.int xa), .val (.int xb), .val (.int xc), .val (.int (kz &&& (3 : Int32))), .val (.ref o295), .val (.ref o297), .unset, .unset, .unset, .unset] [(.int xc)])) rfl (by rw [hml]; rfl) (argsL := [(.int xc)]) (rest := []) (lenOf pd_14 rfl) rfl (by show 2 * 0 + _ ≤ _; exact Nat.le_of_eq rfl) (hb hby at_18) ?_
  intro v299 T299 L299 X299 hS hZ hown hV299 hQ299
  obtain ⟨o299, rfl, Nq299, Kc299, sz299, eo299, lb299⟩ := hQ299
  have N299 := Fr.app N297 Nq299
  have K299 : Keep h0 T299.heap [] := K297.trans Kc299 all0
  have sz_o299 : h0.size ≤ o299 := Nat.le_trans K297.1 sz299
  have gn_o299 : n0 ≤ o299 := Nat.le_trans Z0 sz_o299
  show Run p e below s _ _ _ (T299.setTop (mkF m 21 #[.val (.int kz), .val (.int xa), .val (.int xb), .val (.int xc), .val (.int (kz &&& (3 : Int32))), .val (.ref o295), .val (.ref o297), .unset, .unset, .unset, .unset] [(.ref o299)]))
  refine Run.pre (fun _ k => XS.astore X299.here hx rfl (hb hby at_21) rfl rfl (l' := #[.val (.int kz), .val (.int xa), .val (.int xb), .val (.int xc), .val (.int (kz &&& (3 : Int32))), .val (.ref o295), .val (.ref o297), .val (.ref o299), .unset, .unset, .unset]) rfl k) ?_
  show Run p e below s _ _ _ (T299.setTop (mkF m 23 #[.val (.int kz), .val (.int xa), .val (.int xb), .val (.int xc), .val (.int (kz &&& (3 : Int32))), .val (.ref o295), .val (.ref o297), .val (.ref o299), .unset, .unset, .unset] []))
  rcases own_and3 kz with hn | hn | hn | hn
  · rw [hn]
    show Run p e below s _ _ _ (T299.setTop (mkF m 23 #[.val (.int kz), .val (.int xa), .val (.int xb), .val (.int xc), .val (.int (0 : Int32)), .val (.ref o295), .val (.ref o297), .val (.ref o299), .unset, .unset, .unset] []))
    obtain ⟨T300, h300, X300, e300, E300, A300, D300, -, st300⟩ := newO X299 hx hZ hown (hw _ (List.mem_of_getElem? (i := 26) rfl)) (hw _ (List.mem_of_getElem? (i := 27) rfl)) (hw _ (List.mem_of_getElem? (i := 28) rfl)) rfl (g := (mkF m 23 #[.val (.int kz), .val (.int xa), .val (.int xb), .val (.int xc), .val (.int (0 : Int32)), .val (.ref o295), .val (.ref o297), .val (.ref o299), .unset, .unset, .unset] [])) rfl (hb hby at_23) (by decide) (by decide)
    obtain ⟨b300, g300⟩ : ∃ z, z = T299.heap.size := ⟨_, rfl⟩
    rw [← g300] at A300 D300 st300
    refine Run.pre st300 ?_
    have gn_b300 : n0 ≤ b300 := Nat.le_trans (Nat.le_trans Z0 K299.1) (Nat.le_of_eq g300.symm)
    have sz_b300 : h0.size ≤ b300 := Nat.le_trans K299.1 (Nat.le_of_eq g300.symm)
    have K300 : Keep h0 h300 [] := K299.ext E300
    have F_modCount_b300 : Fld Z h300 b300 "java/util/AbstractList" "modCount" "I" (.int (0 : Int32)) := D300 (Or.inl (hw _ (List.mem_of_getElem? (i := 46) rfl))) (ty := .int) (by decide)
    have F_elementData_b300 : Fld Z h300 b300 "java/util/ArrayList" "elementData" "[Ljava/lang/Object;" .null := D300 (Or.inl (hw _ (List.mem_of_getElem? (i := 49) rfl))) (ty := (.array (.object "java/lang/Object"))) (by decide)
    have F_size_b300 : Fld Z h300 b300 "java/util/ArrayList" "size" "I" (.int (0 : Int32)) := D300 (Or.inl (hw _ (List.mem_of_getElem? (i := 115) rfl))) (ty := .int) (by decide)
    show Run p e below s _ _ _ (T300.setTop (mkF m 26 #[.val (.int kz), .val (.int xa), .val (.int xb), .val (.int xc), .val (.int (0 : Int32)), .val (.ref o295), .val (.ref o297), .val (.ref o299), .unset, .unset, .unset] [(.ref b300)]))
    refine Run.pre (fun _ k => XS.dup X300.here hx rfl (hb hby at_26) rfl rfl k) ?_
    show Run p e below s _ _ _ (T300.setTop (mkF m 27 #[.val (.int kz), .val (.int xa), .val (.int xb), .val (.int xc), .val (.int (0 : Int32)), .val (.ref o295), .val (.ref o297), .val (.ref o299), .unset, .unset, .unset] [(.ref b300), (.ref b300)]))
    have f301 := ((f298.keep Kc299 all0).ext E300)
    refine Run.callI hS (by first | exact Nat.le_refl _ | (rw [e300]; exact (Nat.le_trans (Nat.le_refl _) E300.1))) X300 hx hZ (y := (⟨"java/util/ArrayList", "<init>", "()V"⟩ : MethodName)) rfl hown (hw _ (List.mem_of_getElem? (i := 29) rfl)) (hw _ (List.mem_of_getElem? (i := 30) rfl)) (hw _ (List.mem_of_getElem? (i := 31) rfl)) (hw _ (List.mem_of_getElem? (i := 28) rfl)) (by decide) (a := b300) (W := 1) (rmInit l Z a0 hw b300 dd kd h300 n0 (Nat.le_trans Z0 K300.1) f301 SD AD A300 F_modCount_b300 F_elementData_b300 F_size_b300 gn_b300) e300 (by decide) (by decide) (by decide) (by decide) (fun _ _ => trivial) (g := (mkF m 27 #[.val (.int kz), .val (.int xa), .val (.int xb), .val (.int xc), .val (.int (0 : Int32)), .val (.ref o295), .val (.ref o297), .val (.ref o299), .unset, .unset, .unset] [(.ref b300), (.ref b300)])) rfl (by rw [hml]; rfl) (argsL := []) (rest := [(.ref b300)]) (lenOf pd_5 rfl) rfl (by show 2 * 0 + _ ≤ _; exact Nat.le_of_eq rfl) (hb hby at_27) ?_
    intro v302 T302 L302 X302 hS hZ hown hV302 hQ302
    obtain ⟨rfl, Nq302, Kc302, fm302, fe302, fs302⟩ := hQ302
    have N302 := Fr.app N299 Nq302
    have K302 : Keep h0 T302.heap [] := K300.trans Kc302 (allS (Or.inr sz_b300) all0)
    show Run p e below s _ _ _ (T302.setTop (mkF m 30 #[.val (.int kz), .val (.int xa), .val (.int xb), .val (.int xc), .val (.int (0 : Int32)), .val (.ref o295), .val (.ref o297), .val (.ref o299), .unset, .unset, .unset] [(.ref b300)]))
    refine Run.pre (fun _ k => XS.astore X302.here hx rfl (hb hby at_30) rfl rfl (l' := #[.val (.int kz), .val (.int xa), .val (.int xb), .val (.int xc), .val (.int (0 : Int32)), .val (.ref o295), .val (.ref o297), .val (.ref o299), .val (.ref b300), .unset, .unset]) rfl k) ?_
    show Run p e below s _ _ _ (T302.setTop (mkF m 32 #[.val (.int kz), .val (.int xa), .val (.int xb), .val (.int xc), .val (.int (0 : Int32)), .val (.ref o295), .val (.ref o297), .val (.ref o299), .val (.ref b300), .unset, .unset] []))
    refine Run.pre (fun _ k => XS.iload X302.here hx rfl (hb hby at_32) rfl  k) ?_
    show Run p e below s _ _ _ (T302.setTop (mkF m 34 #[.val (.int kz), .val (.int xa), .val (.int xb), .val (.int xc), .val (.int (0 : Int32)), .val (.ref o295), .val (.ref o297), .val (.ref o299), .val (.ref b300), .unset, .unset] [(.int (0 : Int32))]))
    refine Run.pre (fun _ k => XS.ifYes X302.here hx rfl (pc0 := 34) (pc' := 45) rfl (hb hby at_34) rfl ((if0 _ _).trans (flt ((by decide) : ¬ ((0 : Int32) < (0 : Int32)))).2.2.2) (by decide) (by decide) k) ?_
    show Run p e below s _ _ _ (T302.setTop (mkF m 45 #[.val (.int kz), .val (.int xa), .val (.int xb), .val (.int xc), .val (.int (0 : Int32)), .val (.ref o295), .val (.ref o297), .val (.ref o299), .val (.ref b300), .unset, .unset] []))
    refine Run.pre (fun _ k => XS.iload X302.here hx rfl (hb hby at_45) rfl  k) ?_
    show Run p e below s _ _ _ (T302.setTop (mkF m 47 #[.val (.int kz), .val (.int xa), .val (.int xb), .val (.int xc), .val (.int (0 : Int32)), .val (.ref o295), .val (.ref o297), .val (.ref o299), .val (.ref b300), .unset, .unset] [(.int (0 : Int32))]))
    refine Run.pre (fun _ k => XS.iconst X302.here hx rfl (hb hby at_47) k) ?_
    show Run p e below s _ _ _ (T302.setTop (mkF m 48 #[.val (.int kz), .val (.int xa), .val (.int xb), .val (.int xc), .val (.int (0 : Int32)), .val (.ref o295), .val (.ref o297), .val (.ref o299), .val (.ref b300), .unset, .unset] [(.int (1 : Int32)), (.int (0 : Int32))]))
    refine Run.pre (fun _ k => XS.icmpYes X302.here hx rfl (pc0 := 48) (pc' := 59) rfl (hb hby at_48) rfl (flt ((by decide) : ¬ ((1 : Int32) < (0 : Int32)))).2.2.2 (by decide) (by decide) k) ?_
    show Run p e below s _ _ _ (T302.setTop (mkF m 59 #[.val (.int kz), .val (.int xa), .val (.int xb), .val (.int xc), .val (.int (0 : Int32)), .val (.ref o295), .val (.ref o297), .val (.ref o299), .val (.ref b300), .unset, .unset] []))
    refine Run.pre (fun _ k => XS.iload X302.here hx rfl (hb hby at_59) rfl  k) ?_
    show Run p e below s _ _ _ (T302.setTop (mkF m 61 #[.val (.int kz), .val (.int xa), .val (.int xb), .val (.int xc), .val (.int (0 : Int32)), .val (.ref o295), .val (.ref o297), .val (.ref o299), .val (.ref b300), .unset, .unset] [(.int (0 : Int32))]))
    refine Run.pre (fun _ k => XS.iconst X302.here hx rfl (hb hby at_61) k) ?_
    show Run p e below s _ _ _ (T302.setTop (mkF m 62 #[.val (.int kz), .val (.int xa), .val (.int xb), .val (.int xc), .val (.int (0 : Int32)), .val (.ref o295), .val (.ref o297), .val (.ref o299), .val (.ref b300), .unset, .unset] [(.int (2 : Int32)), (.int (0 : Int32))]))
    refine Run.pre (fun _ k => XS.icmpYes X302.here hx rfl (pc0 := 62) (pc' := 73) rfl (hb hby at_62) rfl (flt ((by decide) : ¬ ((2 : Int32) < (0 : Int32)))).2.2.2 (by decide) (by decide) k) ?_
    show Run p e below s _ _ _ (T302.setTop (mkF m 73 #[.val (.int kz), .val (.int xa), .val (.int xb), .val (.int xc), .val (.int (0 : Int32)), .val (.ref o295), .val (.ref o297), .val (.ref o299), .val (.ref b300), .unset, .unset] []))
    refine Run.pre (fun _ k => XS.aload X302.here hx rfl (hb hby at_73) rfl rfl k) ?_
    show Run p e below s _ _ _ (T302.setTop (mkF m 75 #[.val (.int kz), .val (.int xa), .val (.int xb), .val (.int xc), .val (.int (0 : Int32)), .val (.ref o295), .val (.ref o297), .val (.ref o299), .val (.ref b300), .unset, .unset] [(.ref b300)]))
    have f303 := (f301.keep Kc302 (allS gn_b300 all0))
    refine Run.callS hS (Nat.le_refl _) X302 hx hZ (y := (⟨"com/example/portcullis/portcullis/http/GateDecision", "challenged", "(Ljava/util/List;)Lcom/example/portcullis/portcullis/http/GateDecision;"⟩ : MethodName)) hown (hw _ (List.mem_of_getElem? (i := 50) rfl)) (hw _ (List.mem_of_getElem? (i := 51) rfl)) (hw _ (List.mem_of_getElem? (i := 52) rfl)) (hw _ (List.mem_of_getElem? (i := 53) rfl)) (by decide) (W := 0) (rmCh l Z a0 hw we b300 T302.heap n0 (Nat.le_trans Z0 K302.1) f303 SE) rfl (by decide) (by decide) (by decide) (by decide) (fun _ _ => trivial) (g := (mkF m 75 #[.val (.int kz), .val (.int xa), .val (.int xb), .val (.int xc), .val (.int (0 : Int32)), .val (.ref o295), .val (.ref o297), .val (.ref o299), .val (.ref b300), .unset, .unset] [(.ref b300)])) rfl (by rw [hml]; rfl) (argsL := [(.ref b300)]) (rest := []) (lenOf pd_15 rfl) rfl (by show 2 * 0 + _ ≤ _; exact Nat.le_of_eq rfl) (hb hby at_75) ?_
    intro v304 T304 L304 X304 hS hZ hown hV304 hQ304
    obtain ⟨b304, rfl, Nq304, Kc304, sz304, eg304, fg0_304, fg1_304, fg2_304, fg3_304⟩ := hQ304
    have N304 := Fr.app N302 Nq304
    have K304 : Keep h0 T304.heap [] := K302.trans Kc304 all0
    have sz_b304 : h0.size ≤ b304 := Nat.le_trans K302.1 sz304
    have gn_b304 : n0 ≤ b304 := Nat.le_trans Z0 sz_b304
    show Run p e below s _ _ _ (T304.setTop (mkF m 78 #[.val (.int kz), .val (.int xa), .val (.int xb), .val (.int xc), .val (.int (0 : Int32)), .val (.ref o295), .val (.ref o297), .val (.ref o299), .val (.ref b300), .unset, .unset] [(.ref b304)]))
    refine Run.pre (fun _ k => XS.astore X304.here hx rfl (hb hby at_78) rfl rfl (l' := #[.val (.int kz), .val (.int xa), .val (.int xb), .val (.int xc), .val (.int (0 : Int32)), .val (.ref o295), .val (.ref o297), .val (.ref o299), .val (.ref b300), .val (.ref b304), .unset]) rfl k) ?_
    show Run p e below s _ _ _ (T304.setTop (mkF m 80 #[.val (.int kz), .val (.int xa), .val (.int xb), .val (.int xc), .val (.int (0 : Int32)), .val (.ref o295), .val (.ref o297), .val (.ref o299), .val (.ref b300), .val (.ref b304), .unset] []))
    refine Run.pre (fun _ k => XS.aload X304.here hx rfl (hb hby at_80) rfl rfl k) ?_
    show Run p e below s _ _ _ (T304.setTop (mkF m 82 #[.val (.int kz), .val (.int xa), .val (.int xb), .val (.int xc), .val (.int (0 : Int32)), .val (.ref o295), .val (.ref o297), .val (.ref o299), .val (.ref b300), .val (.ref b304), .unset] [(.ref b304)]))
    refine Run.pre (fun _ k => XS.ifnonnullYes X304.here hx rfl (pc0 := 82) (pc' := 87) rfl (hb hby at_82) rfl (by decide) (by decide) k) ?_
    show Run p e below s _ _ _ (T304.setTop (mkF m 87 #[.val (.int kz), .val (.int xa), .val (.int xb), .val (.int xc), .val (.int (0 : Int32)), .val (.ref o295), .val (.ref o297), .val (.ref o299), .val (.ref b300), .val (.ref b304), .unset] []))
    refine Run.pre (fun _ k => XS.aload X304.here hx rfl (hb hby at_87) rfl rfl k) ?_
    show Run p e below s _ _ _ (T304.setTop (mkF m 89 #[.val (.int kz), .val (.int xa), .val (.int xb), .val (.int xc), .val (.int (0 : Int32)), .val (.ref o295), .val (.ref o297), .val (.ref o299), .val (.ref b300), .val (.ref b304), .unset] [(.ref b304)]))
    refine Run.callV hS (Nat.le_refl _) X304 hx hZ (y := (⟨"com/example/portcullis/portcullis/http/GateDecision", "status", "()I"⟩ : MethodName)) (z := (⟨"com/example/portcullis/portcullis/http/GateDecision", "status", "()I"⟩ : MethodName)) hown (hw _ (List.mem_of_getElem? (i := 78) rfl)) (hw _ (List.mem_of_getElem? (i := 79) rfl)) (notFace_of_selects (args := #[]) (mvT hZ (hw _ (List.mem_of_getElem? (i := 81) rfl)))) (hw _ (List.mem_of_getElem? (i := 81) rfl)) (hw _ (List.mem_of_getElem? (i := 80) rfl)) (hw _ (List.mem_of_getElem? (i := 82) rfl)) (hw _ (List.mem_of_getElem? (i := 52) rfl)) (by decide) (b := b304) eg304 (W := 0) (rmget_status l Z a0 hw b304 (401 : Int32) T304.heap n0 (Nat.le_trans Z0 K304.1) fg0_304) rfl (by decide) (by decide) (by decide) (by decide) (fun _ _ => trivial) (g := (mkF m 89 #[.val (.int kz), .val (.int xa), .val (.int xb), .val (.int xc), .val (.int (0 : Int32)), .val (.ref o295), .val (.ref o297), .val (.ref o299), .val (.ref b300), .val (.ref b304), .unset] [(.ref b304)])) rfl (by rw [hml]; rfl) (argsL := []) (rest := []) (lenOf pd_16 rfl) rfl (by show 2 * 0 + _ ≤ _; exact Nat.le_of_eq rfl) (hb hby at_89) ?_
    intro v305 T305 L305 X305 hS hZ hown hV305 hQ305
    obtain ⟨rfl, Nq305, he305⟩ := hQ305
    have N305 := Fr.app N304 Nq305
    have e305 : T305.heap = T304.heap := he305
    show Run p e below s _ _ _ (T305.setTop (mkF m 92 #[.val (.int kz), .val (.int xa), .val (.int xb), .val (.int xc), .val (.int (0 : Int32)), .val (.ref o295), .val (.ref o297), .val (.ref o299), .val (.ref b300), .val (.ref b304), .unset] [(.int (401 : Int32))]))
    refine Run.pre (fun _ k => XS.sipush X305.here hx rfl (hb hby at_92) k) ?_
    show Run p e below s _ _ _ (T305.setTop (mkF m 95 #[.val (.int kz), .val (.int xa), .val (.int xb), .val (.int xc), .val (.int (0 : Int32)), .val (.ref o295), .val (.ref o297), .val (.ref o299), .val (.ref b300), .val (.ref b304), .unset] [(.int (401 : Int32)), (.int (401 : Int32))]))
    refine Run.pre (fun _ k => XS.icmpYes X305.here hx rfl (pc0 := 95) (pc' := 100) rfl (hb hby at_95) rfl (teq ((by decide) : (401 : Int32) = (401 : Int32))).1 (by decide) (by decide) k) ?_
    show Run p e below s _ _ _ (T305.setTop (mkF m 100 #[.val (.int kz), .val (.int xa), .val (.int xb), .val (.int xc), .val (.int (0 : Int32)), .val (.ref o295), .val (.ref o297), .val (.ref o299), .val (.ref b300), .val (.ref b304), .unset] []))
    refine Run.pre (fun _ k => XS.aload X305.here hx rfl (hb hby at_100) rfl rfl k) ?_
    show Run p e below s _ _ _ (T305.setTop (mkF m 102 #[.val (.int kz), .val (.int xa), .val (.int xb), .val (.int xc), .val (.int (0 : Int32)), .val (.ref o295), .val (.ref o297), .val (.ref o299), .val (.ref b300), .val (.ref b304), .unset] [(.ref b304)]))
    refine Run.callV hS (by first | exact Nat.le_refl _ | (rw [e305]; exact (Nat.le_of_eq (congrArg Array.size e305)))) X305 hx hZ (y := (⟨"com/example/portcullis/portcullis/http/GateDecision", "identity", "()Ljava/util/Optional;"⟩ : MethodName)) (z := (⟨"com/example/portcullis/portcullis/http/GateDecision", "identity", "()Ljava/util/Optional;"⟩ : MethodName)) hown (hw _ (List.mem_of_getElem? (i := 83) rfl)) (hw _ (List.mem_of_getElem? (i := 84) rfl)) (notFace_of_selects (args := #[]) (mvT hZ (hw _ (List.mem_of_getElem? (i := 86) rfl)))) (hw _ (List.mem_of_getElem? (i := 86) rfl)) (hw _ (List.mem_of_getElem? (i := 85) rfl)) (hw _ (List.mem_of_getElem? (i := 87) rfl)) (hw _ (List.mem_of_getElem? (i := 52) rfl)) (by decide) (b := b304) eg304 (W := 0) (rmget_identity l Z a0 hw b304 we T304.heap n0 (Nat.le_trans Z0 K304.1) fg1_304) e305 (by decide) (by decide) (by decide) (by decide) (fun _ _ => trivial) (g := (mkF m 102 #[.val (.int kz), .val (.int xa), .val (.int xb), .val (.int xc), .val (.int (0 : Int32)), .val (.ref o295), .val (.ref o297), .val (.ref o299), .val (.ref b300), .val (.ref b304), .unset] [(.ref b304)])) rfl (by rw [hml]; rfl) (argsL := []) (rest := []) (lenOf pd_12 rfl) rfl (by show 2 * 0 + _ ≤ _; exact Nat.le_of_eq rfl) (hb hby at_102) ?_
    intro v306 T306 L306 X306 hS hZ hown hV306 hQ306
    obtain ⟨rfl, Nq306, he306⟩ := hQ306
    have N306 := Fr.app N305 Nq306
    have e306 : T306.heap = T304.heap := he306
    show Run p e below s _ _ _ (T306.setTop (mkF m 105 #[.val (.int kz), .val (.int xa), .val (.int xb), .val (.int xc), .val (.int (0 : Int32)), .val (.ref o295), .val (.ref o297), .val (.ref o299), .val (.ref b300), .val (.ref b304), .unset] [(.ref we)]))
    refine Run.pre (fun _ k => XS.ifnullNo X306.here hx rfl (hb hby at_105) rfl k) ?_
    show Run p e below s _ _ _ (T306.setTop (mkF m 108 #[.val (.int kz), .val (.int xa), .val (.int xb), .val (.int xc), .val (.int (0 : Int32)), .val (.ref o295), .val (.ref o297), .val (.ref o299), .val (.ref b300), .val (.ref b304), .unset] []))
    refine Run.pre (fun _ k => XS.aload X306.here hx rfl (hb hby at_108) rfl rfl k) ?_
    show Run p e below s _ _ _ (T306.setTop (mkF m 110 #[.val (.int kz), .val (.int xa), .val (.int xb), .val (.int xc), .val (.int (0 : Int32)), .val (.ref o295), .val (.ref o297), .val (.ref o299), .val (.ref b300), .val (.ref b304), .unset] [(.ref b304)]))
    refine Run.callV hS (by first | exact Nat.le_refl _ | (rw [e306]; exact (Nat.le_of_eq (congrArg Array.size e306)))) X306 hx hZ (y := (⟨"com/example/portcullis/portcullis/http/GateDecision", "identity", "()Ljava/util/Optional;"⟩ : MethodName)) (z := (⟨"com/example/portcullis/portcullis/http/GateDecision", "identity", "()Ljava/util/Optional;"⟩ : MethodName)) hown (hw _ (List.mem_of_getElem? (i := 83) rfl)) (hw _ (List.mem_of_getElem? (i := 84) rfl)) (notFace_of_selects (args := #[]) (mvT hZ (hw _ (List.mem_of_getElem? (i := 86) rfl)))) (hw _ (List.mem_of_getElem? (i := 86) rfl)) (hw _ (List.mem_of_getElem? (i := 85) rfl)) (hw _ (List.mem_of_getElem? (i := 87) rfl)) (hw _ (List.mem_of_getElem? (i := 52) rfl)) (by decide) (b := b304) eg304 (W := 0) (rmget_identity l Z a0 hw b304 we T304.heap n0 (Nat.le_trans Z0 K304.1) fg1_304) e306 (by decide) (by decide) (by decide) (by decide) (fun _ _ => trivial) (g := (mkF m 110 #[.val (.int kz), .val (.int xa), .val (.int xb), .val (.int xc), .val (.int (0 : Int32)), .val (.ref o295), .val (.ref o297), .val (.ref o299), .val (.ref b300), .val (.ref b304), .unset] [(.ref b304)])) rfl (by rw [hml]; rfl) (argsL := []) (rest := []) (lenOf pd_12 rfl) rfl (by show 2 * 0 + _ ≤ _; exact Nat.le_of_eq rfl) (hb hby at_110) ?_
    intro v307 T307 L307 X307 hS hZ hown hV307 hQ307
    obtain ⟨rfl, Nq307, he307⟩ := hQ307
    have N307 := Fr.app N306 Nq307
    have e307 : T307.heap = T304.heap := he307
    show Run p e below s _ _ _ (T307.setTop (mkF m 113 #[.val (.int kz), .val (.int xa), .val (.int xb), .val (.int xc), .val (.int (0 : Int32)), .val (.ref o295), .val (.ref o297), .val (.ref o299), .val (.ref b300), .val (.ref b304), .unset] [(.ref we)]))
    have f308 := (f303.keep Kc304 all0)
    refine Run.callV hS (by first | exact Nat.le_refl _ | (rw [e307]; exact (Nat.le_of_eq (congrArg Array.size e307)))) X307 hx hZ (y := (⟨"java/util/Optional", "isPresent", "()Z"⟩ : MethodName)) (z := (⟨"java/util/Optional", "isPresent", "()Z"⟩ : MethodName)) hown (hw _ (List.mem_of_getElem? (i := 88) rfl)) (hw _ (List.mem_of_getElem? (i := 89) rfl)) (notFace_of_selects (args := #[]) (mvT hZ (hw _ (List.mem_of_getElem? (i := 91) rfl)))) (hw _ (List.mem_of_getElem? (i := 91) rfl)) (hw _ (List.mem_of_getElem? (i := 90) rfl)) (hw _ (List.mem_of_getElem? (i := 92) rfl)) (hw _ (List.mem_of_getElem? (i := 58) rfl)) (by decide) (b := we) (EE.ext f308.2) (W := 0) (rmPr l Z a0 hw we T304.heap n0 (Nat.le_trans Z0 K304.1) (FW.ext f308.2)) e307 (by decide) (by decide) (by decide) (by decide) (fun _ _ => trivial) (g := (mkF m 113 #[.val (.int kz), .val (.int xa), .val (.int xb), .val (.int xc), .val (.int (0 : Int32)), .val (.ref o295), .val (.ref o297), .val (.ref o299), .val (.ref b300), .val (.ref b304), .unset] [(.ref we)])) rfl (by rw [hml]; rfl) (argsL := []) (rest := []) (lenOf pd_17 rfl) rfl (by show 2 * 0 + _ ≤ _; exact Nat.le_of_eq rfl) (hb hby at_113) ?_
    intro v309 T309 L309 X309 hS hZ hown hV309 hQ309
    obtain ⟨rfl, Nq309, he309⟩ := hQ309
    have N309 := Fr.app N307 Nq309
    have e309 : T309.heap = T304.heap := he309
    show Run p e below s _ _ _ (T309.setTop (mkF m 116 #[.val (.int kz), .val (.int xa), .val (.int xb), .val (.int xc), .val (.int (0 : Int32)), .val (.ref o295), .val (.ref o297), .val (.ref o299), .val (.ref b300), .val (.ref b304), .unset] [(.int (0 : Int32))]))
    refine Run.pre (fun _ k => XS.ifYes X309.here hx rfl (pc0 := 116) (pc' := 121) rfl (hb hby at_116) rfl ((if0 _ _).trans (teq ((by decide) : (0 : Int32) = (0 : Int32))).1) (by decide) (by decide) k) ?_
    show Run p e below s _ _ _ (T309.setTop (mkF m 121 #[.val (.int kz), .val (.int xa), .val (.int xb), .val (.int xc), .val (.int (0 : Int32)), .val (.ref o295), .val (.ref o297), .val (.ref o299), .val (.ref b300), .val (.ref b304), .unset] []))
    refine Run.pre (fun _ k => XS.aload X309.here hx rfl (hb hby at_121) rfl rfl k) ?_
    show Run p e below s _ _ _ (T309.setTop (mkF m 123 #[.val (.int kz), .val (.int xa), .val (.int xb), .val (.int xc), .val (.int (0 : Int32)), .val (.ref o295), .val (.ref o297), .val (.ref o299), .val (.ref b300), .val (.ref b304), .unset] [(.ref b304)]))
    refine Run.callV hS (by first | exact Nat.le_refl _ | (rw [e309]; exact (Nat.le_of_eq (congrArg Array.size e309)))) X309 hx hZ (y := (⟨"com/example/portcullis/portcullis/http/GateDecision", "mechanism", "()Ljava/util/Optional;"⟩ : MethodName)) (z := (⟨"com/example/portcullis/portcullis/http/GateDecision", "mechanism", "()Ljava/util/Optional;"⟩ : MethodName)) hown (hw _ (List.mem_of_getElem? (i := 95) rfl)) (hw _ (List.mem_of_getElem? (i := 96) rfl)) (notFace_of_selects (args := #[]) (mvT hZ (hw _ (List.mem_of_getElem? (i := 98) rfl)))) (hw _ (List.mem_of_getElem? (i := 98) rfl)) (hw _ (List.mem_of_getElem? (i := 97) rfl)) (hw _ (List.mem_of_getElem? (i := 99) rfl)) (hw _ (List.mem_of_getElem? (i := 52) rfl)) (by decide) (b := b304) eg304 (W := 0) (rmget_mechanism l Z a0 hw b304 we T304.heap n0 (Nat.le_trans Z0 K304.1) fg2_304) e309 (by decide) (by decide) (by decide) (by decide) (fun _ _ => trivial) (g := (mkF m 123 #[.val (.int kz), .val (.int xa), .val (.int xb), .val (.int xc), .val (.int (0 : Int32)), .val (.ref o295), .val (.ref o297), .val (.ref o299), .val (.ref b300), .val (.ref b304), .unset] [(.ref b304)])) rfl (by rw [hml]; rfl) (argsL := []) (rest := []) (lenOf pd_12 rfl) rfl (by show 2 * 0 + _ ≤ _; exact Nat.le_of_eq rfl) (hb hby at_123) ?_
    intro v310 T310 L310 X310 hS hZ hown hV310 hQ310
    obtain ⟨rfl, Nq310, he310⟩ := hQ310
    have N310 := Fr.app N309 Nq310
    have e310 : T310.heap = T304.heap := he310
    show Run p e below s _ _ _ (T310.setTop (mkF m 126 #[.val (.int kz), .val (.int xa), .val (.int xb), .val (.int xc), .val (.int (0 : Int32)), .val (.ref o295), .val (.ref o297), .val (.ref o299), .val (.ref b300), .val (.ref b304), .unset] [(.ref we)]))
    refine Run.pre (fun _ k => XS.ifnullNo X310.here hx rfl (hb hby at_126) rfl k) ?_
    show Run p e below s _ _ _ (T310.setTop (mkF m 129 #[.val (.int kz), .val (.int xa), .val (.int xb), .val (.int xc), .val (.int (0 : Int32)), .val (.ref o295), .val (.ref o297), .val (.ref o299), .val (.ref b300), .val (.ref b304), .unset] []))
    refine Run.pre (fun _ k => XS.aload X310.here hx rfl (hb hby at_129) rfl rfl k) ?_
    show Run p e below s _ _ _ (T310.setTop (mkF m 131 #[.val (.int kz), .val (.int xa), .val (.int xb), .val (.int xc), .val (.int (0 : Int32)), .val (.ref o295), .val (.ref o297), .val (.ref o299), .val (.ref b300), .val (.ref b304), .unset] [(.ref b304)]))
    refine Run.callV hS (by first | exact Nat.le_refl _ | (rw [e310]; exact (Nat.le_of_eq (congrArg Array.size e310)))) X310 hx hZ (y := (⟨"com/example/portcullis/portcullis/http/GateDecision", "mechanism", "()Ljava/util/Optional;"⟩ : MethodName)) (z := (⟨"com/example/portcullis/portcullis/http/GateDecision", "mechanism", "()Ljava/util/Optional;"⟩ : MethodName)) hown (hw _ (List.mem_of_getElem? (i := 95) rfl)) (hw _ (List.mem_of_getElem? (i := 96) rfl)) (notFace_of_selects (args := #[]) (mvT hZ (hw _ (List.mem_of_getElem? (i := 98) rfl)))) (hw _ (List.mem_of_getElem? (i := 98) rfl)) (hw _ (List.mem_of_getElem? (i := 97) rfl)) (hw _ (List.mem_of_getElem? (i := 99) rfl)) (hw _ (List.mem_of_getElem? (i := 52) rfl)) (by decide) (b := b304) eg304 (W := 0) (rmget_mechanism l Z a0 hw b304 we T304.heap n0 (Nat.le_trans Z0 K304.1) fg2_304) e310 (by decide) (by decide) (by decide) (by decide) (fun _ _ => trivial) (g := (mkF m 131 #[.val (.int kz), .val (.int xa), .val (.int xb), .val (.int xc), .val (.int (0 : Int32)), .val (.ref o295), .val (.ref o297), .val (.ref o299), .val (.ref b300), .val (.ref b304), .unset] [(.ref b304)])) rfl (by rw [hml]; rfl) (argsL := []) (rest := []) (lenOf pd_12 rfl) rfl (by show 2 * 0 + _ ≤ _; exact Nat.le_of_eq rfl) (hb hby at_131) ?_
    intro v311 T311 L311 X311 hS hZ hown hV311 hQ311
    obtain ⟨rfl, Nq311, he311⟩ := hQ311
    have N311 := Fr.app N310 Nq311
    have e311 : T311.heap = T304.heap := he311
    show Run p e below s _ _ _ (T311.setTop (mkF m 134 #[.val (.int kz), .val (.int xa), .val (.int xb), .val (.int xc), .val (.int (0 : Int32)), .val (.ref o295), .val (.ref o297), .val (.ref o299), .val (.ref b300), .val (.ref b304), .unset] [(.ref we)]))
    refine Run.callV hS (by first | exact Nat.le_refl _ | (rw [e311]; exact (Nat.le_of_eq (congrArg Array.size e311)))) X311 hx hZ (y := (⟨"java/util/Optional", "isPresent", "()Z"⟩ : MethodName)) (z := (⟨"java/util/Optional", "isPresent", "()Z"⟩ : MethodName)) hown (hw _ (List.mem_of_getElem? (i := 88) rfl)) (hw _ (List.mem_of_getElem? (i := 89) rfl)) (notFace_of_selects (args := #[]) (mvT hZ (hw _ (List.mem_of_getElem? (i := 91) rfl)))) (hw _ (List.mem_of_getElem? (i := 91) rfl)) (hw _ (List.mem_of_getElem? (i := 90) rfl)) (hw _ (List.mem_of_getElem? (i := 92) rfl)) (hw _ (List.mem_of_getElem? (i := 58) rfl)) (by decide) (b := we) (EE.ext f308.2) (W := 0) (rmPr l Z a0 hw we T304.heap n0 (Nat.le_trans Z0 K304.1) (FW.ext f308.2)) e311 (by decide) (by decide) (by decide) (by decide) (fun _ _ => trivial) (g := (mkF m 134 #[.val (.int kz), .val (.int xa), .val (.int xb), .val (.int xc), .val (.int (0 : Int32)), .val (.ref o295), .val (.ref o297), .val (.ref o299), .val (.ref b300), .val (.ref b304), .unset] [(.ref we)])) rfl (by rw [hml]; rfl) (argsL := []) (rest := []) (lenOf pd_17 rfl) rfl (by show 2 * 0 + _ ≤ _; exact Nat.le_of_eq rfl) (hb hby at_134) ?_
    intro v312 T312 L312 X312 hS hZ hown hV312 hQ312
    obtain ⟨rfl, Nq312, he312⟩ := hQ312
    have N312 := Fr.app N311 Nq312
    have e312 : T312.heap = T304.heap := he312
    show Run p e below s _ _ _ (T312.setTop (mkF m 137 #[.val (.int kz), .val (.int xa), .val (.int xb), .val (.int xc), .val (.int (0 : Int32)), .val (.ref o295), .val (.ref o297), .val (.ref o299), .val (.ref b300), .val (.ref b304), .unset] [(.int (0 : Int32))]))
    refine Run.pre (fun _ k => XS.ifYes X312.here hx rfl (pc0 := 137) (pc' := 142) rfl (hb hby at_137) rfl ((if0 _ _).trans (teq ((by decide) : (0 : Int32) = (0 : Int32))).1) (by decide) (by decide) k) ?_
    show Run p e below s _ _ _ (T312.setTop (mkF m 142 #[.val (.int kz), .val (.int xa), .val (.int xb), .val (.int xc), .val (.int (0 : Int32)), .val (.ref o295), .val (.ref o297), .val (.ref o299), .val (.ref b300), .val (.ref b304), .unset] []))
    refine Run.pre (fun _ k => XS.aload X312.here hx rfl (hb hby at_142) rfl rfl k) ?_
    show Run p e below s _ _ _ (T312.setTop (mkF m 144 #[.val (.int kz), .val (.int xa), .val (.int xb), .val (.int xc), .val (.int (0 : Int32)), .val (.ref o295), .val (.ref o297), .val (.ref o299), .val (.ref b300), .val (.ref b304), .unset] [(.ref b304)]))
    refine Run.callV hS (by first | exact Nat.le_refl _ | (rw [e312]; exact (Nat.le_of_eq (congrArg Array.size e312)))) X312 hx hZ (y := (⟨"com/example/portcullis/portcullis/http/GateDecision", "challenges", "()Ljava/util/List;"⟩ : MethodName)) (z := (⟨"com/example/portcullis/portcullis/http/GateDecision", "challenges", "()Ljava/util/List;"⟩ : MethodName)) hown (hw _ (List.mem_of_getElem? (i := 100) rfl)) (hw _ (List.mem_of_getElem? (i := 101) rfl)) (notFace_of_selects (args := #[]) (mvT hZ (hw _ (List.mem_of_getElem? (i := 103) rfl)))) (hw _ (List.mem_of_getElem? (i := 103) rfl)) (hw _ (List.mem_of_getElem? (i := 102) rfl)) (hw _ (List.mem_of_getElem? (i := 104) rfl)) (hw _ (List.mem_of_getElem? (i := 52) rfl)) (by decide) (b := b304) eg304 (W := 0) (rmget_challenges l Z a0 hw b304 b300 T304.heap n0 (Nat.le_trans Z0 K304.1) fg3_304) e312 (by decide) (by decide) (by decide) (by decide) (fun _ _ => trivial) (g := (mkF m 144 #[.val (.int kz), .val (.int xa), .val (.int xb), .val (.int xc), .val (.int (0 : Int32)), .val (.ref o295), .val (.ref o297), .val (.ref o299), .val (.ref b300), .val (.ref b304), .unset] [(.ref b304)])) rfl (by rw [hml]; rfl) (argsL := []) (rest := []) (lenOf pd_18 rfl) rfl (by show 2 * 0 + _ ≤ _; exact Nat.le_of_eq rfl) (hb hby at_144) ?_
    intro v313 T313 L313 X313 hS hZ hown hV313 hQ313
    obtain ⟨rfl, Nq313, he313⟩ := hQ313
    have N313 := Fr.app N312 Nq313
    have e313 : T313.heap = T304.heap := he313
    show Run p e below s _ _ _ (T313.setTop (mkF m 147 #[.val (.int kz), .val (.int xa), .val (.int xb), .val (.int xc), .val (.int (0 : Int32)), .val (.ref o295), .val (.ref o297), .val (.ref o299), .val (.ref b300), .val (.ref b304), .unset] [(.ref b300)]))
    refine Run.pre (fun _ k => XS.astore X313.here hx rfl (hb hby at_147) rfl rfl (l' := #[.val (.int kz), .val (.int xa), .val (.int xb), .val (.int xc), .val (.int (0 : Int32)), .val (.ref o295), .val (.ref o297), .val (.ref o299), .val (.ref b300), .val (.ref b304), .val (.ref b300)]) rfl k) ?_
    show Run p e below s _ _ _ (T313.setTop (mkF m 149 #[.val (.int kz), .val (.int xa), .val (.int xb), .val (.int xc), .val (.int (0 : Int32)), .val (.ref o295), .val (.ref o297), .val (.ref o299), .val (.ref b300), .val (.ref b304), .val (.ref b300)] []))
    refine Run.pre (fun _ k => XS.aload X313.here hx rfl (hb hby at_149) rfl rfl k) ?_
    show Run p e below s _ _ _ (T313.setTop (mkF m 151 #[.val (.int kz), .val (.int xa), .val (.int xb), .val (.int xc), .val (.int (0 : Int32)), .val (.ref o295), .val (.ref o297), .val (.ref o299), .val (.ref b300), .val (.ref b304), .val (.ref b300)] [(.ref b300)]))
    refine Run.pre (fun _ k => XS.ifnullNo X313.here hx rfl (hb hby at_151) rfl k) ?_
    show Run p e below s _ _ _ (T313.setTop (mkF m 154 #[.val (.int kz), .val (.int xa), .val (.int xb), .val (.int xc), .val (.int (0 : Int32)), .val (.ref o295), .val (.ref o297), .val (.ref o299), .val (.ref b300), .val (.ref b304), .val (.ref b300)] []))
    refine Run.pre (fun _ k => XS.aload X313.here hx rfl (hb hby at_154) rfl rfl k) ?_
    show Run p e below s _ _ _ (T313.setTop (mkF m 156 #[.val (.int kz), .val (.int xa), .val (.int xb), .val (.int xc), .val (.int (0 : Int32)), .val (.ref o295), .val (.ref o297), .val (.ref o299), .val (.ref b300), .val (.ref b304), .val (.ref b300)] [(.ref b300)]))
    have f314 := (fs302.keep Kc304 nin0)
    have f316 := ((A300.keep Kc302).keep Kc304)
    refine Run.callF hS (by first | exact Nat.le_refl _ | (rw [e313]; exact (Nat.le_of_eq (congrArg Array.size e313)))) X313 hx hZ (xi := (⟨"java/util/List", "size", "()I"⟩ : MethodName)) (y := (⟨"java/util/ArrayList", "size", "()I"⟩ : MethodName)) hown (hw _ (List.mem_of_getElem? (i := 105) rfl)) (hw _ (List.mem_of_getElem? (i := 106) rfl)) (mvT (s := s.setVm _) hZ (hw _ (List.mem_of_getElem? (i := 107) rfl))) (hw _ (List.mem_of_getElem? (i := 108) rfl)) (hw _ (List.mem_of_getElem? (i := 109) rfl)) (hw _ (List.mem_of_getElem? (i := 110) rfl)) (hw _ (List.mem_of_getElem? (i := 111) rfl)) (hw _ (List.mem_of_getElem? (i := 112) rfl)) (hw _ (List.mem_of_getElem? (i := 113) rfl)) (hw _ (List.mem_of_getElem? (i := 28) rfl)) (by decide) (b := b300) f316 (W := 0) (rmSz l Z a0 hw b300 (0 : Int32) T304.heap n0 (Nat.le_trans Z0 K304.1) f314) e313 (by decide) (by decide) (by decide) (by decide) (fun _ _ => trivial) (g := (mkF m 156 #[.val (.int kz), .val (.int xa), .val (.int xb), .val (.int xc), .val (.int (0 : Int32)), .val (.ref o295), .val (.ref o297), .val (.ref o299), .val (.ref b300), .val (.ref b304), .val (.ref b300)] [(.ref b300)])) rfl (by rw [hml]; rfl) (argsL := []) (rest := []) (lenOf pd_16 rfl) rfl (by show 2 * 0 + _ ≤ _; exact Nat.le_of_eq rfl) (hb hby at_156) ?_
    intro v315 T315 L315 X315 hS hZ hown hV315 hQ315
    obtain ⟨rfl, Nq315, he315⟩ := hQ315
    have N315 := Fr.app N313 Nq315
    have e315 : T315.heap = T304.heap := he315
    show Run p e below s _ _ _ (T315.setTop (mkF m 161 #[.val (.int kz), .val (.int xa), .val (.int xb), .val (.int xc), .val (.int (0 : Int32)), .val (.ref o295), .val (.ref o297), .val (.ref o299), .val (.ref b300), .val (.ref b304), .val (.ref b300)] [(.int (0 : Int32))]))
    refine Run.pre (fun _ k => XS.iload X315.here hx rfl (hb hby at_161) rfl  k) ?_
    show Run p e below s _ _ _ (T315.setTop (mkF m 163 #[.val (.int kz), .val (.int xa), .val (.int xb), .val (.int xc), .val (.int (0 : Int32)), .val (.ref o295), .val (.ref o297), .val (.ref o299), .val (.ref b300), .val (.ref b304), .val (.ref b300)] [(.int (0 : Int32)), (.int (0 : Int32))]))
    refine Run.pre (fun _ k => XS.icmpYes X315.here hx rfl (pc0 := 163) (pc' := 168) rfl (hb hby at_163) rfl (teq ((by decide) : (0 : Int32) = (0 : Int32))).1 (by decide) (by decide) k) ?_
    show Run p e below s _ _ _ (T315.setTop (mkF m 168 #[.val (.int kz), .val (.int xa), .val (.int xb), .val (.int xc), .val (.int (0 : Int32)), .val (.ref o295), .val (.ref o297), .val (.ref o299), .val (.ref b300), .val (.ref b304), .val (.ref b300)] []))
    refine Run.pre (fun _ k => XS.iload X315.here hx rfl (hb hby at_168) rfl  k) ?_
    show Run p e below s _ _ _ (T315.setTop (mkF m 170 #[.val (.int kz), .val (.int xa), .val (.int xb), .val (.int xc), .val (.int (0 : Int32)), .val (.ref o295), .val (.ref o297), .val (.ref o299), .val (.ref b300), .val (.ref b304), .val (.ref b300)] [(.int (0 : Int32))]))
    refine Run.pre (fun _ k => XS.ifYes X315.here hx rfl (pc0 := 170) (pc' := 191) rfl (hb hby at_170) rfl ((if0 _ _).trans (flt ((by decide) : ¬ ((0 : Int32) < (0 : Int32)))).2.2.2) (by decide) (by decide) k) ?_
    show Run p e below s _ _ _ (T315.setTop (mkF m 191 #[.val (.int kz), .val (.int xa), .val (.int xb), .val (.int xc), .val (.int (0 : Int32)), .val (.ref o295), .val (.ref o297), .val (.ref o299), .val (.ref b300), .val (.ref b304), .val (.ref b300)] []))
    refine Run.pre (fun _ k => XS.iload X315.here hx rfl (hb hby at_191) rfl  k) ?_
    show Run p e below s _ _ _ (T315.setTop (mkF m 193 #[.val (.int kz), .val (.int xa), .val (.int xb), .val (.int xc), .val (.int (0 : Int32)), .val (.ref o295), .val (.ref o297), .val (.ref o299), .val (.ref b300), .val (.ref b304), .val (.ref b300)] [(.int (0 : Int32))]))
    refine Run.pre (fun _ k => XS.iconst X315.here hx rfl (hb hby at_193) k) ?_
    show Run p e below s _ _ _ (T315.setTop (mkF m 194 #[.val (.int kz), .val (.int xa), .val (.int xb), .val (.int xc), .val (.int (0 : Int32)), .val (.ref o295), .val (.ref o297), .val (.ref o299), .val (.ref b300), .val (.ref b304), .val (.ref b300)] [(.int (1 : Int32)), (.int (0 : Int32))]))
    refine Run.pre (fun _ k => XS.icmpYes X315.here hx rfl (pc0 := 194) (pc' := 215) rfl (hb hby at_194) rfl (flt ((by decide) : ¬ ((1 : Int32) < (0 : Int32)))).2.2.2 (by decide) (by decide) k) ?_
    show Run p e below s _ _ _ (T315.setTop (mkF m 215 #[.val (.int kz), .val (.int xa), .val (.int xb), .val (.int xc), .val (.int (0 : Int32)), .val (.ref o295), .val (.ref o297), .val (.ref o299), .val (.ref b300), .val (.ref b304), .val (.ref b300)] []))
    refine Run.pre (fun _ k => XS.iload X315.here hx rfl (hb hby at_215) rfl  k) ?_
    show Run p e below s _ _ _ (T315.setTop (mkF m 217 #[.val (.int kz), .val (.int xa), .val (.int xb), .val (.int xc), .val (.int (0 : Int32)), .val (.ref o295), .val (.ref o297), .val (.ref o299), .val (.ref b300), .val (.ref b304), .val (.ref b300)] [(.int (0 : Int32))]))
    refine Run.pre (fun _ k => XS.iconst X315.here hx rfl (hb hby at_217) k) ?_
    show Run p e below s _ _ _ (T315.setTop (mkF m 218 #[.val (.int kz), .val (.int xa), .val (.int xb), .val (.int xc), .val (.int (0 : Int32)), .val (.ref o295), .val (.ref o297), .val (.ref o299), .val (.ref b300), .val (.ref b304), .val (.ref b300)] [(.int (2 : Int32)), (.int (0 : Int32))]))
    refine Run.pre (fun _ k => XS.icmpYes X315.here hx rfl (pc0 := 218) (pc' := 239) rfl (hb hby at_218) rfl (flt ((by decide) : ¬ ((2 : Int32) < (0 : Int32)))).2.2.2 (by decide) (by decide) k) ?_
    show Run p e below s _ _ _ (T315.setTop (mkF m 239 #[.val (.int kz), .val (.int xa), .val (.int xb), .val (.int xc), .val (.int (0 : Int32)), .val (.ref o295), .val (.ref o297), .val (.ref o299), .val (.ref b300), .val (.ref b304), .val (.ref b300)] []))
    refine Run.pre (fun _ k => XS.iconst X315.here hx rfl (hb hby at_239) k) ?_
    show Run p e below s _ _ _ (T315.setTop (mkF m 240 #[.val (.int kz), .val (.int xa), .val (.int xb), .val (.int xc), .val (.int (0 : Int32)), .val (.ref o295), .val (.ref o297), .val (.ref o299), .val (.ref b300), .val (.ref b304), .val (.ref b300)] [(.int (1 : Int32))]))
    exact Run.retN hS (by first | exact Nat.le_refl _ | (rw [e315]; exact (Nat.le_of_eq (congrArg Array.size e315)))) X315 hx hret (t := .boolean) (by simp) hlk (hb hby at_240) (by first | (rw [e315]; exact ⟨rfl, N315⟩) | exact ⟨rfl, N315⟩) (by decide) (by decide)
  · rw [hn]
    show Run p e below s _ _ _ (T299.setTop (mkF m 23 #[.val (.int kz), .val (.int xa), .val (.int xb), .val (.int xc), .val (.int (1 : Int32)), .val (.ref o295), .val (.ref o297), .val (.ref o299), .unset, .unset, .unset] []))
    obtain ⟨T317, h317, X317, e317, E317, A317, D317, -, st317⟩ := newO X299 hx hZ hown (hw _ (List.mem_of_getElem? (i := 26) rfl)) (hw _ (List.mem_of_getElem? (i := 27) rfl)) (hw _ (List.mem_of_getElem? (i := 28) rfl)) rfl (g := (mkF m 23 #[.val (.int kz), .val (.int xa), .val (.int xb), .val (.int xc), .val (.int (1 : Int32)), .val (.ref o295), .val (.ref o297), .val (.ref o299), .unset, .unset, .unset] [])) rfl (hb hby at_23) (by decide) (by decide)
    obtain ⟨b317, g317⟩ : ∃ z, z = T299.heap.size := ⟨_, rfl⟩
    rw [← g317] at A317 D317 st317
    refine Run.pre st317 ?_
    have gn_b317 : n0 ≤ b317 := Nat.le_trans (Nat.le_trans Z0 K299.1) (Nat.le_of_eq g317.symm)
    have sz_b317 : h0.size ≤ b317 := Nat.le_trans K299.1 (Nat.le_of_eq g317.symm)
    have K317 : Keep h0 h317 [] := K299.ext E317
    have F_modCount_b317 : Fld Z h317 b317 "java/util/AbstractList" "modCount" "I" (.int (0 : Int32)) := D317 (Or.inl (hw _ (List.mem_of_getElem? (i := 46) rfl))) (ty := .int) (by decide)
    have F_elementData_b317 : Fld Z h317 b317 "java/util/ArrayList" "elementData" "[Ljava/lang/Object;" .null := D317 (Or.inl (hw _ (List.mem_of_getElem? (i := 49) rfl))) (ty := (.array (.object "java/lang/Object"))) (by decide)
    have F_size_b317 : Fld Z h317 b317 "java/util/ArrayList" "size" "I" (.int (0 : Int32)) := D317 (Or.inl (hw _ (List.mem_of_getElem? (i := 115) rfl))) (ty := .int) (by decide)
    show Run p e below s _ _ _ (T317.setTop (mkF m 26 #[.val (.int kz), .val (.int xa), .val (.int xb), .val (.int xc), .val (.int (1 : Int32)), .val (.ref o295), .val (.ref o297), .val (.ref o299), .unset, .unset, .unset] [(.ref b317)]))
    refine Run.pre (fun _ k => XS.dup X317.here hx rfl (hb hby at_26) rfl rfl k) ?_
    show Run p e below s _ _ _ (T317.setTop (mkF m 27 #[.val (.int kz), .val (.int xa), .val (.int xb), .val (.int xc), .val (.int (1 : Int32)), .val (.ref o295), .val (.ref o297), .val (.ref o299), .unset, .unset, .unset] [(.ref b317), (.ref b317)]))
    have f318 := ((f298.keep Kc299 all0).ext E317)
    refine Run.callI hS (by first | exact Nat.le_refl _ | (rw [e317]; exact (Nat.le_trans (Nat.le_refl _) E317.1))) X317 hx hZ (y := (⟨"java/util/ArrayList", "<init>", "()V"⟩ : MethodName)) rfl hown (hw _ (List.mem_of_getElem? (i := 29) rfl)) (hw _ (List.mem_of_getElem? (i := 30) rfl)) (hw _ (List.mem_of_getElem? (i := 31) rfl)) (hw _ (List.mem_of_getElem? (i := 28) rfl)) (by decide) (a := b317) (W := 1) (rmInit l Z a0 hw b317 dd kd h317 n0 (Nat.le_trans Z0 K317.1) f318 SD AD A317 F_modCount_b317 F_elementData_b317 F_size_b317 gn_b317) e317 (by decide) (by decide) (by decide) (by decide) (fun _ _ => trivial) (g := (mkF m 27 #[.val (.int kz), .val (.int xa), .val (.int xb), .val (.int xc), .val (.int (1 : Int32)), .val (.ref o295), .val (.ref o297), .val (.ref o299), .unset, .unset, .unset] [(.ref b317), (.ref b317)])) rfl (by rw [hml]; rfl) (argsL := []) (rest := [(.ref b317)]) (lenOf pd_5 rfl) rfl (by show 2 * 0 + _ ≤ _; exact Nat.le_of_eq rfl) (hb hby at_27) ?_
    intro v319 T319 L319 X319 hS hZ hown hV319 hQ319
    obtain ⟨rfl, Nq319, Kc319, fm319, fe319, fs319⟩ := hQ319
    have N319 := Fr.app N299 Nq319
    have K319 : Keep h0 T319.heap [] := K317.trans Kc319 (allS (Or.inr sz_b317) all0)
    show Run p e below s _ _ _ (T319.setTop (mkF m 30 #[.val (.int kz), .val (.int xa), .val (.int xb), .val (.int xc), .val (.int (1 : Int32)), .val (.ref o295), .val (.ref o297), .val (.ref o299), .unset, .unset, .unset] [(.ref b317)]))
    refine Run.pre (fun _ k => XS.astore X319.here hx rfl (hb hby at_30) rfl rfl (l' := #[.val (.int kz), .val (.int xa), .val (.int xb), .val (.int xc), .val (.int (1 : Int32)), .val (.ref o295), .val (.ref o297), .val (.ref o299), .val (.ref b317), .unset, .unset]) rfl k) ?_
    show Run p e below s _ _ _ (T319.setTop (mkF m 32 #[.val (.int kz), .val (.int xa), .val (.int xb), .val (.int xc), .val (.int (1 : Int32)), .val (.ref o295), .val (.ref o297), .val (.ref o299), .val (.ref b317), .unset, .unset] []))
    refine Run.pre (fun _ k => XS.iload X319.here hx rfl (hb hby at_32) rfl  k) ?_
    show Run p e below s _ _ _ (T319.setTop (mkF m 34 #[.val (.int kz), .val (.int xa), .val (.int xb), .val (.int xc), .val (.int (1 : Int32)), .val (.ref o295), .val (.ref o297), .val (.ref o299), .val (.ref b317), .unset, .unset] [(.int (1 : Int32))]))
    refine Run.pre (fun _ k => XS.ifNo X319.here hx rfl (hb hby at_34) rfl ((if0 _ _).trans (tlt ((by decide) : (0 : Int32) < (1 : Int32))).2.2.2) k) ?_
    show Run p e below s _ _ _ (T319.setTop (mkF m 37 #[.val (.int kz), .val (.int xa), .val (.int xb), .val (.int xc), .val (.int (1 : Int32)), .val (.ref o295), .val (.ref o297), .val (.ref o299), .val (.ref b317), .unset, .unset] []))
    refine Run.pre (fun _ k => XS.aload X319.here hx rfl (hb hby at_37) rfl rfl k) ?_
    show Run p e below s _ _ _ (T319.setTop (mkF m 39 #[.val (.int kz), .val (.int xa), .val (.int xb), .val (.int xc), .val (.int (1 : Int32)), .val (.ref o295), .val (.ref o297), .val (.ref o299), .val (.ref b317), .unset, .unset] [(.ref b317)]))
    refine Run.pre (fun _ k => XS.aload X319.here hx rfl (hb hby at_39) rfl rfl k) ?_
    show Run p e below s _ _ _ (T319.setTop (mkF m 41 #[.val (.int kz), .val (.int xa), .val (.int xb), .val (.int xc), .val (.int (1 : Int32)), .val (.ref o295), .val (.ref o297), .val (.ref o299), .val (.ref b317), .unset, .unset] [(.ref o295), (.ref b317)]))
    have f320 := (f318.keep Kc319 (allS gn_b317 all0))
    have f321 := (A317.keep Kc319)
    have f322 := ((((eo295.keep Kc297).keep Kc299).ext E317).keep Kc319)
    refine Run.callV hS (Nat.le_refl _) X319 hx hZ (y := (⟨"java/util/ArrayList", "add", "(Ljava/lang/Object;)Z"⟩ : MethodName)) (z := (⟨"java/util/ArrayList", "add", "(Ljava/lang/Object;)Z"⟩ : MethodName)) hown (hw _ (List.mem_of_getElem? (i := 116) rfl)) (hw _ (List.mem_of_getElem? (i := 117) rfl)) (notFace_of_selects (args := #[]) (mvT hZ (hw _ (List.mem_of_getElem? (i := 119) rfl)))) (hw _ (List.mem_of_getElem? (i := 119) rfl)) (hw _ (List.mem_of_getElem? (i := 118) rfl)) (hw _ (List.mem_of_getElem? (i := 120) rfl)) (hw _ (List.mem_of_getElem? (i := 28) rfl)) (by decide) (b := b317) f321 (W := 0) (rmA1_0 l Z a0 hw b317 dd kd o295 T319.heap n0 (Nat.le_trans Z0 K319.1) f320 SD AD f321 fm319 fe319 fs319 gn_b317 f322) rfl (by decide) (by decide) (by decide) (by decide) (fun _ _ => trivial) (g := (mkF m 41 #[.val (.int kz), .val (.int xa), .val (.int xb), .val (.int xc), .val (.int (1 : Int32)), .val (.ref o295), .val (.ref o297), .val (.ref o299), .val (.ref b317), .unset, .unset] [(.ref o295), (.ref b317)])) rfl (by rw [hml]; rfl) (argsL := [(.ref o295)]) (rest := []) (lenOf pd_19 rfl) rfl (by show 2 * 0 + _ ≤ _; exact Nat.le_of_eq rfl) (hb hby at_41) ?_
    intro v323 T323 L323 X323 hS hZ hown hV323 hQ323
    obtain ⟨b323, k323, rfl, Nq323, Kc323, sz323, vb323, ov323, fm323, fe323, fs323⟩ := hQ323
    have N323 := Fr.app N319 Nq323
    have K323 : Keep h0 T323.heap [] := K319.trans Kc323 (allS (Or.inr sz_b317) all0)
    have sz_b323 : h0.size ≤ b323 := Nat.le_trans K319.1 sz323
    have gn_b323 : n0 ≤ b323 := Nat.le_trans Z0 sz_b323
    show Run p e below s _ _ _ (T323.setTop (mkF m 44 #[.val (.int kz), .val (.int xa), .val (.int xb), .val (.int xc), .val (.int (1 : Int32)), .val (.ref o295), .val (.ref o297), .val (.ref o299), .val (.ref b317), .unset, .unset] [(.int (1 : Int32))]))
    refine Run.pre (fun _ k => XS.pop X323.here hx rfl (hb hby at_44) rfl rfl k) ?_
    show Run p e below s _ _ _ (T323.setTop (mkF m 45 #[.val (.int kz), .val (.int xa), .val (.int xb), .val (.int xc), .val (.int (1 : Int32)), .val (.ref o295), .val (.ref o297), .val (.ref o299), .val (.ref b317), .unset, .unset] []))
    refine Run.pre (fun _ k => XS.iload X323.here hx rfl (hb hby at_45) rfl  k) ?_
    show Run p e below s _ _ _ (T323.setTop (mkF m 47 #[.val (.int kz), .val (.int xa), .val (.int xb), .val (.int xc), .val (.int (1 : Int32)), .val (.ref o295), .val (.ref o297), .val (.ref o299), .val (.ref b317), .unset, .unset] [(.int (1 : Int32))]))
    refine Run.pre (fun _ k => XS.iconst X323.here hx rfl (hb hby at_47) k) ?_
    show Run p e below s _ _ _ (T323.setTop (mkF m 48 #[.val (.int kz), .val (.int xa), .val (.int xb), .val (.int xc), .val (.int (1 : Int32)), .val (.ref o295), .val (.ref o297), .val (.ref o299), .val (.ref b317), .unset, .unset] [(.int (1 : Int32)), (.int (1 : Int32))]))
    refine Run.pre (fun _ k => XS.icmpYes X323.here hx rfl (pc0 := 48) (pc' := 59) rfl (hb hby at_48) rfl (flt ((by decide) : ¬ ((1 : Int32) < (1 : Int32)))).2.2.2 (by decide) (by decide) k) ?_
    show Run p e below s _ _ _ (T323.setTop (mkF m 59 #[.val (.int kz), .val (.int xa), .val (.int xb), .val (.int xc), .val (.int (1 : Int32)), .val (.ref o295), .val (.ref o297), .val (.ref o299), .val (.ref b317), .unset, .unset] []))
    refine Run.pre (fun _ k => XS.iload X323.here hx rfl (hb hby at_59) rfl  k) ?_
    show Run p e below s _ _ _ (T323.setTop (mkF m 61 #[.val (.int kz), .val (.int xa), .val (.int xb), .val (.int xc), .val (.int (1 : Int32)), .val (.ref o295), .val (.ref o297), .val (.ref o299), .val (.ref b317), .unset, .unset] [(.int (1 : Int32))]))
    refine Run.pre (fun _ k => XS.iconst X323.here hx rfl (hb hby at_61) k) ?_
    show Run p e below s _ _ _ (T323.setTop (mkF m 62 #[.val (.int kz), .val (.int xa), .val (.int xb), .val (.int xc), .val (.int (1 : Int32)), .val (.ref o295), .val (.ref o297), .val (.ref o299), .val (.ref b317), .unset, .unset] [(.int (2 : Int32)), (.int (1 : Int32))]))
    refine Run.pre (fun _ k => XS.icmpYes X323.here hx rfl (pc0 := 62) (pc' := 73) rfl (hb hby at_62) rfl (flt ((by decide) : ¬ ((2 : Int32) < (1 : Int32)))).2.2.2 (by decide) (by decide) k) ?_
    show Run p e below s _ _ _ (T323.setTop (mkF m 73 #[.val (.int kz), .val (.int xa), .val (.int xb), .val (.int xc), .val (.int (1 : Int32)), .val (.ref o295), .val (.ref o297), .val (.ref o299), .val (.ref b317), .unset, .unset] []))
    refine Run.pre (fun _ k => XS.aload X323.here hx rfl (hb hby at_73) rfl rfl k) ?_
    show Run p e below s _ _ _ (T323.setTop (mkF m 75 #[.val (.int kz), .val (.int xa), .val (.int xb), .val (.int xc), .val (.int (1 : Int32)), .val (.ref o295), .val (.ref o297), .val (.ref o299), .val (.ref b317), .unset, .unset] [(.ref b317)]))
    have f324 := (f320.keep Kc323 (allS gn_b317 all0))
    refine Run.callS hS (Nat.le_refl _) X323 hx hZ (y := (⟨"com/example/portcullis/portcullis/http/GateDecision", "challenged", "(Ljava/util/List;)Lcom/example/portcullis/portcullis/http/GateDecision;"⟩ : MethodName)) hown (hw _ (List.mem_of_getElem? (i := 50) rfl)) (hw _ (List.mem_of_getElem? (i := 51) rfl)) (hw _ (List.mem_of_getElem? (i := 52) rfl)) (hw _ (List.mem_of_getElem? (i := 53) rfl)) (by decide) (W := 0) (rmCh l Z a0 hw we b317 T323.heap n0 (Nat.le_trans Z0 K323.1) f324 SE) rfl (by decide) (by decide) (by decide) (by decide) (fun _ _ => trivial) (g := (mkF m 75 #[.val (.int kz), .val (.int xa), .val (.int xb), .val (.int xc), .val (.int (1 : Int32)), .val (.ref o295), .val (.ref o297), .val (.ref o299), .val (.ref b317), .unset, .unset] [(.ref b317)])) rfl (by rw [hml]; rfl) (argsL := [(.ref b317)]) (rest := []) (lenOf pd_15 rfl) rfl (by show 2 * 0 + _ ≤ _; exact Nat.le_of_eq rfl) (hb hby at_75) ?_
    intro v325 T325 L325 X325 hS hZ hown hV325 hQ325
    obtain ⟨b325, rfl, Nq325, Kc325, sz325, eg325, fg0_325, fg1_325, fg2_325, fg3_325⟩ := hQ325
    have N325 := Fr.app N323 Nq325
    have K325 : Keep h0 T325.heap [] := K323.trans Kc325 all0
    have sz_b325 : h0.size ≤ b325 := Nat.le_trans K323.1 sz325
    have gn_b325 : n0 ≤ b325 := Nat.le_trans Z0 sz_b325
    show Run p e below s _ _ _ (T325.setTop (mkF m 78 #[.val (.int kz), .val (.int xa), .val (.int xb), .val (.int xc), .val (.int (1 : Int32)), .val (.ref o295), .val (.ref o297), .val (.ref o299), .val (.ref b317), .unset, .unset] [(.ref b325)]))
    refine Run.pre (fun _ k => XS.astore X325.here hx rfl (hb hby at_78) rfl rfl (l' := #[.val (.int kz), .val (.int xa), .val (.int xb), .val (.int xc), .val (.int (1 : Int32)), .val (.ref o295), .val (.ref o297), .val (.ref o299), .val (.ref b317), .val (.ref b325), .unset]) rfl k) ?_
    show Run p e below s _ _ _ (T325.setTop (mkF m 80 #[.val (.int kz), .val (.int xa), .val (.int xb), .val (.int xc), .val (.int (1 : Int32)), .val (.ref o295), .val (.ref o297), .val (.ref o299), .val (.ref b317), .val (.ref b325), .unset] []))
    refine Run.pre (fun _ k => XS.aload X325.here hx rfl (hb hby at_80) rfl rfl k) ?_
    show Run p e below s _ _ _ (T325.setTop (mkF m 82 #[.val (.int kz), .val (.int xa), .val (.int xb), .val (.int xc), .val (.int (1 : Int32)), .val (.ref o295), .val (.ref o297), .val (.ref o299), .val (.ref b317), .val (.ref b325), .unset] [(.ref b325)]))
    refine Run.pre (fun _ k => XS.ifnonnullYes X325.here hx rfl (pc0 := 82) (pc' := 87) rfl (hb hby at_82) rfl (by decide) (by decide) k) ?_
    show Run p e below s _ _ _ (T325.setTop (mkF m 87 #[.val (.int kz), .val (.int xa), .val (.int xb), .val (.int xc), .val (.int (1 : Int32)), .val (.ref o295), .val (.ref o297), .val (.ref o299), .val (.ref b317), .val (.ref b325), .unset] []))
    refine Run.pre (fun _ k => XS.aload X325.here hx rfl (hb hby at_87) rfl rfl k) ?_
    show Run p e below s _ _ _ (T325.setTop (mkF m 89 #[.val (.int kz), .val (.int xa), .val (.int xb), .val (.int xc), .val (.int (1 : Int32)), .val (.ref o295), .val (.ref o297), .val (.ref o299), .val (.ref b317), .val (.ref b325), .unset] [(.ref b325)]))
    refine Run.callV hS (Nat.le_refl _) X325 hx hZ (y := (⟨"com/example/portcullis/portcullis/http/GateDecision", "status", "()I"⟩ : MethodName)) (z := (⟨"com/example/portcullis/portcullis/http/GateDecision", "status", "()I"⟩ : MethodName)) hown (hw _ (List.mem_of_getElem? (i := 78) rfl)) (hw _ (List.mem_of_getElem? (i := 79) rfl)) (notFace_of_selects (args := #[]) (mvT hZ (hw _ (List.mem_of_getElem? (i := 81) rfl)))) (hw _ (List.mem_of_getElem? (i := 81) rfl)) (hw _ (List.mem_of_getElem? (i := 80) rfl)) (hw _ (List.mem_of_getElem? (i := 82) rfl)) (hw _ (List.mem_of_getElem? (i := 52) rfl)) (by decide) (b := b325) eg325 (W := 0) (rmget_status l Z a0 hw b325 (401 : Int32) T325.heap n0 (Nat.le_trans Z0 K325.1) fg0_325) rfl (by decide) (by decide) (by decide) (by decide) (fun _ _ => trivial) (g := (mkF m 89 #[.val (.int kz), .val (.int xa), .val (.int xb), .val (.int xc), .val (.int (1 : Int32)), .val (.ref o295), .val (.ref o297), .val (.ref o299), .val (.ref b317), .val (.ref b325), .unset] [(.ref b325)])) rfl (by rw [hml]; rfl) (argsL := []) (rest := []) (lenOf pd_16 rfl) rfl (by show 2 * 0 + _ ≤ _; exact Nat.le_of_eq rfl) (hb hby at_89) ?_
    intro v326 T326 L326 X326 hS hZ hown hV326 hQ326
    obtain ⟨rfl, Nq326, he326⟩ := hQ326
    have N326 := Fr.app N325 Nq326
    have e326 : T326.heap = T325.heap := he326
    show Run p e below s _ _ _ (T326.setTop (mkF m 92 #[.val (.int kz), .val (.int xa), .val (.int xb), .val (.int xc), .val (.int (1 : Int32)), .val (.ref o295), .val (.ref o297), .val (.ref o299), .val (.ref b317), .val (.ref b325), .unset] [(.int (401 : Int32))]))
    refine Run.pre (fun _ k => XS.sipush X326.here hx rfl (hb hby at_92) k) ?_
    show Run p e below s _ _ _ (T326.setTop (mkF m 95 #[.val (.int kz), .val (.int xa), .val (.int xb), .val (.int xc), .val (.int (1 : Int32)), .val (.ref o295), .val (.ref o297), .val (.ref o299), .val (.ref b317), .val (.ref b325), .unset] [(.int (401 : Int32)), (.int (401 : Int32))]))
    refine Run.pre (fun _ k => XS.icmpYes X326.here hx rfl (pc0 := 95) (pc' := 100) rfl (hb hby at_95) rfl (teq ((by decide) : (401 : Int32) = (401 : Int32))).1 (by decide) (by decide) k) ?_
    show Run p e below s _ _ _ (T326.setTop (mkF m 100 #[.val (.int kz), .val (.int xa), .val (.int xb), .val (.int xc), .val (.int (1 : Int32)), .val (.ref o295), .val (.ref o297), .val (.ref o299), .val (.ref b317), .val (.ref b325), .unset] []))
    refine Run.pre (fun _ k => XS.aload X326.here hx rfl (hb hby at_100) rfl rfl k) ?_
    show Run p e below s _ _ _ (T326.setTop (mkF m 102 #[.val (.int kz), .val (.int xa), .val (.int xb), .val (.int xc), .val (.int (1 : Int32)), .val (.ref o295), .val (.ref o297), .val (.ref o299), .val (.ref b317), .val (.ref b325), .unset] [(.ref b325)]))
    refine Run.callV hS (by first | exact Nat.le_refl _ | (rw [e326]; exact (Nat.le_of_eq (congrArg Array.size e326)))) X326 hx hZ (y := (⟨"com/example/portcullis/portcullis/http/GateDecision", "identity", "()Ljava/util/Optional;"⟩ : MethodName)) (z := (⟨"com/example/portcullis/portcullis/http/GateDecision", "identity", "()Ljava/util/Optional;"⟩ : MethodName)) hown (hw _ (List.mem_of_getElem? (i := 83) rfl)) (hw _ (List.mem_of_getElem? (i := 84) rfl)) (notFace_of_selects (args := #[]) (mvT hZ (hw _ (List.mem_of_getElem? (i := 86) rfl)))) (hw _ (List.mem_of_getElem? (i := 86) rfl)) (hw _ (List.mem_of_getElem? (i := 85) rfl)) (hw _ (List.mem_of_getElem? (i := 87) rfl)) (hw _ (List.mem_of_getElem? (i := 52) rfl)) (by decide) (b := b325) eg325 (W := 0) (rmget_identity l Z a0 hw b325 we T325.heap n0 (Nat.le_trans Z0 K325.1) fg1_325) e326 (by decide) (by decide) (by decide) (by decide) (fun _ _ => trivial) (g := (mkF m 102 #[.val (.int kz), .val (.int xa), .val (.int xb), .val (.int xc), .val (.int (1 : Int32)), .val (.ref o295), .val (.ref o297), .val (.ref o299), .val (.ref b317), .val (.ref b325), .unset] [(.ref b325)])) rfl (by rw [hml]; rfl) (argsL := []) (rest := []) (lenOf pd_12 rfl) rfl (by show 2 * 0 + _ ≤ _; exact Nat.le_of_eq rfl) (hb hby at_102) ?_
    intro v327 T327 L327 X327 hS hZ hown hV327 hQ327
    obtain ⟨rfl, Nq327, he327⟩ := hQ327
    have N327 := Fr.app N326 Nq327
    have e327 : T327.heap = T325.heap := he327
    show Run p e below s _ _ _ (T327.setTop (mkF m 105 #[.val (.int kz), .val (.int xa), .val (.int xb), .val (.int xc), .val (.int (1 : Int32)), .val (.ref o295), .val (.ref o297), .val (.ref o299), .val (.ref b317), .val (.ref b325), .unset] [(.ref we)]))
    refine Run.pre (fun _ k => XS.ifnullNo X327.here hx rfl (hb hby at_105) rfl k) ?_
    show Run p e below s _ _ _ (T327.setTop (mkF m 108 #[.val (.int kz), .val (.int xa), .val (.int xb), .val (.int xc), .val (.int (1 : Int32)), .val (.ref o295), .val (.ref o297), .val (.ref o299), .val (.ref b317), .val (.ref b325), .unset] []))
    refine Run.pre (fun _ k => XS.aload X327.here hx rfl (hb hby at_108) rfl rfl k) ?_
    show Run p e below s _ _ _ (T327.setTop (mkF m 110 #[.val (.int kz), .val (.int xa), .val (.int xb), .val (.int xc), .val (.int (1 : Int32)), .val (.ref o295), .val (.ref o297), .val (.ref o299), .val (.ref b317), .val (.ref b325), .unset] [(.ref b325)]))
    refine Run.callV hS (by first | exact Nat.le_refl _ | (rw [e327]; exact (Nat.le_of_eq (congrArg Array.size e327)))) X327 hx hZ (y := (⟨"com/example/portcullis/portcullis/http/GateDecision", "identity", "()Ljava/util/Optional;"⟩ : MethodName)) (z := (⟨"com/example/portcullis/portcullis/http/GateDecision", "identity", "()Ljava/util/Optional;"⟩ : MethodName)) hown (hw _ (List.mem_of_getElem? (i := 83) rfl)) (hw _ (List.mem_of_getElem? (i := 84) rfl)) (notFace_of_selects (args := #[]) (mvT hZ (hw _ (List.mem_of_getElem? (i := 86) rfl)))) (hw _ (List.mem_of_getElem? (i := 86) rfl)) (hw _ (List.mem_of_getElem? (i := 85) rfl)) (hw _ (List.mem_of_getElem? (i := 87) rfl)) (hw _ (List.mem_of_getElem? (i := 52) rfl)) (by decide) (b := b325) eg325 (W := 0) (rmget_identity l Z a0 hw b325 we T325.heap n0 (Nat.le_trans Z0 K325.1) fg1_325) e327 (by decide) (by decide) (by decide) (by decide) (fun _ _ => trivial) (g := (mkF m 110 #[.val (.int kz), .val (.int xa), .val (.int xb), .val (.int xc), .val (.int (1 : Int32)), .val (.ref o295), .val (.ref o297), .val (.ref o299), .val (.ref b317), .val (.ref b325), .unset] [(.ref b325)])) rfl (by rw [hml]; rfl) (argsL := []) (rest := []) (lenOf pd_12 rfl) rfl (by show 2 * 0 + _ ≤ _; exact Nat.le_of_eq rfl) (hb hby at_110) ?_
    intro v328 T328 L328 X328 hS hZ hown hV328 hQ328
    obtain ⟨rfl, Nq328, he328⟩ := hQ328
    have N328 := Fr.app N327 Nq328
    have e328 : T328.heap = T325.heap := he328
    show Run p e below s _ _ _ (T328.setTop (mkF m 113 #[.val (.int kz), .val (.int xa), .val (.int xb), .val (.int xc), .val (.int (1 : Int32)), .val (.ref o295), .val (.ref o297), .val (.ref o299), .val (.ref b317), .val (.ref b325), .unset] [(.ref we)]))
    have f329 := (f324.keep Kc325 all0)
    refine Run.callV hS (by first | exact Nat.le_refl _ | (rw [e328]; exact (Nat.le_of_eq (congrArg Array.size e328)))) X328 hx hZ (y := (⟨"java/util/Optional", "isPresent", "()Z"⟩ : MethodName)) (z := (⟨"java/util/Optional", "isPresent", "()Z"⟩ : MethodName)) hown (hw _ (List.mem_of_getElem? (i := 88) rfl)) (hw _ (List.mem_of_getElem? (i := 89) rfl)) (notFace_of_selects (args := #[]) (mvT hZ (hw _ (List.mem_of_getElem? (i := 91) rfl)))) (hw _ (List.mem_of_getElem? (i := 91) rfl)) (hw _ (List.mem_of_getElem? (i := 90) rfl)) (hw _ (List.mem_of_getElem? (i := 92) rfl)) (hw _ (List.mem_of_getElem? (i := 58) rfl)) (by decide) (b := we) (EE.ext f329.2) (W := 0) (rmPr l Z a0 hw we T325.heap n0 (Nat.le_trans Z0 K325.1) (FW.ext f329.2)) e328 (by decide) (by decide) (by decide) (by decide) (fun _ _ => trivial) (g := (mkF m 113 #[.val (.int kz), .val (.int xa), .val (.int xb), .val (.int xc), .val (.int (1 : Int32)), .val (.ref o295), .val (.ref o297), .val (.ref o299), .val (.ref b317), .val (.ref b325), .unset] [(.ref we)])) rfl (by rw [hml]; rfl) (argsL := []) (rest := []) (lenOf pd_17 rfl) rfl (by show 2 * 0 + _ ≤ _; exact Nat.le_of_eq rfl) (hb hby at_113) ?_
    intro v330 T330 L330 X330 hS hZ hown hV330 hQ330
    obtain ⟨rfl, Nq330, he330⟩ := hQ330
    have N330 := Fr.app N328 Nq330
    have e330 : T330.heap = T325.heap := he330
    show Run p e below s _ _ _ (T330.setTop (mkF m 116 #[.val (.int kz), .val (.int xa), .val (.int xb), .val (.int xc), .val (.int (1 : Int32)), .val (.ref o295), .val (.ref o297), .val (.ref o299), .val (.ref b317), .val (.ref b325), .unset] [(.int (0 : Int32))]))
    refine Run.pre (fun _ k => XS.ifYes X330.here hx rfl (pc0 := 116) (pc' := 121) rfl (hb hby at_116) rfl ((if0 _ _).trans (teq ((by decide) : (0 : Int32) = (0 : Int32))).1) (by decide) (by decide) k) ?_
    show Run p e below s _ _ _ (T330.setTop (mkF m 121 #[.val (.int kz), .val (.int xa), .val (.int xb), .val (.int xc), .val (.int (1 : Int32)), .val (.ref o295), .val (.ref o297), .val (.ref o299), .val (.ref b317), .val (.ref b325), .unset] []))
    refine Run.pre (fun _ k => XS.aload X330.here hx rfl (hb hby at_121) rfl rfl k) ?_
    show Run p e below s _ _ _ (T330.setTop (mkF m 123 #[.val (.int kz), .val (.int xa), .val (.int xb), .val (.int xc), .val (.int (1 : Int32)), .val (.ref o295), .val (.ref o297), .val (.ref o299), .val (.ref b317), .val (.ref b325), .unset] [(.ref b325)]))
    refine Run.callV hS (by first | exact Nat.le_refl _ | (rw [e330]; exact (Nat.le_of_eq (congrArg Array.size e330)))) X330 hx hZ (y := (⟨"com/example/portcullis/portcullis/http/GateDecision", "mechanism", "()Ljava/util/Optional;"⟩ : MethodName)) (z := (⟨"com/example/portcullis/portcullis/http/GateDecision", "mechanism", "()Ljava/util/Optional;"⟩ : MethodName)) hown (hw _ (List.mem_of_getElem? (i := 95) rfl)) (hw _ (List.mem_of_getElem? (i := 96) rfl)) (notFace_of_selects (args := #[]) (mvT hZ (hw _ (List.mem_of_getElem? (i := 98) rfl)))) (hw _ (List.mem_of_getElem? (i := 98) rfl)) (hw _ (List.mem_of_getElem? (i := 97) rfl)) (hw _ (List.mem_of_getElem? (i := 99) rfl)) (hw _ (List.mem_of_getElem? (i := 52) rfl)) (by decide) (b := b325) eg325 (W := 0) (rmget_mechanism l Z a0 hw b325 we T325.heap n0 (Nat.le_trans Z0 K325.1) fg2_325) e330 (by decide) (by decide) (by decide) (by decide) (fun _ _ => trivial) (g := (mkF m 123 #[.val (.int kz), .val (.int xa), .val (.int xb), .val (.int xc), .val (.int (1 : Int32)), .val (.ref o295), .val (.ref o297), .val (.ref o299), .val (.ref b317), .val (.ref b325), .unset] [(.ref b325)])) rfl (by rw [hml]; rfl) (argsL := []) (rest := []) (lenOf pd_12 rfl) rfl (by show 2 * 0 + _ ≤ _; exact Nat.le_of_eq rfl) (hb hby at_123) ?_
    intro v331 T331 L331 X331 hS hZ hown hV331 hQ331
    obtain ⟨rfl, Nq331, he331⟩ := hQ331
    have N331 := Fr.app N330 Nq331
    have e331 : T331.heap = T325.heap := he331
    show Run p e below s _ _ _ (T331.setTop (mkF m 126 #[.val (.int kz), .val (.int xa), .val (.int xb), .val (.int xc), .val (.int (1 : Int32)), .val (.ref o295), .val (.ref o297), .val (.ref o299), .val (.ref b317), .val (.ref b325), .unset] [(.ref we)]))
    refine Run.pre (fun _ k => XS.ifnullNo X331.here hx rfl (hb hby at_126) rfl k) ?_
    show Run p e below s _ _ _ (T331.setTop (mkF m 129 #[.val (.int kz), .val (.int xa), .val (.int xb), .val (.int xc), .val (.int (1 : Int32)), .val (.ref o295), .val (.ref o297), .val (.ref o299), .val (.ref b317), .val (.ref b325), .unset] []))
    refine Run.pre (fun _ k => XS.aload X331.here hx rfl (hb hby at_129) rfl rfl k) ?_
    show Run p e below s _ _ _ (T331.setTop (mkF m 131 #[.val (.int kz), .val (.int xa), .val (.int xb), .val (.int xc), .val (.int (1 : Int32)), .val (.ref o295), .val (.ref o297), .val (.ref o299), .val (.ref b317), .val (.ref b325), .unset] [(.ref b325)]))
    refine Run.callV hS (by first | exact Nat.le_refl _ | (rw [e331]; exact (Nat.le_of_eq (congrArg Array.size e331)))) X331 hx hZ (y := (⟨"com/example/portcullis/portcullis/http/GateDecision", "mechanism", "()Ljava/util/Optional;"⟩ : MethodName)) (z := (⟨"com/example/portcullis/portcullis/http/GateDecision", "mechanism", "()Ljava/util/Optional;"⟩ : MethodName)) hown (hw _ (List.mem_of_getElem? (i := 95) rfl)) (hw _ (List.mem_of_getElem? (i := 96) rfl)) (notFace_of_selects (args := #[]) (mvT hZ (hw _ (List.mem_of_getElem? (i := 98) rfl)))) (hw _ (List.mem_of_getElem? (i := 98) rfl)) (hw _ (List.mem_of_getElem? (i := 97) rfl)) (hw _ (List.mem_of_getElem? (i := 99) rfl)) (hw _ (List.mem_of_getElem? (i := 52) rfl)) (by decide) (b := b325) eg325 (W := 0) (rmget_mechanism l Z a0 hw b325 we T325.heap n0 (Nat.le_trans Z0 K325.1) fg2_325) e331 (by decide) (by decide) (by decide) (by decide) (fun _ _ => trivial) (g := (mkF m 131 #[.val (.int kz), .val (.int xa), .val (.int xb), .val (.int xc), .val (.int (1 : Int32)), .val (.ref o295), .val (.ref o297), .val (.ref o299), .val (.ref b317), .val (.ref b325), .unset] [(.ref b325)])) rfl (by rw [hml]; rfl) (argsL := []) (rest := []) (lenOf pd_12 rfl) rfl (by show 2 * 0 + _ ≤ _; exact Nat.le_of_eq rfl) (hb hby at_131) ?_
    intro v332 T332 L332 X332 hS hZ hown hV332 hQ332
    obtain ⟨rfl, Nq332, he332⟩ := hQ332
    have N332 := Fr.app N331 Nq332
    have e332 : T332.heap = T325.heap := he332
    show Run p e below s _ _ _ (T332.setTop (mkF m 134 #[.val (.int kz), .val (.int xa), .val (.int xb), .val (.int xc), .val (.int (1 : Int32)), .val (.ref o295), .val (.ref o297), .val (.ref o299), .val (.ref b317), .val (.ref b325), .unset] [(.ref we)]))
    refine Run.callV hS (by first | exact Nat.le_refl _ | (rw [e332]; exact (Nat.le_of_eq (congrArg Array.size e332)))) X332 hx hZ (y := (⟨"java/util/Optional", "isPresent", "()Z"⟩ : MethodName)) (z := (⟨"java/util/Optional", "isPresent", "()Z"⟩ : MethodName)) hown (hw _ (List.mem_of_getElem? (i := 88) rfl)) (hw _ (List.mem_of_getElem? (i := 89) rfl)) (notFace_of_selects (args := #[]) (mvT hZ (hw _ (List.mem_of_getElem? (i := 91) rfl)))) (hw _ (List.mem_of_getElem? (i := 91) rfl)) (hw _ (List.mem_of_getElem? (i := 90) rfl)) (hw _ (List.mem_of_getElem? (i := 92) rfl)) (hw _ (List.mem_of_getElem? (i := 58) rfl)) (by decide) (b := we) (EE.ext f329.2) (W := 0) (rmPr l Z a0 hw we T325.heap n0 (Nat.le_trans Z0 K325.1) (FW.ext f329.2)) e332 (by decide) (by decide) (by decide) (by decide) (fun _ _ => trivial) (g := (mkF m 134 #[.val (.int kz), .val (.int xa), .val (.int xb), .val (.int xc), .val (.int (1 : Int32)), .val (.ref o295), .val (.ref o297), .val (.ref o299), .val (.ref b317), .val (.ref b325), .unset] [(.ref we)])) rfl (by rw [hml]; rfl) (argsL := []) (rest := []) (lenOf pd_17 rfl) rfl (by show 2 * 0 + _ ≤ _; exact Nat.le_of_eq rfl) (hb hby at_134) ?_
    intro v333 T333 L333 X333 hS hZ hown hV333 hQ333
    obtain ⟨rfl, Nq333, he333⟩ := hQ333
    have N333 := Fr.app N332 Nq333
    have e333 : T333.heap = T325.heap := he333
    show Run p e below s _ _ _ (T333.setTop (mkF m 137 #[.val (.int kz), .val (.int xa), .val (.int xb), .val (.int xc), .val (.int (1 : Int32)), .val (.ref o295), .val (.ref o297), .val (.ref o299), .val (.ref b317), .val (.ref b325), .unset] [(.int (0 : Int32))]))
    refine Run.pre (fun _ k => XS.ifYes X333.here hx rfl (pc0 := 137) (pc' := 142) rfl (hb hby at_137) rfl ((if0 _ _).trans (teq ((by decide) : (0 : Int32) = (0 : Int32))).1) (by decide) (by decide) k) ?_
    show Run p e below s _ _ _ (T333.setTop (mkF m 142 #[.val (.int kz), .val (.int xa), .val (.int xb), .val (.int xc), .val (.int (1 : Int32)), .val (.ref o295), .val (.ref o297), .val (.ref o299), .val (.ref b317), .val (.ref b325), .unset] []))
    refine Run.pre (fun _ k => XS.aload X333.here hx rfl (hb hby at_142) rfl rfl k) ?_
    show Run p e below s _ _ _ (T333.setTop (mkF m 144 #[.val (.int kz), .val (.int xa), .val (.int xb), .val (.int xc), .val (.int (1 : Int32)), .val (.ref o295), .val (.ref o297), .val (.ref o299), .val (.ref b317), .val (.ref b325), .unset] [(.ref b325)]))
    refine Run.callV hS (by first | exact Nat.le_refl _ | (rw [e333]; exact (Nat.le_of_eq (congrArg Array.size e333)))) X333 hx hZ (y := (⟨"com/example/portcullis/portcullis/http/GateDecision", "challenges", "()Ljava/util/List;"⟩ : MethodName)) (z := (⟨"com/example/portcullis/portcullis/http/GateDecision", "challenges", "()Ljava/util/List;"⟩ : MethodName)) hown (hw _ (List.mem_of_getElem? (i := 100) rfl)) (hw _ (List.mem_of_getElem? (i := 101) rfl)) (notFace_of_selects (args := #[]) (mvT hZ (hw _ (List.mem_of_getElem? (i := 103) rfl)))) (hw _ (List.mem_of_getElem? (i := 103) rfl)) (hw _ (List.mem_of_getElem? (i := 102) rfl)) (hw _ (List.mem_of_getElem? (i := 104) rfl)) (hw _ (List.mem_of_getElem? (i := 52) rfl)) (by decide) (b := b325) eg325 (W := 0) (rmget_challenges l Z a0 hw b325 b317 T325.heap n0 (Nat.le_trans Z0 K325.1) fg3_325) e333 (by decide) (by decide) (by decide) (by decide) (fun _ _ => trivial) (g := (mkF m 144 #[.val (.int kz), .val (.int xa), .val (.int xb), .val (.int xc), .val (.int (1 : Int32)), .val (.ref o295), .val (.ref o297), .val (.ref o299), .val (.ref b317), .val (.ref b325), .unset] [(.ref b325)])) rfl (by rw [hml]; rfl) (argsL := []) (rest := []) (lenOf pd_18 rfl) rfl (by show 2 * 0 + _ ≤ _; exact Nat.le_of_eq rfl) (hb hby at_144) ?_
    intro v334 T334 L334 X334 hS hZ hown hV334 hQ334
    obtain ⟨rfl, Nq334, he334⟩ := hQ334
    have N334 := Fr.app N333 Nq334
    have e334 : T334.heap = T325.heap := he334
    show Run p e below s _ _ _ (T334.setTop (mkF m 147 #[.val (.int kz), .val (.int xa), .val (.int xb), .val (.int xc), .val (.int (1 : Int32)), .val (.ref o295), .val (.ref o297), .val (.ref o299), .val (.ref b317), .val (.ref b325), .unset] [(.ref b317)]))
    refine Run.pre (fun _ k => XS.astore X334.here hx rfl (hb hby at_147) rfl rfl (l' := #[.val (.int kz), .val (.int xa), .val (.int xb), .val (.int xc), .val (.int (1 : Int32)), .val (.ref o295), .val (.ref o297), .val (.ref o299), .val (.ref b317), .val (.ref b325), .val (.ref b317)]) rfl k) ?_
    show Run p e below s _ _ _ (T334.setTop (mkF m 149 #[.val (.int kz), .val (.int xa), .val (.int xb), .val (.int xc), .val (.int (1 : Int32)), .val (.ref o295), .val (.ref o297), .val (.ref o299), .val (.ref b317), .val (.ref b325), .val (.ref b317)] []))
    refine Run.pre (fun _ k => XS.aload X334.here hx rfl (hb hby at_149) rfl rfl k) ?_
    show Run p e below s _ _ _ (T334.setTop (mkF m 151 #[.val (.int kz), .val (.int xa), .val (.int xb), .val (.int xc), .val (.int (1 : Int32)), .val (.ref o295), .val (.ref o297), .val (.ref o299), .val (.ref b317), .val (.ref b325), .val (.ref b317)] [(.ref b317)]))
    refine Run.pre (fun _ k => XS.ifnullNo X334.here hx rfl (hb hby at_151) rfl k) ?_
    show Run p e below s _ _ _ (T334.setTop (mkF m 154 #[.val (.int kz), .val (.int xa), .val (.int xb), .val (.int xc), .val (.int (1 : Int32)), .val (.ref o295), .val (.ref o297), .val (.ref o299), .val (.ref b317), .val (.ref b325), .val (.ref b317)] []))
    refine Run.pre (fun _ k => XS.aload X334.here hx rfl (hb hby at_154) rfl rfl k) ?_
    show Run p e below s _ _ _ (T334.setTop (mkF m 156 #[.val (.int kz), .val (.int xa), .val (.int xb), .val (.int xc), .val (.int (1 : Int32)), .val (.ref o295), .val (.ref o297), .val (.ref o299), .val (.ref b317), .val (.ref b325), .val (.ref b317)] [(.ref b317)]))
    have f335 := (fs323.keep Kc325 nin0)
    have f337 := ((f321.keep Kc323).keep Kc325)
    refine Run.callF hS (by first | exact Nat.le_refl _ | (rw [e334]; exact (Nat.le_of_eq (congrArg Array.size e334)))) X334 hx hZ (xi := (⟨"java/util/List", "size", "()I"⟩ : MethodName)) (y := (⟨"java/util/ArrayList", "size", "()I"⟩ : MethodName)) hown (hw _ (List.mem_of_getElem? (i := 105) rfl)) (hw _ (List.mem_of_getElem? (i := 106) rfl)) (mvT (s := s.setVm _) hZ (hw _ (List.mem_of_getElem? (i := 107) rfl))) (hw _ (List.mem_of_getElem? (i := 108) rfl)) (hw _ (List.mem_of_getElem? (i := 109) rfl)) (hw _ (List.mem_of_getElem? (i := 110) rfl)) (hw _ (List.mem_of_getElem? (i := 111) rfl)) (hw _ (List.mem_of_getElem? (i := 112) rfl)) (hw _ (List.mem_of_getElem? (i := 113) rfl)) (hw _ (List.mem_of_getElem? (i := 28) rfl)) (by decide) (b := b317) f337 (W := 0) (rmSz l Z a0 hw b317 (1 : Int32) T325.heap n0 (Nat.le_trans Z0 K325.1) f335) e334 (by decide) (by decide) (by decide) (by decide) (fun _ _ => trivial) (g := (mkF m 156 #[.val (.int kz), .val (.int xa), .val (.int xb), .val (.int xc), .val (.int (1 : Int32)), .val (.ref o295), .val (.ref o297), .val (.ref o299), .val (.ref b317), .val (.ref b325), .val (.ref b317)] [(.ref b317)])) rfl (by rw [hml]; rfl) (argsL := []) (rest := []) (lenOf pd_16 rfl) rfl (by show 2 * 0 + _ ≤ _; exact Nat.le_of_eq rfl) (hb hby at_156) ?_
    intro v336 T336 L336 X336 hS hZ hown hV336 hQ336
    obtain ⟨rfl, Nq336, he336⟩ := hQ336
    have N336 := Fr.app N334 Nq336
    have e336 : T336.heap = T325.heap := he336
    show Run p e below s _ _ _ (T336.setTop (mkF m 161 #[.val (.int kz), .val (.int xa), .val (.int xb), .val (.int xc), .val (.int (1 : Int32)), .val (.ref o295), .val (.ref o297), .val (.ref o299), .val (.ref b317), .val (.ref b325), .val (.ref b317)] [(.int (1 : Int32))]))
    refine Run.pre (fun _ k => XS.iload X336.here hx rfl (hb hby at_161) rfl  k) ?_
    show Run p e below s _ _ _ (T336.setTop (mkF m 163 #[.val (.int kz), .val (.int xa), .val (.int xb), .val (.int xc), .val (.int (1 : Int32)), .val (.ref o295), .val (.ref o297), .val (.ref o299), .val (.ref b317), .val (.ref b325), .val (.ref b317)] [(.int (1 : Int32)), (.int (1 : Int32))]))
    refine Run.pre (fun _ k => XS.icmpYes X336.here hx rfl (pc0 := 163) (pc' := 168) rfl (hb hby at_163) rfl (teq ((by decide) : (1 : Int32) = (1 : Int32))).1 (by decide) (by decide) k) ?_
    show Run p e below s _ _ _ (T336.setTop (mkF m 168 #[.val (.int kz), .val (.int xa), .val (.int xb), .val (.int xc), .val (.int (1 : Int32)), .val (.ref o295), .val (.ref o297), .val (.ref o299), .val (.ref b317), .val (.ref b325), .val (.ref b317)] []))
    refine Run.pre (fun _ k => XS.iload X336.here hx rfl (hb hby at_168) rfl  k) ?_
    show Run p e below s _ _ _ (T336.setTop (mkF m 170 #[.val (.int kz), .val (.int xa), .val (.int xb), .val (.int xc), .val (.int (1 : Int32)), .val (.ref o295), .val (.ref o297), .val (.ref o299), .val (.ref b317), .val (.ref b325), .val (.ref b317)] [(.int (1 : Int32))]))
    refine Run.pre (fun _ k => XS.ifNo X336.here hx rfl (hb hby at_170) rfl ((if0 _ _).trans (tlt ((by decide) : (0 : Int32) < (1 : Int32))).2.2.2) k) ?_
    show Run p e below s _ _ _ (T336.setTop (mkF m 173 #[.val (.int kz), .val (.int xa), .val (.int xb), .val (.int xc), .val (.int (1 : Int32)), .val (.ref o295), .val (.ref o297), .val (.ref o299), .val (.ref b317), .val (.ref b325), .val (.ref b317)] []))
    refine Run.pre (fun _ k => XS.aload X336.here hx rfl (hb hby at_173) rfl rfl k) ?_
    show Run p e below s _ _ _ (T336.setTop (mkF m 175 #[.val (.int kz), .val (.int xa), .val (.int xb), .val (.int xc), .val (.int (1 : Int32)), .val (.ref o295), .val (.ref o297), .val (.ref o299), .val (.ref b317), .val (.ref b325), .val (.ref b317)] [(.ref o295)]))
    refine Run.pre (fun _ k => XS.aload X336.here hx rfl (hb hby at_175) rfl rfl k) ?_
    show Run p e below s _ _ _ (T336.setTop (mkF m 177 #[.val (.int kz), .val (.int xa), .val (.int xb), .val (.int xc), .val (.int (1 : Int32)), .val (.ref o295), .val (.ref o297), .val (.ref o299), .val (.ref b317), .val (.ref b325), .val (.ref b317)] [(.ref b317), (.ref o295)]))
    refine Run.pre (fun _ k => XS.iconst X336.here hx rfl (hb hby at_177) k) ?_
    show Run p e below s _ _ _ (T336.setTop (mkF m 178 #[.val (.int kz), .val (.int xa), .val (.int xb), .val (.int xc), .val (.int (1 : Int32)), .val (.ref o295), .val (.ref o297), .val (.ref o299), .val (.ref b317), .val (.ref b325), .val (.ref b317)] [(.int (0 : Int32)), (.ref b317), (.ref o295)]))
    have f338 := (fe323.keep Kc325 nin0)
    have f339 := (vb323.keep Kc325 nin0)
    refine Run.callF hS (by first | exact Nat.le_refl _ | (rw [e336]; exact (Nat.le_of_eq (congrArg Array.size e336)))) X336 hx hZ (xi := (⟨"java/util/List", "get", "(I)Ljava/lang/Object;"⟩ : MethodName)) (y := (⟨"java/util/ArrayList", "get", "(I)Ljava/lang/Object;"⟩ : MethodName)) hown (hw _ (List.mem_of_getElem? (i := 145) rfl)) (hw _ (List.mem_of_getElem? (i := 146) rfl)) (mvT (s := s.setVm _) hZ (hw _ (List.mem_of_getElem? (i := 147) rfl))) (hw _ (List.mem_of_getElem? (i := 148) rfl)) (hw _ (List.mem_of_getElem? (i := 149) rfl)) (hw _ (List.mem_of_getElem? (i := 150) rfl)) (hw _ (List.mem_of_getElem? (i := 151) rfl)) (hw _ (List.mem_of_getElem? (i := 112) rfl)) (hw _ (List.mem_of_getElem? (i := 152) rfl)) (hw _ (List.mem_of_getElem? (i := 28) rfl)) (by decide) (b := b317) f337 (W := 1) (rmGt_01 l Z a0 hw b317 b323 k323 o295 T325.heap n0 (Nat.le_trans Z0 K325.1) f337 f338 f339 f335) e336 (by decide) (by decide) (by decide) (by decide) (fun _ _ => trivial) (g := (mkF m 178 #[.val (.int kz), .val (.int xa), .val (.int xb), .val (.int xc), .val (.int (1 : Int32)), .val (.ref o295), .val (.ref o297), .val (.ref o299), .val (.ref b317), .val (.ref b325), .val (.ref b317)] [(.int (0 : Int32)), (.ref b317), (.ref o295)])) rfl (by rw [hml]; rfl) (argsL := [(.int (0 : Int32))]) (rest := [(.ref o295)]) (lenOf pd_11 rfl) rfl (by show 2 * 0 + _ ≤ _; exact Nat.le_of_eq rfl) (hb hby at_178) ?_
    intro v340 T340 L340 X340 hS hZ hown hV340 hQ340
    obtain ⟨rfl, Nq340, he340⟩ := hQ340
    have N340 := Fr.app N336 Nq340
    have e340 : T340.heap = T325.heap := he340
    show Run p e below s _ _ _ (T340.setTop (mkF m 183 #[.val (.int kz), .val (.int xa), .val (.int xb), .val (.int xc), .val (.int (1 : Int32)), .val (.ref o295), .val (.ref o297), .val (.ref o299), .val (.ref b317), .val (.ref b325), .val (.ref b317)] [(.ref o295), (.ref o295)]))
    have f342 := ((f322.keep Kc323).keep Kc325)
    refine Run.callV hS (by first | exact Nat.le_refl _ | (rw [e340]; exact (Nat.le_of_eq (congrArg Array.size e340)))) X340 hx hZ (y := (⟨"java/lang/String", "equals", "(Ljava/lang/Object;)Z"⟩ : MethodName)) (z := (⟨"java/lang/String", "equals", "(Ljava/lang/Object;)Z"⟩ : MethodName)) hown (hw _ (List.mem_of_getElem? (i := 166) rfl)) (hw _ (List.mem_of_getElem? (i := 167) rfl)) (notFace_of_selects (args := #[]) (mvT hZ (hw _ (List.mem_of_getElem? (i := 169) rfl)))) (hw _ (List.mem_of_getElem? (i := 169) rfl)) (hw _ (List.mem_of_getElem? (i := 168) rfl)) (hw _ (List.mem_of_getElem? (i := 170) rfl)) (hw _ (List.mem_of_getElem? (i := 6) rfl)) (by decide) (b := o295) f342 (W := 0) (rmEq l Z a0 hw o295 T325.heap n0 (Nat.le_trans Z0 K325.1)) e340 (by decide) (by decide) (by decide) (by decide) (fun _ _ => trivial) (g := (mkF m 183 #[.val (.int kz), .val (.int xa), .val (.int xb), .val (.int xc), .val (.int (1 : Int32)), .val (.ref o295), .val (.ref o297), .val (.ref o299), .val (.ref b317), .val (.ref b325), .val (.ref b317)] [(.ref o295), (.ref o295)])) rfl (by rw [hml]; rfl) (argsL := [(.ref o295)]) (rest := []) (lenOf pd_19 rfl) rfl (by show 2 * 0 + _ ≤ _; exact Nat.le_of_eq rfl) (hb hby at_183) ?_
    intro v341 T341 L341 X341 hS hZ hown hV341 hQ341
    obtain ⟨rfl, Nq341, he341⟩ := hQ341
    have N341 := Fr.app N340 Nq341
    have e341 : T341.heap = T325.heap := he341
    show Run p e below s _ _ _ (T341.setTop (mkF m 186 #[.val (.int kz), .val (.int xa), .val (.int xb), .val (.int xc), .val (.int (1 : Int32)), .val (.ref o295), .val (.ref o297), .val (.ref o299), .val (.ref b317), .val (.ref b325), .val (.ref b317)] [(.int (1 : Int32))]))
    refine Run.pre (fun _ k => XS.ifYes X341.here hx rfl (pc0 := 186) (pc' := 191) rfl (hb hby at_186) rfl ((if0 _ _).trans (feq ((by decide) : ¬ ((1 : Int32) = (0 : Int32)))).2) (by decide) (by decide) k) ?_
    show Run p e below s _ _ _ (T341.setTop (mkF m 191 #[.val (.int kz), .val (.int xa), .val (.int xb), .val (.int xc), .val (.int (1 : Int32)), .val (.ref o295), .val (.ref o297), .val (.ref o299), .val (.ref b317), .val (.ref b325), .val (.ref b317)] []))
    refine Run.pre (fun _ k => XS.iload X341.here hx rfl (hb hby at_191) rfl  k) ?_
    show Run p e below s _ _ _ (T341.setTop (mkF m 193 #[.val (.int kz), .val (.int xa), .val (.int xb), .val (.int xc), .val (.int (1 : Int32)), .val (.ref o295), .val (.ref o297), .val (.ref o299), .val (.ref b317), .val (.ref b325), .val (.ref b317)] [(.int (1 : Int32))]))
    refine Run.pre (fun _ k => XS.iconst X341.here hx rfl (hb hby at_193) k) ?_
    show Run p e below s _ _ _ (T341.setTop (mkF m 194 #[.val (.int kz), .val (.int xa), .val (.int xb), .val (.int xc), .val (.int (1 : Int32)), .val (.ref o295), .val (.ref o297), .val (.ref o299), .val (.ref b317), .val (.ref b325), .val (.ref b317)] [(.int (1 : Int32)), (.int (1 : Int32))]))
    refine Run.pre (fun _ k => XS.icmpYes X341.here hx rfl (pc0 := 194) (pc' := 215) rfl (hb hby at_194) rfl (flt ((by decide) : ¬ ((1 : Int32) < (1 : Int32)))).2.2.2 (by decide) (by decide) k) ?_
    show Run p e below s _ _ _ (T341.setTop (mkF m 215 #[.val (.int kz), .val (.int xa), .val (.int xb), .val (.int xc), .val (.int (1 : Int32)), .val (.ref o295), .val (.ref o297), .val (.ref o299), .val (.ref b317), .val (.ref b325), .val (.ref b317)] []))
    refine Run.pre (fun _ k => XS.iload X341.here hx rfl (hb hby at_215) rfl  k) ?_
    show Run p e below s _ _ _ (T341.setTop (mkF m 217 #[.val (.int kz), .val (.int xa), .val (.int xb), .val (.int xc), .val (.int (1 : Int32)), .val (.ref o295), .val (.ref o297), .val (.ref o299), .val (.ref b317), .val (.ref b325), .val (.ref b317)] [(.int (1 : Int32))]))
    refine Run.pre (fun _ k => XS.iconst X341.here hx rfl (hb hby at_217) k) ?_
    show Run p e below s _ _ _ (T341.setTop (mkF m 218 #[.val (.int kz), .val (.int xa), .val (.int xb), .val (.int xc), .val (.int (1 : Int32)), .val (.ref o295), .val (.ref o297), .val (.ref o299), .val (.ref b317), .val (.ref b325), .val (.ref b317)] [(.int (2 : Int32)), (.int (1 : Int32))]))
    refine Run.pre (fun _ k => XS.icmpYes X341.here hx rfl (pc0 := 218) (pc' := 239) rfl (hb hby at_218) rfl (flt ((by decide) : ¬ ((2 : Int32) < (1 : Int32)))).2.2.2 (by decide) (by decide) k) ?_
    show Run p e below s _ _ _ (T341.setTop (mkF m 239 #[.val (.int kz), .val (.int xa), .val (.int xb), .val (.int xc), .val (.int (1 : Int32)), .val (.ref o295), .val (.ref o297), .val (.ref o299), .val (.ref b317), .val (.ref b325), .val (.ref b317)] []))
    refine Run.pre (fun _ k => XS.iconst X341.here hx rfl (hb hby at_239) k) ?_
    show Run p e below s _ _ _ (T341.setTop (mkF m 240 #[.val (.int kz), .val (.int xa), .val (.int xb), .val (.int xc), .val (.int (1 : Int32)), .val (.ref o295), .val (.ref o297), .val (.ref o299), .val (.ref b317), .val (.ref b325), .val (.ref b317)] [(.int (1 : Int32))]))
    exact Run.retN hS (by first | exact Nat.le_refl _ | (rw [e341]; exact (Nat.le_of_eq (congrArg Array.size e341)))) X341 hx hret (t := .boolean) (by simp) hlk (hb hby at_240) (by first | (rw [e341]; exact ⟨rfl, N341⟩) | exact ⟨rfl, N341⟩) (by decide) (by decide)
  · rw [hn]
    show Run p e below s _ _ _ (T299.setTop (mkF m 23 #[.val (.int kz), .val (.int xa), .val (.int xb), .val (.int xc), .val (.int (2 : Int32)), .val (.ref o295), .val (.ref o297), .val (.ref o299), .unset, .unset, .unset] []))
    obtain ⟨T343, h343, X343, e343, E343, A343, D343, -, st343⟩ := newO X299 hx hZ hown (hw _ (List.mem_of_getElem? (i := 26) rfl)) (hw _ (List.mem_of_getElem? (i := 27) rfl)) (hw _ (List.mem_of_getElem? (i := 28) rfl)) rfl (g := (mkF m 23 #[.val (.int kz), .val (.int xa), .val (.int xb), .val (.int xc), .val (.int (2 : Int32)), .val (.ref o295), .val (.ref o297), .val (.ref o299), .unset, .unset, .unset] [])) rfl (hb hby at_23) (by decide) (by decide)
    obtain ⟨b343, g343⟩ : ∃ z, z = T299.heap.size := ⟨_, rfl⟩
    rw [← g343] at A343 D343 st343
    refine Run.pre st343 ?_
    have gn_b343 : n0 ≤ b343 := Nat.le_trans (Nat.le_trans Z0 K299.1) (Nat.le_of_eq g343.symm)
    have sz_b343 : h0.size ≤ b343 := Nat.le_trans K299.1 (Nat.le_of_eq g343.symm)
    have K343 : Keep h0 h343 [] := K299.ext E343
    have F_modCount_b343 : Fld Z h343 b343 "java/util/AbstractList" "modCount" "I" (.int (0 : Int32)) := D343 (Or.inl (hw _ (List.mem_of_getElem? (i := 46) rfl))) (ty := .int) (by decide)
    have F_elementData_b343 : Fld Z h343 b343 "java/util/ArrayList" "elementData" "[Ljava/lang/Object;" .null := D343 (Or.inl (hw _ (List.mem_of_getElem? (i := 49) rfl))) (ty := (.array (.object "java/lang/Object"))) (by decide)
    have F_size_b343 : Fld Z h343 b343 "java/util/ArrayList" "size" "I" (.int (0 : Int32)) := D343 (Or.inl (hw _ (List.mem_of_getElem? (i := 115) rfl))) (ty := .int) (by decide)
    show Run p e below s _ _ _ (T343.setTop (mkF m 26 #[.val (.int kz), .val (.int xa), .val (.int xb), .val (.int xc), .val (.int (2 : Int32)), .val (.ref o295), .val (.ref o297), .val (.ref o299), .unset, .unset, .unset] [(.ref b343)]))
    refine Run.pre (fun _ k => XS.dup X343.here hx rfl (hb hby at_26) rfl rfl k) ?_
    show Run p e below s _ _ _ (T343.setTop (mkF m 27 #[.val (.int kz), .val (.int xa), .val (.int xb), .val (.int xc), .val (.int (2 : Int32)), .val (.ref o295), .val (.ref o297), .val (.ref o299), .unset, .unset, .unset] [(.ref b343), (.ref b343)]))
    have f344 := ((f298.keep Kc299 all0).ext E343)
    refine Run.callI hS (by first | exact Nat.le_refl _ | (rw [e343]; exact (Nat.le_trans (Nat.le_refl _) E343.1))) X343 hx hZ (y := (⟨"java/util/ArrayList", "<init>", "()V"⟩ : MethodName)) rfl hown (hw _ (List.mem_of_getElem? (i := 29) rfl)) (hw _ (List.mem_of_getElem? (i := 30) rfl)) (hw _ (List.mem_of_getElem? (i := 31) rfl)) (hw _ (List.mem_of_getElem? (i := 28) rfl)) (by decide) (a := b343) (W := 1) (rmInit l Z a0 hw b343 dd kd h343 n0 (Nat.le_trans Z0 K343.1) f344 SD AD A343 F_modCount_b343 F_elementData_b343 F_size_b343 gn_b343) e343 (by decide) (by decide) (by decide) (by decide) (fun _ _ => trivial) (g := (mkF m 27 #[.val (.int kz), .val (.int xa), .val (.int xb), .val (.int xc), .val (.int (2 : Int32)), .val (.ref o295), .val (.ref o297), .val (.ref o299), .unset, .unset, .unset] [(.ref b343), (.ref b343)])) rfl (by rw [hml]; rfl) (argsL := []) (rest := [(.ref b343)]) (lenOf pd_5 rfl) rfl (by show 2 * 0 + _ ≤ _; exact Nat.le_of_eq rfl) (hb hby at_27) ?_
    intro v345 T345 L345 X345 hS hZ hown hV345 hQ345
    obtain ⟨rfl, Nq345, Kc345, fm345, fe345, fs345⟩ := hQ345
    have N345 := Fr.app N299 Nq345
    have K345 : Keep h0 T345.heap [] := K343.trans Kc345 (allS (Or.inr sz_b343) all0)
    show Run p e below s _ _ _ (T345.setTop (mkF m 30 #[.val (.int kz), .val (.int xa), .val (.int xb), .val (.int xc), .val (.int (2 : Int32)), .val (.ref o295), .val (.ref o297), .val (.ref o299), .unset, .unset, .unset] [(.ref b343)]))
    refine Run.pre (fun _ k => XS.astore X345.here hx rfl (hb hby at_30) rfl rfl (l' := #[.val (.int kz), .val (.int xa), .val (.int xb), .val (.int xc), .val (.int (2 : Int32)), .val (.ref o295), .val (.ref o297), .val (.ref o299), .val (.ref b343), .unset, .unset]) rfl k) ?_
    show Run p e below s _ _ _ (T345.setTop (mkF m 32 #[.val (.int kz), .val (.int xa), .val (.int xb), .val (.int xc), .val (.int (2 : Int32)), .val (.ref o295), .val (.ref o297), .val (.ref o299), .val (.ref b343), .unset, .unset] []))
    refine Run.pre (fun _ k => XS.iload X345.here hx rfl (hb hby at_32) rfl  k) ?_
    show Run p e below s _ _ _ (T345.setTop (mkF m 34 #[.val (.int kz), .val (.int xa), .val (.int xb), .val (.int xc), .val (.int (2 : Int32)), .val (.ref o295), .val (.ref o297), .val (.ref o299), .val (.ref b343), .unset, .unset] [(.int (2 : Int32))]))
    refine Run.pre (fun _ k => XS.ifNo X345.here hx rfl (hb hby at_34) rfl ((if0 _ _).trans (tlt ((by decide) : (0 : Int32) < (2 : Int32))).2.2.2) k) ?_
    show Run p e below s _ _ _ (T345.setTop (mkF m 37 #[.val (.int kz), .val (.int xa), .val (.int xb), .val (.int xc), .val (.int (2 : Int32)), .val (.ref o295), .val (.ref o297), .val (.ref o299), .val (.ref b343), .unset, .unset] []))
    refine Run.pre (fun _ k => XS.aload X345.here hx rfl (hb hby at_37) rfl rfl k) ?_
    show Run p e below s _ _ _ (T345.setTop (mkF m 39 #[.val (.int kz), .val (.int xa), .val (.int xb), .val (.int xc), .val (.int (2 : Int32)), .val (.ref o295), .val (.ref o297), .val (.ref o299), .val (.ref b343), .unset, .unset] [(.ref b343)]))
    refine Run.pre (fun _ k => XS.aload X345.here hx rfl (hb hby at_39) rfl rfl k) ?_
    show Run p e below s _ _ _ (T345.setTop (mkF m 41 #[.val (.int kz), .val (.int xa), .val (.int xb), .val (.int xc), .val (.int (2 : Int32)), .val (.ref o295), .val (.ref o297), .val (.ref o299), .val (.ref b343), .unset, .unset] [(.ref o295), (.ref b343)]))
    have f346 := (f344.keep Kc345 (allS gn_b343 all0))
    have f347 := (A343.keep Kc345)
    have f348 := ((((eo295.keep Kc297).keep Kc299).ext E343).keep Kc345)
    refine Run.callV hS (Nat.le_refl _) X345 hx hZ (y := (⟨"java/util/ArrayList", "add", "(Ljava/lang/Object;)Z"⟩ : MethodName)) (z := (⟨"java/util/ArrayList", "add", "(Ljava/lang/Object;)Z"⟩ : MethodName)) hown (hw _ (List.mem_of_getElem? (i := 116) rfl)) (hw _ (List.mem_of_getElem? (i := 117) rfl)) (notFace_of_selects (args := #[]) (mvT hZ (hw _ (List.mem_of_getElem? (i := 119) rfl)))) (hw _ (List.mem_of_getElem? (i := 119) rfl)) (hw _ (List.mem_of_getElem? (i := 118) rfl)) (hw _ (List.mem_of_getElem? (i := 120) rfl)) (hw _ (List.mem_of_getElem? (i := 28) rfl)) (by decide) (b := b343) f347 (W := 0) (rmA1_0 l Z a0 hw b343 dd kd o295 T345.heap n0 (Nat.le_trans Z0 K345.1) f346 SD AD f347 fm345 fe345 fs345 gn_b343 f348) rfl (by decide) (by decide) (by decide) (by decide) (fun _ _ => trivial) (g := (mkF m 41 #[.val (.int kz), .val (.int xa), .val (.int xb), .val (.int xc), .val (.int (2 : Int32)), .val (.ref o295), .val (.ref o297), .val (.ref o299), .val (.ref b343), .unset, .unset] [(.ref o295), (.ref b343)])) rfl (by rw [hml]; rfl) (argsL := [(.ref o295)]) (rest := []) (lenOf pd_19 rfl) rfl (by show 2 * 0 + _ ≤ _; exact Nat.le_of_eq rfl) (hb hby at_41) ?_
    intro v349 T349 L349 X349 hS hZ hown hV349 hQ349
    obtain ⟨b349, k349, rfl, Nq349, Kc349, sz349, vb349, ov349, fm349, fe349, fs349⟩ := hQ349
    have N349 := Fr.app N345 Nq349
    have K349 : Keep h0 T349.heap [] := K345.trans Kc349 (allS (Or.inr sz_b343) all0)
    have sz_b349 : h0.size ≤ b349 := Nat.le_trans K345.1 sz349
    have gn_b349 : n0 ≤ b349 := Nat.le_trans Z0 sz_b349
    show Run p e below s _ _ _ (T349.setTop (mkF m 44 #[.val (.int kz), .val (.int xa), .val (.int xb), .val (.int xc), .val (.int (2 : Int32)), .val (.ref o295), .val (.ref o297), .val (.ref o299), .val (.ref b343), .unset, .unset] [(.int (1 : Int32))]))
    refine Run.pre (fun _ k => XS.pop X349.here hx rfl (hb hby at_44) rfl rfl k) ?_
    show Run p e below s _ _ _ (T349.setTop (mkF m 45 #[.val (.int kz), .val (.int xa), .val (.int xb), .val (.int xc), .val (.int (2 : Int32)), .val (.ref o295), .val (.ref o297), .val (.ref o299), .val (.ref b343), .unset, .unset] []))
    refine Run.pre (fun _ k => XS.iload X349.here hx rfl (hb hby at_45) rfl  k) ?_
    show Run p e below s _ _ _ (T349.setTop (mkF m 47 #[.val (.int kz), .val (.int xa), .val (.int xb), .val (.int xc), .val (.int (2 : Int32)), .val (.ref o295), .val (.ref o297), .val (.ref o299), .val (.ref b343), .unset, .unset] [(.int (2 : Int32))]))
    refine Run.pre (fun _ k => XS.iconst X349.here hx rfl (hb hby at_47) k) ?_
    show Run p e below s _ _ _ (T349.setTop (mkF m 48 #[.val (.int kz), .val (.int xa), .val (.int xb), .val (.int xc), .val (.int (2 : Int32)), .val (.ref o295), .val (.ref o297), .val (.ref o299), .val (.ref b343), .unset, .unset] [(.int (1 : Int32)), (.int (2 : Int32))]))
    refine Run.pre (fun _ k => XS.icmpNo X349.here hx rfl (hb hby at_48) rfl (tlt ((by decide) : (1 : Int32) < (2 : Int32))).2.2.2 k) ?_
    show Run p e below s _ _ _ (T349.setTop (mkF m 51 #[.val (.int kz), .val (.int xa), .val (.int xb), .val (.int xc), .val (.int (2 : Int32)), .val (.ref o295), .val (.ref o297), .val (.ref o299), .val (.ref b343), .unset, .unset] []))
    refine Run.pre (fun _ k => XS.aload X349.here hx rfl (hb hby at_51) rfl rfl k) ?_
    show Run p e below s _ _ _ (T349.setTop (mkF m 53 #[.val (.int kz), .val (.int xa), .val (.int xb), .val (.int xc), .val (.int (2 : Int32)), .val (.ref o295), .val (.ref o297), .val (.ref o299), .val (.ref b343), .unset, .unset] [(.ref b343)]))
    refine Run.pre (fun _ k => XS.aload X349.here hx rfl (hb hby at_53) rfl rfl k) ?_
    show Run p e below s _ _ _ (T349.setTop (mkF m 55 #[.val (.int kz), .val (.int xa), .val (.int xb), .val (.int xc), .val (.int (2 : Int32)), .val (.ref o295), .val (.ref o297), .val (.ref o299), .val (.ref b343), .unset, .unset] [(.ref o297), (.ref b343)]))
    have f350 := (f346.keep Kc349 (allS gn_b343 all0))
    have f351 := (f347.keep Kc349)
    have f352 := ((((eo297.keep Kc299).ext E343).keep Kc345).keep Kc349)
    refine Run.callV hS (Nat.le_refl _) X349 hx hZ (y := (⟨"java/util/ArrayList", "add", "(Ljava/lang/Object;)Z"⟩ : MethodName)) (z := (⟨"java/util/ArrayList", "add", "(Ljava/lang/Object;)Z"⟩ : MethodName)) hown (hw _ (List.mem_of_getElem? (i := 116) rfl)) (hw _ (List.mem_of_getElem? (i := 117) rfl)) (notFace_of_selects (args := #[]) (mvT hZ (hw _ (List.mem_of_getElem? (i := 119) rfl)))) (hw _ (List.mem_of_getElem? (i := 119) rfl)) (hw _ (List.mem_of_getElem? (i := 118) rfl)) (hw _ (List.mem_of_getElem? (i := 120) rfl)) (hw _ (List.mem_of_getElem? (i := 28) rfl)) (by decide) (b := b343) f351 (W := 0) (rmA1_1 l Z a0 hw b343 b349 k349 o295 o297 T349.heap n0 (Nat.le_trans Z0 K349.1) f350 vb349 ov349 gn_b349 (Ne.symm (Nat.ne_of_lt (Nat.lt_of_lt_of_le fm345.lt sz349))) f351 fm349 fe349 fs349 gn_b343 f352) rfl (by decide) (by decide) (by decide) (by decide) (fun _ _ => trivial) (g := (mkF m 55 #[.val (.int kz), .val (.int xa), .val (.int xb), .val (.int xc), .val (.int (2 : Int32)), .val (.ref o295), .val (.ref o297), .val (.ref o299), .val (.ref b343), .unset, .unset] [(.ref o297), (.ref b343)])) rfl (by rw [hml]; rfl) (argsL := [(.ref o297)]) (rest := []) (lenOf pd_19 rfl) rfl (by show 2 * 0 + _ ≤ _; exact Nat.le_of_eq rfl) (hb hby at_55) ?_
    intro v353 T353 L353 X353 hS hZ hown hV353 hQ353
    obtain ⟨rfl, Nq353, Kc353, vb353, fm353, fe353, fs353⟩ := hQ353
    have N353 := Fr.app N349 Nq353
    have K353 : Keep h0 T353.heap [] := K349.trans Kc353 (allS (Or.inr sz_b343) (allS (Or.inr sz_b349) all0))
    show Run p e below s _ _ _ (T353.setTop (mkF m 58 #[.val (.int kz), .val (.int xa), .val (.int xb), .val (.int xc), .val (.int (2 : Int32)), .val (.ref o295), .val (.ref o297), .val (.ref o299), .val (.ref b343), .unset, .unset] [(.int (1 : Int32))]))
    refine Run.pre (fun _ k => XS.pop X353.here hx rfl (hb hby at_58) rfl rfl k) ?_
    show Run p e below s _ _ _ (T353.setTop (mkF m 59 #[.val (.int kz), .val (.int xa), .val (.int xb), .val (.int xc), .val (.int (2 : Int32)), .val (.ref o295), .val (.ref o297), .val (.ref o299), .val (.ref b343), .unset, .unset] []))
    refine Run.pre (fun _ k => XS.iload X353.here hx rfl (hb hby at_59) rfl  k) ?_
    show Run p e below s _ _ _ (T353.setTop (mkF m 61 #[.val (.int kz), .val (.int xa), .val (.int xb), .val (.int xc), .val (.int (2 : Int32)), .val (.ref o295), .val (.ref o297), .val (.ref o299), .val (.ref b343), .unset, .unset] [(.int (2 : Int32))]))
    refine Run.pre (fun _ k => XS.iconst X353.here hx rfl (hb hby at_61) k) ?_
    show Run p e below s _ _ _ (T353.setTop (mkF m 62 #[.val (.int kz), .val (.int xa), .val (.int xb), .val (.int xc), .val (.int (2 : Int32)), .val (.ref o295), .val (.ref o297), .val (.ref o299), .val (.ref b343), .unset, .unset] [(.int (2 : Int32)), (.int (2 : Int32))]))
    refine Run.pre (fun _ k => XS.icmpYes X353.here hx rfl (pc0 := 62) (pc' := 73) rfl (hb hby at_62) rfl (flt ((by decide) : ¬ ((2 : Int32) < (2 : Int32)))).2.2.2 (by decide) (by decide) k) ?_
    show Run p e below s _ _ _ (T353.setTop (mkF m 73 #[.val (.int kz), .val (.int xa), .val (.int xb), .val (.int xc), .val (.int (2 : Int32)), .val (.ref o295), .val (.ref o297), .val (.ref o299), .val (.ref b343), .unset, .unset] []))
    refine Run.pre (fun _ k => XS.aload X353.here hx rfl (hb hby at_73) rfl rfl k) ?_
    show Run p e below s _ _ _ (T353.setTop (mkF m 75 #[.val (.int kz), .val (.int xa), .val (.int xb), .val (.int xc), .val (.int (2 : Int32)), .val (.ref o295), .val (.ref o297), .val (.ref o299), .val (.ref b343), .unset, .unset] [(.ref b343)]))
    have f354 := (f350.keep Kc353 (allS gn_b343 (allS gn_b349 all0)))
    refine Run.callS hS (Nat.le_refl _) X353 hx hZ (y := (⟨"com/example/portcullis/portcullis/http/GateDecision", "challenged", "(Ljava/util/List;)Lcom/example/portcullis/portcullis/http/GateDecision;"⟩ : MethodName)) hown (hw _ (List.mem_of_getElem? (i := 50) rfl)) (hw _ (List.mem_of_getElem? (i := 51) rfl)) (hw _ (List.mem_of_getElem? (i := 52) rfl)) (hw _ (List.mem_of_getElem? (i := 53) rfl)) (by decide) (W := 0) (rmCh l Z a0 hw we b343 T353.heap n0 (Nat.le_trans Z0 K353.1) f354 SE) rfl (by decide) (by decide) (by decide) (by decide) (fun _ _ => trivial) (g := (mkF m 75 #[.val (.int kz), .val (.int xa), .val (.int xb), .val (.int xc), .val (.int (2 : Int32)), .val (.ref o295), .val (.ref o297), .val (.ref o299), .val (.ref b343), .unset, .unset] [(.ref b343)])) rfl (by rw [hml]; rfl) (argsL := [(.ref b343)]) (rest := []) (lenOf pd_15 rfl) rfl (by show 2 * 0 + _ ≤ _; exact Nat.le_of_eq rfl) (hb hby at_75) ?_
    intro v355 T355 L355 X355 hS hZ hown hV355 hQ355
    obtain ⟨b355, rfl, Nq355, Kc355, sz355, eg355, fg0_355, fg1_355, fg2_355, fg3_355⟩ := hQ355
    have N355 := Fr.app N353 Nq355
    have K355 : Keep h0 T355.heap [] := K353.trans Kc355 all0
    have sz_b355 : h0.size ≤ b355 := Nat.le_trans K353.1 sz355
    have gn_b355 : n0 ≤ b355 := Nat.le_trans Z0 sz_b355
    show Run p e below s _ _ _ (T355.setTop (mkF m 78 #[.val (.int kz), .val (.int xa), .val (.int xb), .val (.int xc), .val (.int (2 : Int32)), .val (.ref o295), .val (.ref o297), .val (.ref o299), .val (.ref b343), .unset, .unset] [(.ref b355)]))
    refine Run.pre (fun _ k => XS.astore X355.here hx rfl (hb hby at_78) rfl rfl (l' := #[.val (.int kz), .val (.int xa), .val (.int xb), .val (.int xc), .val (.int (2 : Int32)), .val (.ref o295), .val (.ref o297), .val (.ref o299), .val (.ref b343), .val (.ref b355), .unset]) rfl k) ?_
    show Run p e below s _ _ _ (T355.setTop (mkF m 80 #[.val (.int kz), .val (.int xa), .val (.int xb), .val (.int xc), .val (.int (2 : Int32)), .val (.ref o295), .val (.ref o297), .val (.ref o299), .val (.ref b343), .val (.ref b355), .unset] []))
    refine Run.pre (fun _ k => XS.aload X355.here hx rfl (hb hby at_80) rfl rfl k) ?_
    show Run p e below s _ _ _ (T355.setTop (mkF m 82 #[.val (.int kz), .val (.int xa), .val (.int xb), .val (.int xc), .val (.int (2 : Int32)), .val (.ref o295), .val (.ref o297), .val (.ref o299), .val (.ref b343), .val (.ref b355), .unset] [(.ref b355)]))
    refine Run.pre (fun _ k => XS.ifnonnullYes X355.here hx rfl (pc0 := 82) (pc' := 87) rfl (hb hby at_82) rfl (by decide) (by decide) k) ?_
    show Run p e below s _ _ _ (T355.setTop (mkF m 87 #[.val (.int kz), .val (.int xa), .val (.int xb), .val (.int xc), .val (.int (2 : Int32)), .val (.ref o295), .val (.ref o297), .val (.ref o299), .val (.ref b343), .val (.ref b355), .unset] []))
    refine Run.pre (fun _ k => XS.aload X355.here hx rfl (hb hby at_87) rfl rfl k) ?_
    show Run p e below s _ _ _ (T355.setTop (mkF m 89 #[.val (.int kz), .val (.int xa), .val (.int xb), .val (.int xc), .val (.int (2 : Int32)), .val (.ref o295), .val (.ref o297), .val (.ref o299), .val (.ref b343), .val (.ref b355), .unset] [(.ref b355)]))
    refine Run.callV hS (Nat.le_refl _) X355 hx hZ (y := (⟨"com/example/portcullis/portcullis/http/GateDecision", "status", "()I"⟩ : MethodName)) (z := (⟨"com/example/portcullis/portcullis/http/GateDecision", "status", "()I"⟩ : MethodName)) hown (hw _ (List.mem_of_getElem? (i := 78) rfl)) (hw _ (List.mem_of_getElem? (i := 79) rfl)) (notFace_of_selects (args := #[]) (mvT hZ (hw _ (List.mem_of_getElem? (i := 81) rfl)))) (hw _ (List.mem_of_getElem? (i := 81) rfl)) (hw _ (List.mem_of_getElem? (i := 80) rfl)) (hw _ (List.mem_of_getElem? (i := 82) rfl)) (hw _ (List.mem_of_getElem? (i := 52) rfl)) (by decide) (b := b355) eg355 (W := 0) (rmget_status l Z a0 hw b355 (401 : Int32) T355.heap n0 (Nat.le_trans Z0 K355.1) fg0_355) rfl (by decide) (by decide) (by decide) (by decide) (fun _ _ => trivial) (g := (mkF m 89 #[.val (.int kz), .val (.int xa), .val (.int xb), .val (.int xc), .val (.int (2 : Int32)), .val (.ref o295), .val (.ref o297), .val (.ref o299), .val (.ref b343), .val (.ref b355), .unset] [(.ref b355)])) rfl (by rw [hml]; rfl) (argsL := []) (rest := []) (lenOf pd_16 rfl) rfl (by show 2 * 0 + _ ≤ _; exact Nat.le_of_eq rfl) (hb hby at_89) ?_
    intro v356 T356 L356 X356 hS hZ hown hV356 hQ356
    obtain ⟨rfl, Nq356, he356⟩ := hQ356
    have N356 := Fr.app N355 Nq356
    have e356 : T356.heap = T355.heap := he356
    show Run p e below s _ _ _ (T356.setTop (mkF m 92 #[.val (.int kz), .val (.int xa), .val (.int xb), .val (.int xc), .val (.int (2 : Int32)), .val (.ref o295), .val (.ref o297), .val (.ref o299), .val (.ref b343), .val (.ref b355), .unset] [(.int (401 : Int32))]))
    refine Run.pre (fun _ k => XS.sipush X356.here hx rfl (hb hby at_92) k) ?_
    show Run p e below s _ _ _ (T356.setTop (mkF m 95 #[.val (.int kz), .val (.int xa), .val (.int xb), .val (.int xc), .val (.int (2 : Int32)), .val (.ref o295), .val (.ref o297), .val (.ref o299), .val (.ref b343), .val (.ref b355), .unset] [(.int (401 : Int32)), (.int (401 : Int32))]))
    refine Run.pre (fun _ k => XS.icmpYes X356.here hx rfl (pc0 := 95) (pc' := 100) rfl (hb hby at_95) rfl (teq ((by decide) : (401 : Int32) = (401 : Int32))).1 (by decide) (by decide) k) ?_
    show Run p e below s _ _ _ (T356.setTop (mkF m 100 #[.val (.int kz), .val (.int xa), .val (.int xb), .val (.int xc), .val (.int (2 : Int32)), .val (.ref o295), .val (.ref o297), .val (.ref o299), .val (.ref b343), .val (.ref b355), .unset] []))
    refine Run.pre (fun _ k => XS.aload X356.here hx rfl (hb hby at_100) rfl rfl k) ?_
    show Run p e below s _ _ _ (T356.setTop (mkF m 102 #[.val (.int kz), .val (.int xa), .val (.int xb), .val (.int xc), .val (.int (2 : Int32)), .val (.ref o295), .val (.ref o297), .val (.ref o299), .val (.ref b343), .val (.ref b355), .unset] [(.ref b355)]))
    refine Run.callV hS (by first | exact Nat.le_refl _ | (rw [e356]; exact (Nat.le_of_eq (congrArg Array.size e356)))) X356 hx hZ (y := (⟨"com/example/portcullis/portcullis/http/GateDecision", "identity", "()Ljava/util/Optional;"⟩ : MethodName)) (z := (⟨"com/example/portcullis/portcullis/http/GateDecision", "identity", "()Ljava/util/Optional;"⟩ : MethodName)) hown (hw _ (List.mem_of_getElem? (i := 83) rfl)) (hw _ (List.mem_of_getElem? (i := 84) rfl)) (notFace_of_selects (args := #[]) (mvT hZ (hw _ (List.mem_of_getElem? (i := 86) rfl)))) (hw _ (List.mem_of_getElem? (i := 86) rfl)) (hw _ (List.mem_of_getElem? (i := 85) rfl)) (hw _ (List.mem_of_getElem? (i := 87) rfl)) (hw _ (List.mem_of_getElem? (i := 52) rfl)) (by decide) (b := b355) eg355 (W := 0) (rmget_identity l Z a0 hw b355 we T355.heap n0 (Nat.le_trans Z0 K355.1) fg1_355) e356 (by decide) (by decide) (by decide) (by decide) (fun _ _ => trivial) (g := (mkF m 102 #[.val (.int kz), .val (.int xa), .val (.int xb), .val (.int xc), .val (.int (2 : Int32)), .val (.ref o295), .val (.ref o297), .val (.ref o299), .val (.ref b343), .val (.ref b355), .unset] [(.ref b355)])) rfl (by rw [hml]; rfl) (argsL := []) (rest := []) (lenOf pd_12 rfl) rfl (by show 2 * 0 + _ ≤ _; exact Nat.le_of_eq rfl) (hb hby at_102) ?_
    intro v357 T357 L357 X357 hS hZ hown hV357 hQ357
    obtain ⟨rfl, Nq357, he357⟩ := hQ357
    have N357 := Fr.app N356 Nq357
    have e357 : T357.heap = T355.heap := he357
    show Run p e below s _ _ _ (T357.setTop (mkF m 105 #[.val (.int kz), .val (.int xa), .val (.int xb), .val (.int xc), .val (.int (2 : Int32)), .val (.ref o295), .val (.ref o297), .val (.ref o299), .val (.ref b343), .val (.ref b355), .unset] [(.ref we)]))
    refine Run.pre (fun _ k => XS.ifnullNo X357.here hx rfl (hb hby at_105) rfl k) ?_
    show Run p e below s _ _ _ (T357.setTop (mkF m 108 #[.val (.int kz), .val (.int xa), .val (.int xb), .val (.int xc), .val (.int (2 : Int32)), .val (.ref o295), .val (.ref o297), .val (.ref o299), .val (.ref b343), .val (.ref b355), .unset] []))
    refine Run.pre (fun _ k => XS.aload X357.here hx rfl (hb hby at_108) rfl rfl k) ?_
    show Run p e below s _ _ _ (T357.setTop (mkF m 110 #[.val (.int kz), .val (.int xa), .val (.int xb), .val (.int xc), .val (.int (2 : Int32)), .val (.ref o295), .val (.ref o297), .val (.ref o299), .val (.ref b343), .val (.ref b355), .unset] [(.ref b355)]))
    refine Run.callV hS (by first | exact Nat.le_refl _ | (rw [e357]; exact (Nat.le_of_eq (congrArg Array.size e357)))) X357 hx hZ (y := (⟨"com/example/portcullis/portcullis/http/GateDecision", "identity", "()Ljava/util/Optional;"⟩ : MethodName)) (z := (⟨"com/example/portcullis/portcullis/http/GateDecision", "identity", "()Ljava/util/Optional;"⟩ : MethodName)) hown (hw _ (List.mem_of_getElem? (i := 83) rfl)) (hw _ (List.mem_of_getElem? (i := 84) rfl)) (notFace_of_selects (args := #[]) (mvT hZ (hw _ (List.mem_of_getElem? (i := 86) rfl)))) (hw _ (List.mem_of_getElem? (i := 86) rfl)) (hw _ (List.mem_of_getElem? (i := 85) rfl)) (hw _ (List.mem_of_getElem? (i := 87) rfl)) (hw _ (List.mem_of_getElem? (i := 52) rfl)) (by decide) (b := b355) eg355 (W := 0) (rmget_identity l Z a0 hw b355 we T355.heap n0 (Nat.le_trans Z0 K355.1) fg1_355) e357 (by decide) (by decide) (by decide) (by decide) (fun _ _ => trivial) (g := (mkF m 110 #[.val (.int kz), .val (.int xa), .val (.int xb), .val (.int xc), .val (.int (2 : Int32)), .val (.ref o295), .val (.ref o297), .val (.ref o299), .val (.ref b343), .val (.ref b355), .unset] [(.ref b355)])) rfl (by rw [hml]; rfl) (argsL := []) (rest := []) (lenOf pd_12 rfl) rfl (by show 2 * 0 + _ ≤ _; exact Nat.le_of_eq rfl) (hb hby at_110) ?_
    intro v358 T358 L358 X358 hS hZ hown hV358 hQ358
    obtain ⟨rfl, Nq358, he358⟩ := hQ358
    have N358 := Fr.app N357 Nq358
    have e358 : T358.heap = T355.heap := he358
    show Run p e below s _ _ _ (T358.setTop (mkF m 113 #[.val (.int kz), .val (.int xa), .val (.int xb), .val (.int xc), .val (.int (2 : Int32)), .val (.ref o295), .val (.ref o297), .val (.ref o299), .val (.ref b343), .val (.ref b355), .unset] [(.ref we)]))
    have f359 := (f354.keep Kc355 all0)
    refine Run.callV hS (by first | exact Nat.le_refl _ | (rw [e358]; exact (Nat.le_of_eq (congrArg Array.size e358)))) X358 hx hZ (y := (⟨"java/util/Optional", "isPresent", "()Z"⟩ : MethodName)) (z := (⟨"java/util/Optional", "isPresent", "()Z"⟩ : MethodName)) hown (hw _ (List.mem_of_getElem? (i := 88) rfl)) (hw _ (List.mem_of_getElem? (i := 89) rfl)) (notFace_of_selects (args := #[]) (mvT hZ (hw _ (List.mem_of_getElem? (i := 91) rfl)))) (hw _ (List.mem_of_getElem? (i := 91) rfl)) (hw _ (List.mem_of_getElem? (i := 90) rfl)) (hw _ (List.mem_of_getElem? (i := 92) rfl)) (hw _ (List.mem_of_getElem? (i := 58) rfl)) (by decide) (b := we) (EE.ext f359.2) (W := 0) (rmPr l Z a0 hw we T355.heap n0 (Nat.le_trans Z0 K355.1) (FW.ext f359.2)) e358 (by decide) (by decide) (by decide) (by decide) (fun _ _ => trivial) (g := (mkF m 113 #[.val (.int kz), .val (.int xa), .val (.int xb), .val (.int xc), .val (.int (2 : Int32)), .val (.ref o295), .val (.ref o297), .val (.ref o299), .val (.ref b343), .val (.ref b355), .unset] [(.ref we)])) rfl (by rw [hml]; rfl) (argsL := []) (rest := []) (lenOf pd_17 rfl) rfl (by show 2 * 0 + _ ≤ _; exact Nat.le_of_eq rfl) (hb hby at_113) ?_
    intro v360 T360 L360 X360 hS hZ hown hV360 hQ360
    obtain ⟨rfl, Nq360, he360⟩ := hQ360
    have N360 := Fr.app N358 Nq360
    have e360 : T360.heap = T355.heap := he360
    show Run p e below s _ _ _ (T360.setTop (mkF m 116 #[.val (.int kz), .val (.int xa), .val (.int xb), .val (.int xc), .val (.int (2 : Int32)), .val (.ref o295), .val (.ref o297), .val (.ref o299), .val (.ref b343), .val (.ref b355), .unset] [(.int (0 : Int32))]))
    refine Run.pre (fun _ k => XS.ifYes X360.here hx rfl (pc0 := 116) (pc' := 121) rfl (hb hby at_116) rfl ((if0 _ _).trans (teq ((by decide) : (0 : Int32) = (0 : Int32))).1) (by decide) (by decide) k) ?_
    show Run p e below s _ _ _ (T360.setTop (mkF m 121 #[.val (.int kz), .val (.int xa), .val (.int xb), .val (.int xc), .val (.int (2 : Int32)), .val (.ref o295), .val (.ref o297), .val (.ref o299), .val (.ref b343), .val (.ref b355), .unset] []))
    refine Run.pre (fun _ k => XS.aload X360.here hx rfl (hb hby at_121) rfl rfl k) ?_
    show Run p e below s _ _ _ (T360.setTop (mkF m 123 #[.val (.int kz), .val (.int xa), .val (.int xb), .val (.int xc), .val (.int (2 : Int32)), .val (.ref o295), .val (.ref o297), .val (.ref o299), .val (.ref b343), .val (.ref b355), .unset] [(.ref b355)]))
    refine Run.callV hS (by first | exact Nat.le_refl _ | (rw [e360]; exact (Nat.le_of_eq (congrArg Array.size e360)))) X360 hx hZ (y := (⟨"com/example/portcullis/portcullis/http/GateDecision", "mechanism", "()Ljava/util/Optional;"⟩ : MethodName)) (z := (⟨"com/example/portcullis/portcullis/http/GateDecision", "mechanism", "()Ljava/util/Optional;"⟩ : MethodName)) hown (hw _ (List.mem_of_getElem? (i := 95) rfl)) (hw _ (List.mem_of_getElem? (i := 96) rfl)) (notFace_of_selects (args := #[]) (mvT hZ (hw _ (List.mem_of_getElem? (i := 98) rfl)))) (hw _ (List.mem_of_getElem? (i := 98) rfl)) (hw _ (List.mem_of_getElem? (i := 97) rfl)) (hw _ (List.mem_of_getElem? (i := 99) rfl)) (hw _ (List.mem_of_getElem? (i := 52) rfl)) (by decide) (b := b355) eg355 (W := 0) (rmget_mechanism l Z a0 hw b355 we T355.heap n0 (Nat.le_trans Z0 K355.1) fg2_355) e360 (by decide) (by decide) (by decide) (by decide) (fun _ _ => trivial) (g := (mkF m 123 #[.val (.int kz), .val (.int xa), .val (.int xb), .val (.int xc), .val (.int (2 : Int32)), .val (.ref o295), .val (.ref o297), .val (.ref o299), .val (.ref b343), .val (.ref b355), .unset] [(.ref b355)])) rfl (by rw [hml]; rfl) (argsL := []) (rest := []) (lenOf pd_12 rfl) rfl (by show 2 * 0 + _ ≤ _; exact Nat.le_of_eq rfl) (hb hby at_123) ?_
    intro v361 T361 L361 X361 hS hZ hown hV361 hQ361
    obtain ⟨rfl, Nq361, he361⟩ := hQ361
    have N361 := Fr.app N360 Nq361
    have e361 : T361.heap = T355.heap := he361
    show Run p e below s _ _ _ (T361.setTop (mkF m 126 #[.val (.int kz), .val (.int xa), .val (.int xb), .val (.int xc), .val (.int (2 : Int32)), .val (.ref o295), .val (.ref o297), .val (.ref o299), .val (.ref b343), .val (.ref b355), .unset] [(.ref we)]))
    refine Run.pre (fun _ k => XS.ifnullNo X361.here hx rfl (hb hby at_126) rfl k) ?_
    show Run p e below s _ _ _ (T361.setTop (mkF m 129 #[.val (.int kz), .val (.int xa), .val (.int xb), .val (.int xc), .val (.int (2 : Int32)), .val (.ref o295), .val (.ref o297), .val (.ref o299), .val (.ref b343), .val (.ref b355), .unset] []))
    refine Run.pre (fun _ k => XS.aload X361.here hx rfl (hb hby at_129) rfl rfl k) ?_
    show Run p e below s _ _ _ (T361.setTop (mkF m 131 #[.val (.int kz), .val (.int xa), .val (.int xb), .val (.int xc), .val (.int (2 : Int32)), .val (.ref o295), .val (.ref o297), .val (.ref o299), .val (.ref b343), .val (.ref b355), .unset] [(.ref b355)]))
    refine Run.callV hS (by first | exact Nat.le_refl _ | (rw [e361]; exact (Nat.le_of_eq (congrArg Array.size e361)))) X361 hx hZ (y := (⟨"com/example/portcullis/portcullis/http/GateDecision", "mechanism", "()Ljava/util/Optional;"⟩ : MethodName)) (z := (⟨"com/example/portcullis/portcullis/http/GateDecision", "mechanism", "()Ljava/util/Optional;"⟩ : MethodName)) hown (hw _ (List.mem_of_getElem? (i := 95) rfl)) (hw _ (List.mem_of_getElem? (i := 96) rfl)) (notFace_of_selects (args := #[]) (mvT hZ (hw _ (List.mem_of_getElem? (i := 98) rfl)))) (hw _ (List.mem_of_getElem? (i := 98) rfl)) (hw _ (List.mem_of_getElem? (i := 97) rfl)) (hw _ (List.mem_of_getElem? (i := 99) rfl)) (hw _ (List.mem_of_getElem? (i := 52) rfl)) (by decide) (b := b355) eg355 (W := 0) (rmget_mechanism l Z a0 hw b355 we T355.heap n0 (Nat.le_trans Z0 K355.1) fg2_355) e361 (by decide) (by decide) (by decide) (by decide) (fun _ _ => trivial) (g := (mkF m 131 #[.val (.int kz), .val (.int xa), .val (.int xb), .val (.int xc), .val (.int (2 : Int32)), .val (.ref o295), .val (.ref o297), .val (.ref o299), .val (.ref b343), .val (.ref b355), .unset] [(.ref b355)])) rfl (by rw [hml]; rfl) (argsL := []) (rest := []) (lenOf pd_12 rfl) rfl (by show 2 * 0 + _ ≤ _; exact Nat.le_of_eq rfl) (hb hby at_131) ?_
    intro v362 T362 L362 X362 hS hZ hown hV362 hQ362
    obtain ⟨rfl, Nq362, he362⟩ := hQ362
    have N362 := Fr.app N361 Nq362
    have e362 : T362.heap = T355.heap := he362
    show Run p e below s _ _ _ (T362.setTop (mkF m 134 #[.val (.int kz), .val (.int xa), .val (.int xb), .val (.int xc), .val (.int (2 : Int32)), .val (.ref o295), .val (.ref o297), .val (.ref o299), .val (.ref b343), .val (.ref b355), .unset] [(.ref we)]))
    refine Run.callV hS (by first | exact Nat.le_refl _ | (rw [e362]; exact (Nat.le_of_eq (congrArg Array.size e362)))) X362 hx hZ (y := (⟨"java/util/Optional", "isPresent", "()Z"⟩ : MethodName)) (z := (⟨"java/util/Optional", "isPresent", "()Z"⟩ : MethodName)) hown (hw _ (List.mem_of_getElem? (i := 88) rfl)) (hw _ (List.mem_of_getElem? (i := 89) rfl)) (notFace_of_selects (args := #[]) (mvT hZ (hw _ (List.mem_of_getElem? (i := 91) rfl)))) (hw _ (List.mem_of_getElem? (i := 91) rfl)) (hw _ (List.mem_of_getElem? (i := 90) rfl)) (hw _ (List.mem_of_getElem? (i := 92) rfl)) (hw _ (List.mem_of_getElem? (i := 58) rfl)) (by decide) (b := we) (EE.ext f359.2) (W := 0) (rmPr l Z a0 hw we T355.heap n0 (Nat.le_trans Z0 K355.1) (FW.ext f359.2)) e362 (by decide) (by decide) (by decide) (by decide) (fun _ _ => trivial) (g := (mkF m 134 #[.val (.int kz), .val (.int xa), .val (.int xb), .val (.int xc), .val (.int (2 : Int32)), .val (.ref o295), .val (.ref o297), .val (.ref o299), .val (.ref b343), .val (.ref b355), .unset] [(.ref we)])) rfl (by rw [hml]; rfl) (argsL := []) (rest := []) (lenOf pd_17 rfl) rfl (by show 2 * 0 + _ ≤ _; exact Nat.le_of_eq rfl) (hb hby at_134) ?_
    intro v363 T363 L363 X363 hS hZ hown hV363 hQ363
    obtain ⟨rfl, Nq363, he363⟩ := hQ363
    have N363 := Fr.app N362 Nq363
    have e363 : T363.heap = T355.heap := he363
    show Run p e below s _ _ _ (T363.setTop (mkF m 137 #[.val (.int kz), .val (.int xa), .val (.int xb), .val (.int xc), .val (.int (2 : Int32)), .val (.ref o295), .val (.ref o297), .val (.ref o299), .val (.ref b343), .val (.ref b355), .unset] [(.int (0 : Int32))]))
    refine Run.pre (fun _ k => XS.ifYes X363.here hx rfl (pc0 := 137) (pc' := 142) rfl (hb hby at_137) rfl ((if0 _ _).trans (teq ((by decide) : (0 : Int32) = (0 : Int32))).1) (by decide) (by decide) k) ?_
    show Run p e below s _ _ _ (T363.setTop (mkF m 142 #[.val (.int kz), .val (.int xa), .val (.int xb), .val (.int xc), .val (.int (2 : Int32)), .val (.ref o295), .val (.ref o297), .val (.ref o299), .val (.ref b343), .val (.ref b355), .unset] []))
    refine Run.pre (fun _ k => XS.aload X363.here hx rfl (hb hby at_142) rfl rfl k) ?_
    show Run p e below s _ _ _ (T363.setTop (mkF m 144 #[.val (.int kz), .val (.int xa), .val (.int xb), .val (.int xc), .val (.int (2 : Int32)), .val (.ref o295), .val (.ref o297), .val (.ref o299), .val (.ref b343), .val (.ref b355), .unset] [(.ref b355)]))
    refine Run.callV hS (by first | exact Nat.le_refl _ | (rw [e363]; exact (Nat.le_of_eq (congrArg Array.size e363)))) X363 hx hZ (y := (⟨"com/example/portcullis/portcullis/http/GateDecision", "challenges", "()Ljava/util/List;"⟩ : MethodName)) (z := (⟨"com/example/portcullis/portcullis/http/GateDecision", "challenges", "()Ljava/util/List;"⟩ : MethodName)) hown (hw _ (List.mem_of_getElem? (i := 100) rfl)) (hw _ (List.mem_of_getElem? (i := 101) rfl)) (notFace_of_selects (args := #[]) (mvT hZ (hw _ (List.mem_of_getElem? (i := 103) rfl)))) (hw _ (List.mem_of_getElem? (i := 103) rfl)) (hw _ (List.mem_of_getElem? (i := 102) rfl)) (hw _ (List.mem_of_getElem? (i := 104) rfl)) (hw _ (List.mem_of_getElem? (i := 52) rfl)) (by decide) (b := b355) eg355 (W := 0) (rmget_challenges l Z a0 hw b355 b343 T355.heap n0 (Nat.le_trans Z0 K355.1) fg3_355) e363 (by decide) (by decide) (by decide) (by decide) (fun _ _ => trivial) (g := (mkF m 144 #[.val (.int kz), .val (.int xa), .val (.int xb), .val (.int xc), .val (.int (2 : Int32)), .val (.ref o295), .val (.ref o297), .val (.ref o299), .val (.ref b343), .val (.ref b355), .unset] [(.ref b355)])) rfl (by rw [hml]; rfl) (argsL := []) (rest := []) (lenOf pd_18 rfl) rfl (by show 2 * 0 + _ ≤ _; exact Nat.le_of_eq rfl) (hb hby at_144) ?_
    intro v364 T364 L364 X364 hS hZ hown hV364 hQ364
    obtain ⟨rfl, Nq364, he364⟩ := hQ364
    have N364 := Fr.app N363 Nq364
    have e364 : T364.heap = T355.heap := he364
    show Run p e below s _ _ _ (T364.setTop (mkF m 147 #[.val (.int kz), .val (.int xa), .val (.int xb), .val (.int xc), .val (.int (2 : Int32)), .val (.ref o295), .val (.ref o297), .val (.ref o299), .val (.ref b343), .val (.ref b355), .unset] [(.ref b343)]))
    refine Run.pre (fun _ k => XS.astore X364.here hx rfl (hb hby at_147) rfl rfl (l' := #[.val (.int kz), .val (.int xa), .val (.int xb), .val (.int xc), .val (.int (2 : Int32)), .val (.ref o295), .val (.ref o297), .val (.ref o299), .val (.ref b343), .val (.ref b355), .val (.ref b343)]) rfl k) ?_
    show Run p e below s _ _ _ (T364.setTop (mkF m 149 #[.val (.int kz), .val (.int xa), .val (.int xb), .val (.int xc), .val (.int (2 : Int32)), .val (.ref o295), .val (.ref o297), .val (.ref o299), .val (.ref b343), .val (.ref b355), .val (.ref b343)] []))
    refine Run.pre (fun _ k => XS.aload X364.here hx rfl (hb hby at_149) rfl rfl k) ?_
    show Run p e below s _ _ _ (T364.setTop (mkF m 151 #[.val (.int kz), .val (.int xa), .val (.int xb), .val (.int xc), .val (.int (2 : Int32)), .val (.ref o295), .val (.ref o297), .val (.ref o299), .val (.ref b343), .val (.ref b355), .val (.ref b343)] [(.ref b343)]))
    refine Run.pre (fun _ k => XS.ifnullNo X364.here hx rfl (hb hby at_151) rfl k) ?_
    show Run p e below s _ _ _ (T364.setTop (mkF m 154 #[.val (.int kz), .val (.int xa), .val (.int xb), .val (.int xc), .val (.int (2 : Int32)), .val (.ref o295), .val (.ref o297), .val (.ref o299), .val (.ref b343), .val (.ref b355), .val (.ref b343)] []))
    refine Run.pre (fun _ k => XS.aload X364.here hx rfl (hb hby at_154) rfl rfl k) ?_
    show Run p e below s _ _ _ (T364.setTop (mkF m 156 #[.val (.int kz), .val (.int xa), .val (.int xb), .val (.int xc), .val (.int (2 : Int32)), .val (.ref o295), .val (.ref o297), .val (.ref o299), .val (.ref b343), .val (.ref b355), .val (.ref b343)] [(.ref b343)]))
    have f365 := (fs353.keep Kc355 nin0)
    have f367 := ((f351.keep Kc353).keep Kc355)
    refine Run.callF hS (by first | exact Nat.le_refl _ | (rw [e364]; exact (Nat.le_of_eq (congrArg Array.size e364)))) X364 hx hZ (xi := (⟨"java/util/List", "size", "()I"⟩ : MethodName)) (y := (⟨"java/util/ArrayList", "size", "()I"⟩ : MethodName)) hown (hw _ (List.mem_of_getElem? (i := 105) rfl)) (hw _ (List.mem_of_getElem? (i := 106) rfl)) (mvT (s := s.setVm _) hZ (hw _ (List.mem_of_getElem? (i := 107) rfl))) (hw _ (List.mem_of_getElem? (i := 108) rfl)) (hw _ (List.mem_of_getElem? (i := 109) rfl)) (hw _ (List.mem_of_getElem? (i := 110) rfl)) (hw _ (List.mem_of_getElem? (i := 111) rfl)) (hw _ (List.mem_of_getElem? (i := 112) rfl)) (hw _ (List.mem_of_getElem? (i := 113) rfl)) (hw _ (List.mem_of_getElem? (i := 28) rfl)) (by decide) (b := b343) f367 (W := 0) (rmSz l Z a0 hw b343 (2 : Int32) T355.heap n0 (Nat.le_trans Z0 K355.1) f365) e364 (by decide) (by decide) (by decide) (by decide) (fun _ _ => trivial) (g := (mkF m 156 #[.val (.int kz), .val (.int xa), .val (.int xb), .val (.int xc), .val (.int (2 : Int32)), .val (.ref o295), .val (.ref o297), .val (.ref o299), .val (.ref b343), .val (.ref b355), .val (.ref b343)] [(.ref b343)])) rfl (by rw [hml]; rfl) (argsL := []) (rest := []) (lenOf pd_16 rfl) rfl (by show 2 * 0 + _ ≤ _; exact Nat.le_of_eq rfl) (hb hby at_156) ?_
    intro v366 T366 L366 X366 hS hZ hown hV366 hQ366
    obtain ⟨rfl, Nq366, he366⟩ := hQ366
    have N366 := Fr.app N364 Nq366
    have e366 : T366.heap = T355.heap := he366
    show Run p e below s _ _ _ (T366.setTop (mkF m 161 #[.val (.int kz), .val (.int xa), .val (.int xb), .val (.int xc), .val (.int (2 : Int32)), .val (.ref o295), .val (.ref o297), .val (.ref o299), .val (.ref b343), .val (.ref b355), .val (.ref b343)] [(.int (2 : Int32))]))
    refine Run.pre (fun _ k => XS.iload X366.here hx rfl (hb hby at_161) rfl  k) ?_
    show Run p e below s _ _ _ (T366.setTop (mkF m 163 #[.val (.int kz), .val (.int xa), .val (.int xb), .val (.int xc), .val (.int (2 : Int32)), .val (.ref o295), .val (.ref o297), .val (.ref o299), .val (.ref b343), .val (.ref b355), .val (.ref b343)] [(.int (2 : Int32)), (.int (2 : Int32))]))
    refine Run.pre (fun _ k => XS.icmpYes X366.here hx rfl (pc0 := 163) (pc' := 168) rfl (hb hby at_163) rfl (teq ((by decide) : (2 : Int32) = (2 : Int32))).1 (by decide) (by decide) k) ?_
    show Run p e below s _ _ _ (T366.setTop (mkF m 168 #[.val (.int kz), .val (.int xa), .val (.int xb), .val (.int xc), .val (.int (2 : Int32)), .val (.ref o295), .val (.ref o297), .val (.ref o299), .val (.ref b343), .val (.ref b355), .val (.ref b343)] []))
    refine Run.pre (fun _ k => XS.iload X366.here hx rfl (hb hby at_168) rfl  k) ?_
    show Run p e below s _ _ _ (T366.setTop (mkF m 170 #[.val (.int kz), .val (.int xa), .val (.int xb), .val (.int xc), .val (.int (2 : Int32)), .val (.ref o295), .val (.ref o297), .val (.ref o299), .val (.ref b343), .val (.ref b355), .val (.ref b343)] [(.int (2 : Int32))]))
    refine Run.pre (fun _ k => XS.ifNo X366.here hx rfl (hb hby at_170) rfl ((if0 _ _).trans (tlt ((by decide) : (0 : Int32) < (2 : Int32))).2.2.2) k) ?_
    show Run p e below s _ _ _ (T366.setTop (mkF m 173 #[.val (.int kz), .val (.int xa), .val (.int xb), .val (.int xc), .val (.int (2 : Int32)), .val (.ref o295), .val (.ref o297), .val (.ref o299), .val (.ref b343), .val (.ref b355), .val (.ref b343)] []))
    refine Run.pre (fun _ k => XS.aload X366.here hx rfl (hb hby at_173) rfl rfl k) ?_
    show Run p e below s _ _ _ (T366.setTop (mkF m 175 #[.val (.int kz), .val (.int xa), .val (.int xb), .val (.int xc), .val (.int (2 : Int32)), .val (.ref o295), .val (.ref o297), .val (.ref o299), .val (.ref b343), .val (.ref b355), .val (.ref b343)] [(.ref o295)]))
    refine Run.pre (fun _ k => XS.aload X366.here hx rfl (hb hby at_175) rfl rfl k) ?_
    show Run p e below s _ _ _ (T366.setTop (mkF m 177 #[.val (.int kz), .val (.int xa), .val (.int xb), .val (.int xc), .val (.int (2 : Int32)), .val (.ref o295), .val (.ref o297), .val (.ref o299), .val (.ref b343), .val (.ref b355), .val (.ref b343)] [(.ref b343), (.ref o295)]))
    refine Run.pre (fun _ k => XS.iconst X366.here hx rfl (hb hby at_177) k) ?_
    show Run p e below s _ _ _ (T366.setTop (mkF m 178 #[.val (.int kz), .val (.int xa), .val (.int xb), .val (.int xc), .val (.int (2 : Int32)), .val (.ref o295), .val (.ref o297), .val (.ref o299), .val (.ref b343), .val (.ref b355), .val (.ref b343)] [(.int (0 : Int32)), (.ref b343), (.ref o295)]))
    have f368 := (fe353.keep Kc355 nin0)
    have f369 := (vb353.keep Kc355 nin0)
    refine Run.callF hS (by first | exact Nat.le_refl _ | (rw [e366]; exact (Nat.le_of_eq (congrArg Array.size e366)))) X366 hx hZ (xi := (⟨"java/util/List", "get", "(I)Ljava/lang/Object;"⟩ : MethodName)) (y := (⟨"java/util/ArrayList", "get", "(I)Ljava/lang/Object;"⟩ : MethodName)) hown (hw _ (List.mem_of_getElem? (i := 145) rfl)) (hw _ (List.mem_of_getElem? (i := 146) rfl)) (mvT (s := s.setVm _) hZ (hw _ (List.mem_of_getElem? (i := 147) rfl))) (hw _ (List.mem_of_getElem? (i := 148) rfl)) (hw _ (List.mem_of_getElem? (i := 149) rfl)) (hw _ (List.mem_of_getElem? (i := 150) rfl)) (hw _ (List.mem_of_getElem? (i := 151) rfl)) (hw _ (List.mem_of_getElem? (i := 112) rfl)) (hw _ (List.mem_of_getElem? (i := 152) rfl)) (hw _ (List.mem_of_getElem? (i := 28) rfl)) (by decide) (b := b343) f367 (W := 1) (rmGt_02 l Z a0 hw b343 b349 k349 o295 o297 T355.heap n0 (Nat.le_trans Z0 K355.1) f367 f368 f369 f365) e366 (by decide) (by decide) (by decide) (by decide) (fun _ _ => trivial) (g := (mkF m 178 #[.val (.int kz), .val (.int xa), .val (.int xb), .val (.int xc), .val (.int (2 : Int32)), .val (.ref o295), .val (.ref o297), .val (.ref o299), .val (.ref b343), .val (.ref b355), .val (.ref b343)] [(.int (0 : Int32)), (.ref b343), (.ref o295)])) rfl (by rw [hml]; rfl) (argsL := [(.int (0 : Int32))]) (rest := [(.ref o295)]) (lenOf pd_11 rfl) rfl (by show 2 * 0 + _ ≤ _; exact Nat.le_of_eq rfl) (hb hby at_178) ?_
    intro v370 T370 L370 X370 hS hZ hown hV370 hQ370
    obtain ⟨rfl, Nq370, he370⟩ := hQ370
    have N370 := Fr.app N366 Nq370
    have e370 : T370.heap = T355.heap := he370
    show Run p e below s _ _ _ (T370.setTop (mkF m 183 #[.val (.int kz), .val (.int xa), .val (.int xb), .val (.int xc), .val (.int (2 : Int32)), .val (.ref o295), .val (.ref o297), .val (.ref o299), .val (.ref b343), .val (.ref b355), .val (.ref b343)] [(.ref o295), (.ref o295)]))
    have f372 := (((f348.keep Kc349).keep Kc353).keep Kc355)
    refine Run.callV hS (by first | exact Nat.le_refl _ | (rw [e370]; exact (Nat.le_of_eq (congrArg Array.size e370)))) X370 hx hZ (y := (⟨"java/lang/String", "equals", "(Ljava/lang/Object;)Z"⟩ : MethodName)) (z := (⟨"java/lang/String", "equals", "(Ljava/lang/Object;)Z"⟩ : MethodName)) hown (hw _ (List.mem_of_getElem? (i := 166) rfl)) (hw _ (List.mem_of_getElem? (i := 167) rfl)) (notFace_of_selects (args := #[]) (mvT hZ (hw _ (List.mem_of_getElem? (i := 169) rfl)))) (hw _ (List.mem_of_getElem? (i := 169) rfl)) (hw _ (List.mem_of_getElem? (i := 168) rfl)) (hw _ (List.mem_of_getElem? (i := 170) rfl)) (hw _ (List.mem_of_getElem? (i := 6) rfl)) (by decide) (b := o295) f372 (W := 0) (rmEq l Z a0 hw o295 T355.heap n0 (Nat.le_trans Z0 K355.1)) e370 (by decide) (by decide) (by decide) (by decide) (fun _ _ => trivial) (g := (mkF m 183 #[.val (.int kz), .val (.int xa), .val (.int xb), .val (.int xc), .val (.int (2 : Int32)), .val (.ref o295), .val (.ref o297), .val (.ref o299), .val (.ref b343), .val (.ref b355), .val (.ref b343)] [(.ref o295), (.ref o295)])) rfl (by rw [hml]; rfl) (argsL := [(.ref o295)]) (rest := []) (lenOf pd_19 rfl) rfl (by show 2 * 0 + _ ≤ _; exact Nat.le_of_eq rfl) (hb hby at_183) ?_
    intro v371 T371 L371 X371 hS hZ hown hV371 hQ371
    obtain ⟨rfl, Nq371, he371⟩ := hQ371
    have N371 := Fr.app N370 Nq371
    have e371 : T371.heap = T355.heap := he371
    show Run p e below s _ _ _ (T371.setTop (mkF m 186 #[.val (.int kz), .val (.int xa), .val (.int xb), .val (.int xc), .val (.int (2 : Int32)), .val (.ref o295), .val (.ref o297), .val (.ref o299), .val (.ref b343), .val (.ref b355), .val (.ref b343)] [(.int (1 : Int32))]))
    refine Run.pre (fun _ k => XS.ifYes X371.here hx rfl (pc0 := 186) (pc' := 191) rfl (hb hby at_186) rfl ((if0 _ _).trans (feq ((by decide) : ¬ ((1 : Int32) = (0 : Int32)))).2) (by decide) (by decide) k) ?_
    show Run p e below s _ _ _ (T371.setTop (mkF m 191 #[.val (.int kz), .val (.int xa), .val (.int xb), .val (.int xc), .val (.int (2 : Int32)), .val (.ref o295), .val (.ref o297), .val (.ref o299), .val (.ref b343), .val (.ref b355), .val (.ref b343)] []))
    refine Run.pre (fun _ k => XS.iload X371.here hx rfl (hb hby at_191) rfl  k) ?_
    show Run p e below s _ _ _ (T371.setTop (mkF m 193 #[.val (.int kz), .val (.int xa), .val (.int xb), .val (.int xc), .val (.int (2 : Int32)), .val (.ref o295), .val (.ref o297), .val (.ref o299), .val (.ref b343), .val (.ref b355), .val (.ref b343)] [(.int (2 : Int32))]))
    refine Run.pre (fun _ k => XS.iconst X371.here hx rfl (hb hby at_193) k) ?_
    show Run p e below s _ _ _ (T371.setTop (mkF m 194 #[.val (.int kz), .val (.int xa), .val (.int xb), .val (.int xc), .val (.int (2 : Int32)), .val (.ref o295), .val (.ref o297), .val (.ref o299), .val (.ref b343), .val (.ref b355), .val (.ref b343)] [(.int (1 : Int32)), (.int (2 : Int32))]))
    refine Run.pre (fun _ k => XS.icmpNo X371.here hx rfl (hb hby at_194) rfl (tlt ((by decide) : (1 : Int32) < (2 : Int32))).2.2.2 k) ?_
    show Run p e below s _ _ _ (T371.setTop (mkF m 197 #[.val (.int kz), .val (.int xa), .val (.int xb), .val (.int xc), .val (.int (2 : Int32)), .val (.ref o295), .val (.ref o297), .val (.ref o299), .val (.ref b343), .val (.ref b355), .val (.ref b343)] []))
    refine Run.pre (fun _ k => XS.aload X371.here hx rfl (hb hby at_197) rfl rfl k) ?_
    show Run p e below s _ _ _ (T371.setTop (mkF m 199 #[.val (.int kz), .val (.int xa), .val (.int xb), .val (.int xc), .val (.int (2 : Int32)), .val (.ref o295), .val (.ref o297), .val (.ref o299), .val (.ref b343), .val (.ref b355), .val (.ref b343)] [(.ref o297)]))
    refine Run.pre (fun _ k => XS.aload X371.here hx rfl (hb hby at_199) rfl rfl k) ?_
    show Run p e below s _ _ _ (T371.setTop (mkF m 201 #[.val (.int kz), .val (.int xa), .val (.int xb), .val (.int xc), .val (.int (2 : Int32)), .val (.ref o295), .val (.ref o297), .val (.ref o299), .val (.ref b343), .val (.ref b355), .val (.ref b343)] [(.ref b343), (.ref o297)]))
    refine Run.pre (fun _ k => XS.iconst X371.here hx rfl (hb hby at_201) k) ?_
    show Run p e below s _ _ _ (T371.setTop (mkF m 202 #[.val (.int kz), .val (.int xa), .val (.int xb), .val (.int xc), .val (.int (2 : Int32)), .val (.ref o295), .val (.ref o297), .val (.ref o299), .val (.ref b343), .val (.ref b355), .val (.ref b343)] [(.int (1 : Int32)), (.ref b343), (.ref o297)]))
    refine Run.callF hS (by first | exact Nat.le_refl _ | (rw [e371]; exact (Nat.le_of_eq (congrArg Array.size e371)))) X371 hx hZ (xi := (⟨"java/util/List", "get", "(I)Ljava/lang/Object;"⟩ : MethodName)) (y := (⟨"java/util/ArrayList", "get", "(I)Ljava/lang/Object;"⟩ : MethodName)) hown (hw _ (List.mem_of_getElem? (i := 145) rfl)) (hw _ (List.mem_of_getElem? (i := 146) rfl)) (mvT (s := s.setVm _) hZ (hw _ (List.mem_of_getElem? (i := 147) rfl))) (hw _ (List.mem_of_getElem? (i := 148) rfl)) (hw _ (List.mem_of_getElem? (i := 149) rfl)) (hw _ (List.mem_of_getElem? (i := 150) rfl)) (hw _ (List.mem_of_getElem? (i := 151) rfl)) (hw _ (List.mem_of_getElem? (i := 112) rfl)) (hw _ (List.mem_of_getElem? (i := 152) rfl)) (hw _ (List.mem_of_getElem? (i := 28) rfl)) (by decide) (b := b343) f367 (W := 1) (rmGt_12 l Z a0 hw b343 b349 k349 o295 o297 T355.heap n0 (Nat.le_trans Z0 K355.1) f367 f368 f369 f365) e371 (by decide) (by decide) (by decide) (by decide) (fun _ _ => trivial) (g := (mkF m 202 #[.val (.int kz), .val (.int xa), .val (.int xb), .val (.int xc), .val (.int (2 : Int32)), .val (.ref o295), .val (.ref o297), .val (.ref o299), .val (.ref b343), .val (.ref b355), .val (.ref b343)] [(.int (1 : Int32)), (.ref b343), (.ref o297)])) rfl (by rw [hml]; rfl) (argsL := [(.int (1 : Int32))]) (rest := [(.ref o297)]) (lenOf pd_11 rfl) rfl (by show 2 * 0 + _ ≤ _; exact Nat.le_of_eq rfl) (hb hby at_202) ?_
    intro v373 T373 L373 X373 hS hZ hown hV373 hQ373
    obtain ⟨rfl, Nq373, he373⟩ := hQ373
    have N373 := Fr.app N371 Nq373
    have e373 : T373.heap = T355.heap := he373
    show Run p e below s _ _ _ (T373.setTop (mkF m 207 #[.val (.int kz), .val (.int xa), .val (.int xb), .val (.int xc), .val (.int (2 : Int32)), .val (.ref o295), .val (.ref o297), .val (.ref o299), .val (.ref b343), .val (.ref b355), .val (.ref b343)] [(.ref o297), (.ref o297)]))
    have f375 := ((f352.keep Kc353).keep Kc355)
    refine Run.callV hS (by first | exact Nat.le_refl _ | (rw [e373]; exact (Nat.le_of_eq (congrArg Array.size e373)))) X373 hx hZ (y := (⟨"java/lang/String", "equals", "(Ljava/lang/Object;)Z"⟩ : MethodName)) (z := (⟨"java/lang/String", "equals", "(Ljava/lang/Object;)Z"⟩ : MethodName)) hown (hw _ (List.mem_of_getElem? (i := 166) rfl)) (hw _ (List.mem_of_getElem? (i := 167) rfl)) (notFace_of_selects (args := #[]) (mvT hZ (hw _ (List.mem_of_getElem? (i := 169) rfl)))) (hw _ (List.mem_of_getElem? (i := 169) rfl)) (hw _ (List.mem_of_getElem? (i := 168) rfl)) (hw _ (List.mem_of_getElem? (i := 170) rfl)) (hw _ (List.mem_of_getElem? (i := 6) rfl)) (by decide) (b := o297) f375 (W := 0) (rmEq l Z a0 hw o297 T355.heap n0 (Nat.le_trans Z0 K355.1)) e373 (by decide) (by decide) (by decide) (by decide) (fun _ _ => trivial) (g := (mkF m 207 #[.val (.int kz), .val (.int xa), .val (.int xb), .val (.int xc), .val (.int (2 : Int32)), .val (.ref o295), .val (.ref o297), .val (.ref o299), .val (.ref b343), .val (.ref b355), .val (.ref b343)] [(.ref o297), (.ref o297)])) rfl (by rw [hml]; rfl) (argsL := [(.ref o297)]) (rest := []) (lenOf pd_19 rfl) rfl (by show 2 * 0 + _ ≤ _; exact Nat.le_of_eq rfl) (hb hby at_207) ?_
    intro v374 T374 L374 X374 hS hZ hown hV374 hQ374
    obtain ⟨rfl, Nq374, he374⟩ := hQ374
    have N374 := Fr.app N373 Nq374
    have e374 : T374.heap = T355.heap := he374
    show Run p e below s _ _ _ (T374.setTop (mkF m 210 #[.val (.int kz), .val (.int xa), .val (.int xb), .val (.int xc), .val (.int (2 : Int32)), .val (.ref o295), .val (.ref o297), .val (.ref o299), .val (.ref b343), .val (.ref b355), .val (.ref b343)] [(.int (1 : Int32))]))
    refine Run.pre (fun _ k => XS.ifYes X374.here hx rfl (pc0 := 210) (pc' := 215) rfl (hb hby at_210) rfl ((if0 _ _).trans (feq ((by decide) : ¬ ((1 : Int32) = (0 : Int32)))).2) (by decide) (by decide) k) ?_
    show Run p e below s _ _ _ (T374.setTop (mkF m 215 #[.val (.int kz), .val (.int xa), .val (.int xb), .val (.int xc), .val (.int (2 : Int32)), .val (.ref o295), .val (.ref o297), .val (.ref o299), .val (.ref b343), .val (.ref b355), .val (.ref b343)] []))
    refine Run.pre (fun _ k => XS.iload X374.here hx rfl (hb hby at_215) rfl  k) ?_
    show Run p e below s _ _ _ (T374.setTop (mkF m 217 #[.val (.int kz), .val (.int xa), .val (.int xb), .val (.int xc), .val (.int (2 : Int32)), .val (.ref o295), .val (.ref o297), .val (.ref o299), .val (.ref b343), .val (.ref b355), .val (.ref b343)] [(.int (2 : Int32))]))
    refine Run.pre (fun _ k => XS.iconst X374.here hx rfl (hb hby at_217) k) ?_
    show Run p e below s _ _ _ (T374.setTop (mkF m 218 #[.val (.int kz), .val (.int xa), .val (.int xb), .val (.int xc), .val (.int (2 : Int32)), .val (.ref o295), .val (.ref o297), .val (.ref o299), .val (.ref b343), .val (.ref b355), .val (.ref b343)] [(.int (2 : Int32)), (.int (2 : Int32))]))
    refine Run.pre (fun _ k => XS.icmpYes X374.here hx rfl (pc0 := 218) (pc' := 239) rfl (hb hby at_218) rfl (flt ((by decide) : ¬ ((2 : Int32) < (2 : Int32)))).2.2.2 (by decide) (by decide) k) ?_
    show Run p e below s _ _ _ (T374.setTop (mkF m 239 #[.val (.int kz), .val (.int xa), .val (.int xb), .val (.int xc), .val (.int (2 : Int32)), .val (.ref o295), .val (.ref o297), .val (.ref o299), .val (.ref b343), .val (.ref b355), .val (.ref b343)] []))
    refine Run.pre (fun _ k => XS.iconst X374.here hx rfl (hb hby at_239) k) ?_
    show Run p e below s _ _ _ (T374.setTop (mkF m 240 #[.val (.int kz), .val (.int xa), .val (.int xb), .val (.int xc), .val (.int (2 : Int32)), .val (.ref o295), .val (.ref o297), .val (.ref o299), .val (.ref b343), .val (.ref b355), .val (.ref b343)] [(.int (1 : Int32))]))
    exact Run.retN hS (by first | exact Nat.le_refl _ | (rw [e374]; exact (Nat.le_of_eq (congrArg Array.size e374)))) X374 hx hret (t := .boolean) (by simp) hlk (hb hby at_240) (by first | (rw [e374]; exact ⟨rfl, N374⟩) | exact ⟨rfl, N374⟩) (by decide) (by decide)
  · rw [hn]
    show Run p e below s _ _ _ (T299.setTop (mkF m 23 #[.val (.int kz), .val (.int xa), .val (.int xb), .val (.int xc), .val (.int (3 : Int32)), .val (.ref o295), .val (.ref o297), .val (.ref o299), .unset, .unset, .unset] []))
    obtain ⟨T376, h376, X376, e376, E376, A376, D376, -, st376⟩ := newO X299 hx hZ hown (hw _ (List.mem_of_getElem? (i := 26) rfl)) (hw _ (List.mem_of_getElem? (i := 27) rfl)) (hw _ (List.mem_of_getElem? (i := 28) rfl)) rfl (g := (mkF m 23 #[.val (.int kz), .val (.int xa), .val (.int xb), .val (.int xc), .val (.int (3 : Int32)), .val (.ref o295), .val (.ref o297), .val (.ref o299), .unset, .unset, .unset] [])) rfl (hb hby at_23) (by decide) (by decide)
    obtain ⟨b376, g376⟩ : ∃ z, z = T299.heap.size := ⟨_, rfl⟩
    rw [← g376] at A376 D376 st376
    refine Run.pre st376 ?_
    have gn_b376 : n0 ≤ b376 := Nat.le_trans (Nat.le_trans Z0 K299.1) (Nat.le_of_eq g376.symm)
    have sz_b376 : h0.size ≤ b376 := Nat.le_trans K299.1 (Nat.le_of_eq g376.symm)
    have K376 : Keep h0 h376 [] := K299.ext E376
    have F_modCount_b376 : Fld Z h376 b376 "java/util/AbstractList" "modCount" "I" (.int (0 : Int32)) := D376 (Or.inl (hw _ (List.mem_of_getElem? (i := 46) rfl))) (ty := .int) (by decide)
    have F_elementData_b376 : Fld Z h376 b376 "java/util/ArrayList" "elementData" "[Ljava/lang/Object;" .null := D376 (Or.inl (hw _ (List.mem_of_getElem? (i := 49) rfl))) (ty := (.array (.object "java/lang/Object"))) (by decide)
    have F_size_b376 : Fld Z h376 b376 "java/util/ArrayList" "size" "I" (.int (0 : Int32)) := D376 (Or.inl (hw _ (List.mem_of_getElem? (i := 115) rfl))) (ty := .int) (by decide)
    show Run p e below s _ _ _ (T376.setTop (mkF m 26 #[.val (.int kz), .val (.int xa), .val (.int xb), .val (.int xc), .val (.int (3 : Int32)), .val (.ref o295), .val (.ref o297), .val (.ref o299), .unset, .unset, .unset] [(.ref b376)]))
    refine Run.pre (fun _ k => XS.dup X376.here hx rfl (hb hby at_26) rfl rfl k) ?_
    show Run p e below s _ _ _ (T376.setTop (mkF m 27 #[.val (.int kz), .val (.int xa), .val (.int xb), .val (.int xc), .val (.int (3 : Int32)), .val (.ref o295), .val (.ref o297), .val (.ref o299), .unset, .unset, .unset] [(.ref b376), (.ref b376)]))
    have f377 := ((f298.keep Kc299 all0).ext E376)
    refine Run.callI hS (by first | exact Nat.le_refl _ | (rw [e376]; exact (Nat.le_trans (Nat.le_refl _) E376.1))) X376 hx hZ (y := (⟨"java/util/ArrayList", "<init>", "()V"⟩ : MethodName)) rfl hown (hw _ (List.mem_of_getElem? (i := 29) rfl)) (hw _ (List.mem_of_getElem? (i := 30) rfl)) (hw _ (List.mem_of_getElem? (i := 31) rfl)) (hw _ (List.mem_of_getElem? (i := 28) rfl)) (by decide) (a := b376) (W := 1) (rmInit l Z a0 hw b376 dd kd h376 n0 (Nat.le_trans Z0 K376.1) f377 SD AD A376 F_modCount_b376 F_elementData_b376 F_size_b376 gn_b376) e376 (by decide) (by decide) (by decide) (by decide) (fun _ _ => trivial) (g := (mkF m 27 #[.val (.int kz), .val (.int xa), .val (.int xb), .val (.int xc), .val (.int (3 : Int32)), .val (.ref o295), .val (.ref o297), .val (.ref o299), .unset, .unset, .unset] [(.ref b376), (.ref b376)])) rfl (by rw [hml]; rfl) (argsL := []) (rest := [(.ref b376)]) (lenOf pd_5 rfl) rfl (by show 2 * 0 + _ ≤ _; exact Nat.le_of_eq rfl) (hb hby at_27) ?_
    intro v378 T378 L378 X378 hS hZ hown hV378 hQ378
    obtain ⟨rfl, Nq378, Kc378, fm378, fe378, fs378⟩ := hQ378
    have N378 := Fr.app N299 Nq378
    have K378 : Keep h0 T378.heap [] := K376.trans Kc378 (allS (Or.inr sz_b376) all0)
    show Run p e below s _ _ _ (T378.setTop (mkF m 30 #[.val (.int kz), .val (.int xa), .val (.int xb), .val (.int xc), .val (.int (3 : Int32)), .val (.ref o295), .val (.ref o297), .val (.ref o299), .unset, .unset, .unset] [(.ref b376)]))
    refine Run.pre (fun _ k => XS.astore X378.here hx rfl (hb hby at_30) rfl rfl (l' := #[.val (.int kz), .val (.int xa), .val (.int xb), .val (.int xc), .val (.int (3 : Int32)), .val (.ref o295), .val (.ref o297), .val (.ref o299), .val (.ref b376), .unset, .unset]) rfl k) ?_
    show Run p e below s _ _ _ (T378.setTop (mkF m 32 #[.val (.int kz), .val (.int xa), .val (.int xb), .val (.int xc), .val (.int (3 : Int32)), .val (.ref o295), .val (.ref o297), .val (.ref o299), .val (.ref b376), .unset, .unset] []))
    refine Run.pre (fun _ k => XS.iload X378.here hx rfl (hb hby at_32) rfl  k) ?_
    show Run p e below s _ _ _ (T378.setTop (mkF m 34 #[.val (.int kz), .val (.int xa), .val (.int xb), .val (.int xc), .val (.int (3 : Int32)), .val (.ref o295), .val (.ref o297), .val (.ref o299), .val (.ref b376), .unset, .unset] [(.int (3 : Int32))]))
    refine Run.pre (fun _ k => XS.ifNo X378.here hx rfl (hb hby at_34) rfl ((if0 _ _).trans (tlt ((by decide) : (0 : Int32) < (3 : Int32))).2.2.2) k) ?_
    show Run p e below s _ _ _ (T378.setTop (mkF m 37 #[.val (.int kz), .val (.int xa), .val (.int xb), .val (.int xc), .val (.int (3 : Int32)), .val (.ref o295), .val (.ref o297), .val (.ref o299), .val (.ref b376), .unset, .unset] []))
    refine Run.pre (fun _ k => XS.aload X378.here hx rfl (hb hby at_37) rfl rfl k) ?_
    show Run p e below s _ _ _ (T378.setTop (mkF m 39 #[.val (.int kz), .val (.int xa), .val (.int xb), .val (.int xc), .val (.int (3 : Int32)), .val (.ref o295), .val (.ref o297), .val (.ref o299), .val (.ref b376), .unset, .unset] [(.ref b376)]))
    refine Run.pre (fun _ k => XS.aload X378.here hx rfl (hb hby at_39) rfl rfl k) ?_
    show Run p e below s _ _ _ (T378.setTop (mkF m 41 #[.val (.int kz), .val (.int xa), .val (.int xb), .val (.int xc), .val (.int (3 : Int32)), .val (.ref o295), .val (.ref o297), .val (.ref o299), .val (.ref b376), .unset, .unset] [(.ref o295), (.ref b376)]))
    have f379 := (f377.keep Kc378 (allS gn_b376 all0))
    have f380 := (A376.keep Kc378)
    have f381 := ((((eo295.keep Kc297).keep Kc299).ext E376).keep Kc378)
    refine Run.callV hS (Nat.le_refl _) X378 hx hZ (y := (⟨"java/util/ArrayList", "add", "(Ljava/lang/Object;)Z"⟩ : MethodName)) (z := (⟨"java/util/ArrayList", "add", "(Ljava/lang/Object;)Z"⟩ : MethodName)) hown (hw _ (List.mem_of_getElem? (i := 116) rfl)) (hw _ (List.mem_of_getElem? (i := 117) rfl)) (notFace_of_selects (args := #[]) (mvT hZ (hw _ (List.mem_of_getElem? (i := 119) rfl)))) (hw _ (List.mem_of_getElem? (i := 119) rfl)) (hw _ (List.mem_of_getElem? (i := 118) rfl)) (hw _ (List.mem_of_getElem? (i := 120) rfl)) (hw _ (List.mem_of_getElem? (i := 28) rfl)) (by decide) (b := b376) f380 (W := 0) (rmA1_0 l Z a0 hw b376 dd kd o295 T378.heap n0 (Nat.le_trans Z0 K378.1) f379 SD AD f380 fm378 fe378 fs378 gn_b376 f381) rfl (by decide) (by decide) (by decide) (by decide) (fun _ _ => trivial) (g := (mkF m 41 #[.val (.int kz), .val (.int xa), .val (.int xb), .val (.int xc), .val (.int (3 : Int32)), .val (.ref o295), .val (.ref o297), .val (.ref o299), .val (.ref b376), .unset, .unset] [(.ref o295), (.ref b376)])) rfl (by rw [hml]; rfl) (argsL := [(.ref o295)]) (rest := []) (lenOf pd_19 rfl) rfl (by show 2 * 0 + _ ≤ _; exact Nat.le_of_eq rfl) (hb hby at_41) ?_
    intro v382 T382 L382 X382 hS hZ hown hV382 hQ382
    obtain ⟨b382, k382, rfl, Nq382, Kc382, sz382, vb382, ov382, fm382, fe382, fs382⟩ := hQ382
    have N382 := Fr.app N378 Nq382
    have K382 : Keep h0 T382.heap [] := K378.trans Kc382 (allS (Or.inr sz_b376) all0)
    have sz_b382 : h0.size ≤ b382 := Nat.le_trans K378.1 sz382
    have gn_b382 : n0 ≤ b382 := Nat.le_trans Z0 sz_b382
    show Run p e below s _ _ _ (T382.setTop (mkF m 44 #[.val (.int kz), .val (.int xa), .val (.int xb), .val (.int xc), .val (.int (3 : Int32)), .val (.ref o295), .val (.ref o297), .val (.ref o299), .val (.ref b376), .unset, .unset] [(.int (1 : Int32))]))
    refine Run.pre (fun _ k => XS.pop X382.here hx rfl (hb hby at_44) rfl rfl k) ?_
    show Run p e below s _ _ _ (T382.setTop (mkF m 45 #[.val (.int kz), .val (.int xa), .val (.int xb), .val (.int xc), .val (.int (3 : Int32)), .val (.ref o295), .val (.ref o297), .val (.ref o299), .val (.ref b376), .unset, .unset] []))
    refine Run.pre (fun _ k => XS.iload X382.here hx rfl (hb hby at_45) rfl  k) ?_
    show Run p e below s _ _ _ (T382.setTop (mkF m 47 #[.val (.int kz), .val (.int xa), .val (.int xb), .val (.int xc), .val (.int (3 : Int32)), .val (.ref o295), .val (.ref o297), .val (.ref o299), .val (.ref b376), .unset, .unset] [(.int (3 : Int32))]))
    refine Run.pre (fun _ k => XS.iconst X382.here hx rfl (hb hby at_47) k) ?_
    show Run p e below s _ _ _ (T382.setTop (mkF m 48 #[.val (.int kz), .val (.int xa), .val (.int xb), .val (.int xc), .val (.int (3 : Int32)), .val (.ref o295), .val (.ref o297), .val (.ref o299), .val (.ref b376), .unset, .unset] [(.int (1 : Int32)), (.int (3 : Int32))]))
    refine Run.pre (fun _ k => XS.icmpNo X382.here hx rfl (hb hby at_48) rfl (tlt ((by decide) : (1 : Int32) < (3 : Int32))).2.2.2 k) ?_
    show Run p e below s _ _ _ (T382.setTop (mkF m 51 #[.val (.int kz), .val (.int xa), .val (.int xb), .val (.int xc), .val (.int (3 : Int32)), .val (.ref o295), .val (.ref o297), .val (.ref o299), .val (.ref b376), .unset, .unset] []))
    refine Run.pre (fun _ k => XS.aload X382.here hx rfl (hb hby at_51) rfl rfl k) ?_
    show Run p e below s _ _ _ (T382.setTop (mkF m 53 #[.val (.int kz), .val (.int xa), .val (.int xb), .val (.int xc), .val (.int (3 : Int32)), .val (.ref o295), .val (.ref o297), .val (.ref o299), .val (.ref b376), .unset, .unset] [(.ref b376)]))
    refine Run.pre (fun _ k => XS.aload X382.here hx rfl (hb hby at_53) rfl rfl k) ?_
    show Run p e below s _ _ _ (T382.setTop (mkF m 55 #[.val (.int kz), .val (.int xa), .val (.int xb), .val (.int xc), .val (.int (3 : Int32)), .val (.ref o295), .val (.ref o297), .val (.ref o299), .val (.ref b376), .unset, .unset] [(.ref o297), (.ref b376)]))
    have f383 := (f379.keep Kc382 (allS gn_b376 all0))
    have f384 := (f380.keep Kc382)
    have f385 := ((((eo297.keep Kc299).ext E376).keep Kc378).keep Kc382)
    refine Run.callV hS (Nat.le_refl _) X382 hx hZ (y := (⟨"java/util/ArrayList", "add", "(Ljava/lang/Object;)Z"⟩ : MethodName)) (z := (⟨"java/util/ArrayList", "add", "(Ljava/lang/Object;)Z"⟩ : MethodName)) hown (hw _ (List.mem_of_getElem? (i := 116) rfl)) (hw _ (List.mem_of_getElem? (i := 117) rfl)) (notFace_of_selects (args := #[]) (mvT hZ (hw _ (List.mem_of_getElem? (i := 119) rfl)))) (hw _ (List.mem_of_getElem? (i := 119) rfl)) (hw _ (List.mem_of_getElem? (i := 118) rfl)) (hw _ (List.mem_of_getElem? (i := 120) rfl)) (hw _ (List.mem_of_getElem? (i := 28) rfl)) (by decide) (b := b376) f384 (W := 0) (rmA1_1 l Z a0 hw b376 b382 k382 o295 o297 T382.heap n0 (Nat.le_trans Z0 K382.1) f383 vb382 ov382 gn_b382 (Ne.symm (Nat.ne_of_lt (Nat.lt_of_lt_of_le fm378.lt sz382))) f384 fm382 fe382 fs382 gn_b376 f385) rfl (by decide) (by decide) (by decide) (by decide) (fun _ _ => trivial) (g := (mkF m 55 #[.val (.int kz), .val (.int xa), .val (.int xb), .val (.int xc), .val (.int (3 : Int32)), .val (.ref o295), .val (.ref o297), .val (.ref o299), .val (.ref b376), .unset, .unset] [(.ref o297), (.ref b376)])) rfl (by rw [hml]; rfl) (argsL := [(.ref o297)]) (rest := []) (lenOf pd_19 rfl) rfl (by show 2 * 0 + _ ≤ _; exact Nat.le_of_eq rfl) (hb hby at_55) ?_
    intro v386 T386 L386 X386 hS hZ hown hV386 hQ386
    obtain ⟨rfl, Nq386, Kc386, vb386, fm386, fe386, fs386⟩ := hQ386
    have N386 := Fr.app N382 Nq386
    have K386 : Keep h0 T386.heap [] := K382.trans Kc386 (allS (Or.inr sz_b376) (allS (Or.inr sz_b382) all0))
    show Run p e below s _ _ _ (T386.setTop (mkF m 58 #[.val (.int kz), .val (.int xa), .val (.int xb), .val (.int xc), .val (.int (3 : Int32)), .val (.ref o295), .val (.ref o297), .val (.ref o299), .val (.ref b376), .unset, .unset] [(.int (1 : Int32))]))
    refine Run.pre (fun _ k => XS.pop X386.here hx rfl (hb hby at_58) rfl rfl k) ?_
    show Run p e below s _ _ _ (T386.setTop (mkF m 59 #[.val (.int kz), .val (.int xa), .val (.int xb), .val (.int xc), .val (.int (3 : Int32)), .val (.ref o295), .val (.ref o297), .val (.ref o299), .val (.ref b376), .unset, .unset] []))
    refine Run.pre (fun _ k => XS.iload X386.here hx rfl (hb hby at_59) rfl  k) ?_
    show Run p e below s _ _ _ (T386.setTop (mkF m 61 #[.val (.int kz), .val (.int xa), .val (.int xb), .val (.int xc), .val (.int (3 : Int32)), .val (.ref o295), .val (.ref o297), .val (.ref o299), .val (.ref b376), .unset, .unset] [(.int (3 : Int32))]))
    refine Run.pre (fun _ k => XS.iconst X386.here hx rfl (hb hby at_61) k) ?_
    show Run p e below s _ _ _ (T386.setTop (mkF m 62 #[.val (.int kz), .val (.int xa), .val (.int xb), .val (.int xc), .val (.int (3 : Int32)), .val (.ref o295), .val (.ref o297), .val (.ref o299), .val (.ref b376), .unset, .unset] [(.int (2 : Int32)), (.int (3 : Int32))]))
    refine Run.pre (fun _ k => XS.icmpNo X386.here hx rfl (hb hby at_62) rfl (tlt ((by decide) : (2 : Int32) < (3 : Int32))).2.2.2 k) ?_
    show Run p e below s _ _ _ (T386.setTop (mkF m 65 #[.val (.int kz), .val (.int xa), .val (.int xb), .val (.int xc), .val (.int (3 : Int32)), .val (.ref o295), .val (.ref o297), .val (.ref o299), .val (.ref b376), .unset, .unset] []))
    refine Run.pre (fun _ k => XS.aload X386.here hx rfl (hb hby at_65) rfl rfl k) ?_
    show Run p e below s _ _ _ (T386.setTop (mkF m 67 #[.val (.int kz), .val (.int xa), .val (.int xb), .val (.int xc), .val (.int (3 : Int32)), .val (.ref o295), .val (.ref o297), .val (.ref o299), .val (.ref b376), .unset, .unset] [(.ref b376)]))
    refine Run.pre (fun _ k => XS.aload X386.here hx rfl (hb hby at_67) rfl rfl k) ?_
    show Run p e below s _ _ _ (T386.setTop (mkF m 69 #[.val (.int kz), .val (.int xa), .val (.int xb), .val (.int xc), .val (.int (3 : Int32)), .val (.ref o295), .val (.ref o297), .val (.ref o299), .val (.ref b376), .unset, .unset] [(.ref o299), (.ref b376)]))
    have f387 := (f383.keep Kc386 (allS gn_b376 (allS gn_b382 all0)))
    have f388 := (f384.keep Kc386)
    have f389 := ((((eo299.ext E376).keep Kc378).keep Kc382).keep Kc386)
    refine Run.callV hS (Nat.le_refl _) X386 hx hZ (y := (⟨"java/util/ArrayList", "add", "(Ljava/lang/Object;)Z"⟩ : MethodName)) (z := (⟨"java/util/ArrayList", "add", "(Ljava/lang/Object;)Z"⟩ : MethodName)) hown (hw _ (List.mem_of_getElem? (i := 116) rfl)) (hw _ (List.mem_of_getElem? (i := 117) rfl)) (notFace_of_selects (args := #[]) (mvT hZ (hw _ (List.mem_of_getElem? (i := 119) rfl)))) (hw _ (List.mem_of_getElem? (i := 119) rfl)) (hw _ (List.mem_of_getElem? (i := 118) rfl)) (hw _ (List.mem_of_getElem? (i := 120) rfl)) (hw _ (List.mem_of_getElem? (i := 28) rfl)) (by decide) (b := b376) f388 (W := 0) (rmA1_2 l Z a0 hw b376 b382 k382 o295 o297 o299 T386.heap n0 (Nat.le_trans Z0 K386.1) f387 vb386 ov382 gn_b382 (Ne.symm (Nat.ne_of_lt (Nat.lt_of_lt_of_le fm378.lt sz382))) f388 fm386 fe386 fs386 gn_b376 f389) rfl (by decide) (by decide) (by decide) (by decide) (fun _ _ => trivial) (g := (mkF m 69 #[.val (.int kz), .val (.int xa), .val (.int xb), .val (.int xc), .val (.int (3 : Int32)), .val (.ref o295), .val (.ref o297), .val (.ref o299), .val (.ref b376), .unset, .unset] [(.ref o299), (.ref b376)])) rfl (by rw [hml]; rfl) (argsL := [(.ref o299)]) (rest := []) (lenOf pd_19 rfl) rfl (by show 2 * 0 + _ ≤ _; exact Nat.le_of_eq rfl) (hb hby at_69) ?_
    intro v390 T390 L390 X390 hS hZ hown hV390 hQ390
    obtain ⟨rfl, Nq390, Kc390, vb390, fm390, fe390, fs390⟩ := hQ390
    have N390 := Fr.app N386 Nq390
    have K390 : Keep h0 T390.heap [] := K386.trans Kc390 (allS (Or.inr sz_b376) (allS (Or.inr sz_b382) all0))
    show Run p e below s _ _ _ (T390.setTop (mkF m 72 #[.val (.int kz), .val (.int xa), .val (.int xb), .val (.int xc), .val (.int (3 : Int32)), .val (.ref o295), .val (.ref o297), .val (.ref o299), .val (.ref b376), .unset, .unset] [(.int (1 : Int32))]))
    refine Run.pre (fun _ k => XS.pop X390.here hx rfl (hb hby at_72) rfl rfl k) ?_
    show Run p e below s _ _ _ (T390.setTop (mkF m 73 #[.val (.int kz), .val (.int xa), .val (.int xb), .val (.int xc), .val (.int (3 : Int32)), .val (.ref o295), .val (.ref o297), .val (.ref o299), .val (.ref b376), .unset, .unset] []))
    refine Run.pre (fun _ k => XS.aload X390.here hx rfl (hb hby at_73) rfl rfl k) ?_
    show Run p e below s _ _ _ (T390.setTop (mkF m 75 #[.val (.int kz), .val (.int xa), .val (.int xb), .val (.int xc), .val (.int (3 : Int32)), .val (.ref o295), .val (.ref o297), .val (.ref o299), .val (.ref b376), .unset, .unset] [(.ref b376)]))
    have f391 := (f387.keep Kc390 (allS gn_b376 (allS gn_b382 all0)))
    refine Run.callS hS (Nat.le_refl _) X390 hx hZ (y := (⟨"com/example/portcullis/portcullis/http/GateDecision", "challenged", "(Ljava/util/List;)Lcom/example/portcullis/portcullis/http/GateDecision;"⟩ : MethodName)) hown (hw _ (List.mem_of_getElem? (i := 50) rfl)) (hw _ (List.mem_of_getElem? (i := 51) rfl)) (hw _ (List.mem_of_getElem? (i := 52) rfl)) (hw _ (List.mem_of_getElem? (i := 53) rfl)) (by decide) (W := 0) (rmCh l Z a0 hw we b376 T390.heap n0 (Nat.le_trans Z0 K390.1) f391 SE) rfl (by decide) (by decide) (by decide) (by decide) (fun _ _ => trivial) (g := (mkF m 75 #[.val (.int kz), .val (.int xa), .val (.int xb), .val (.int xc), .val (.int (3 : Int32)), .val (.ref o295), .val (.ref o297), .val (.ref o299), .val (.ref b376), .unset, .unset] [(.ref b376)])) rfl (by rw [hml]; rfl) (argsL := [(.ref b376)]) (rest := []) (lenOf pd_15 rfl) rfl (by show 2 * 0 + _ ≤ _; exact Nat.le_of_eq rfl) (hb hby at_75) ?_
    intro v392 T392 L392 X392 hS hZ hown hV392 hQ392
    obtain ⟨b392, rfl, Nq392, Kc392, sz392, eg392, fg0_392, fg1_392, fg2_392, fg3_392⟩ := hQ392
    have N392 := Fr.app N390 Nq392
    have K392 : Keep h0 T392.heap [] := K390.trans Kc392 all0
    have sz_b392 : h0.size ≤ b392 := Nat.le_trans K390.1 sz392
    have gn_b392 : n0 ≤ b392 := Nat.le_trans Z0 sz_b392
    show Run p e below s _ _ _ (T392.setTop (mkF m 78 #[.val (.int kz), .val (.int xa), .val (.int xb), .val (.int xc), .val (.int (3 : Int32)), .val (.ref o295), .val (.ref o297), .val (.ref o299), .val (.ref b376), .unset, .unset] [(.ref b392)]))
    refine Run.pre (fun _ k => XS.astore X392.here hx rfl (hb hby at_78) rfl rfl (l' := #[.val (.int kz), .val (.int xa), .val (.int xb), .val (.int xc), .val (.int (3 : Int32)), .val (.ref o295), .val (.ref o297), .val (.ref o299), .val (.ref b376), .val (.ref b392), .unset]) rfl k) ?_
    show Run p e below s _ _ _ (T392.setTop (mkF m 80 #[.val (.int kz), .val (.int xa), .val (.int xb), .val (.int xc), .val (.int (3 : Int32)), .val (.ref o295), .val (.ref o297), .val (.ref o299), .val (.ref b376), .val (.ref b392), .unset] []))
    refine Run.pre (fun _ k => XS.aload X392.here hx rfl (hb hby at_80) rfl rfl k) ?_
    show Run p e below s _ _ _ (T392.setTop (mkF m 82 #[.val (.int kz), .val (.int xa), .val (.int xb), .val (.int xc), .val (.int (3 : Int32)), .val (.ref o295), .val (.ref o297), .val (.ref o299), .val (.ref b376), .val (.ref b392), .unset] [(.ref b392)]))
    refine Run.pre (fun _ k => XS.ifnonnullYes X392.here hx rfl (pc0 := 82) (pc' := 87) rfl (hb hby at_82) rfl (by decide) (by decide) k) ?_
    show Run p e below s _ _ _ (T392.setTop (mkF m 87 #[.val (.int kz), .val (.int xa), .val (.int xb), .val (.int xc), .val (.int (3 : Int32)), .val (.ref o295), .val (.ref o297), .val (.ref o299), .val (.ref b376), .val (.ref b392), .unset] []))
    refine Run.pre (fun _ k => XS.aload X392.here hx rfl (hb hby at_87) rfl rfl k) ?_
    show Run p e below s _ _ _ (T392.setTop (mkF m 89 #[.val (.int kz), .val (.int xa), .val (.int xb), .val (.int xc), .val (.int (3 : Int32)), .val (.ref o295), .val (.ref o297), .val (.ref o299), .val (.ref b376), .val (.ref b392), .unset] [(.ref b392)]))
    refine Run.callV hS (Nat.le_refl _) X392 hx hZ (y := (⟨"com/example/portcullis/portcullis/http/GateDecision", "status", "()I"⟩ : MethodName)) (z := (⟨"com/example/portcullis/portcullis/http/GateDecision", "status", "()I"⟩ : MethodName)) hown (hw _ (List.mem_of_getElem? (i := 78) rfl)) (hw _ (List.mem_of_getElem? (i := 79) rfl)) (notFace_of_selects (args := #[]) (mvT hZ (hw _ (List.mem_of_getElem? (i := 81) rfl)))) (hw _ (List.mem_of_getElem? (i := 81) rfl)) (hw _ (List.mem_of_getElem? (i := 80) rfl)) (hw _ (List.mem_of_getElem? (i := 82) rfl)) (hw _ (List.mem_of_getElem? (i := 52) rfl)) (by decide) (b := b392) eg392 (W := 0) (rmget_status l Z a0 hw b392 (401 : Int32) T392.heap n0 (Nat.le_trans Z0 K392.1) fg0_392) rfl (by decide) (by decide) (by decide) (by decide) (fun _ _ => trivial) (g := (mkF m 89 #[.val (.int kz), .val (.int xa), .val (.int xb), .val (.int xc), .val (.int (3 : Int32)), .val (.ref o295), .val (.ref o297), .val (.ref o299), .val (.ref b376), .val (.ref b392), .unset] [(.ref b392)])) rfl (by rw [hml]; rfl) (argsL := []) (rest := []) (lenOf pd_16 rfl) rfl (by show 2 * 0 + _ ≤ _; exact Nat.le_of_eq rfl) (hb hby at_89) ?_
    intro v393 T393 L393 X393 hS hZ hown hV393 hQ393
    obtain ⟨rfl, Nq393, he393⟩ := hQ393
    have N393 := Fr.app N392 Nq393
    have e393 : T393.heap = T392.heap := he393
    show Run p e below s _ _ _ (T393.setTop (mkF m 92 #[.val (.int kz), .val (.int xa), .val (.int xb), .val (.int xc), .val (.int (3 : Int32)), .val (.ref o295), .val (.ref o297), .val (.ref o299), .val (.ref b376), .val (.ref b392), .unset] [(.int (401 : Int32))]))
    refine Run.pre (fun _ k => XS.sipush X393.here hx rfl (hb hby at_92) k) ?_
    show Run p e below s _ _ _ (T393.setTop (mkF m 95 #[.val (.int kz), .val (.int xa), .val (.int xb), .val (.int xc), .val (.int (3 : Int32)), .val (.ref o295), .val (.ref o297), .val (.ref o299), .val (.ref b376), .val (.ref b392), .unset] [(.int (401 : Int32)), (.int (401 : Int32))]))
    refine Run.pre (fun _ k => XS.icmpYes X393.here hx rfl (pc0 := 95) (pc' := 100) rfl (hb hby at_95) rfl (teq ((by decide) : (401 : Int32) = (401 : Int32))).1 (by decide) (by decide) k) ?_
    show Run p e below s _ _ _ (T393.setTop (mkF m 100 #[.val (.int kz), .val (.int xa), .val (.int xb), .val (.int xc), .val (.int (3 : Int32)), .val (.ref o295), .val (.ref o297), .val (.ref o299), .val (.ref b376), .val (.ref b392), .unset] []))
    refine Run.pre (fun _ k => XS.aload X393.here hx rfl (hb hby at_100) rfl rfl k) ?_
    show Run p e below s _ _ _ (T393.setTop (mkF m 102 #[.val (.int kz), .val (.int xa), .val (.int xb), .val (.int xc), .val (.int (3 : Int32)), .val (.ref o295), .val (.ref o297), .val (.ref o299), .val (.ref b376), .val (.ref b392), .unset] [(.ref b392)]))
    refine Run.callV hS (by first | exact Nat.le_refl _ | (rw [e393]; exact (Nat.le_of_eq (congrArg Array.size e393)))) X393 hx hZ (y := (⟨"com/example/portcullis/portcullis/http/GateDecision", "identity", "()Ljava/util/Optional;"⟩ : MethodName)) (z := (⟨"com/example/portcullis/portcullis/http/GateDecision", "identity", "()Ljava/util/Optional;"⟩ : MethodName)) hown (hw _ (List.mem_of_getElem? (i := 83) rfl)) (hw _ (List.mem_of_getElem? (i := 84) rfl)) (notFace_of_selects (args := #[]) (mvT hZ (hw _ (List.mem_of_getElem? (i := 86) rfl)))) (hw _ (List.mem_of_getElem? (i := 86) rfl)) (hw _ (List.mem_of_getElem? (i := 85) rfl)) (hw _ (List.mem_of_getElem? (i := 87) rfl)) (hw _ (List.mem_of_getElem? (i := 52) rfl)) (by decide) (b := b392) eg392 (W := 0) (rmget_identity l Z a0 hw b392 we T392.heap n0 (Nat.le_trans Z0 K392.1) fg1_392) e393 (by decide) (by decide) (by decide) (by decide) (fun _ _ => trivial) (g := (mkF m 102 #[.val (.int kz), .val (.int xa), .val (.int xb), .val (.int xc), .val (.int (3 : Int32)), .val (.ref o295), .val (.ref o297), .val (.ref o299), .val (.ref b376), .val (.ref b392), .unset] [(.ref b392)])) rfl (by rw [hml]; rfl) (argsL := []) (rest := []) (lenOf pd_12 rfl) rfl (by show 2 * 0 + _ ≤ _; exact Nat.le_of_eq rfl) (hb hby at_102) ?_
    intro v394 T394 L394 X394 hS hZ hown hV394 hQ394
    obtain ⟨rfl, Nq394, he394⟩ := hQ394
    have N394 := Fr.app N393 Nq394
    have e394 : T394.heap = T392.heap := he394
    show Run p e below s _ _ _ (T394.setTop (mkF m 105 #[.val (.int kz), .val (.int xa), .val (.int xb), .val (.int xc), .val (.int (3 : Int32)), .val (.ref o295), .val (.ref o297), .val (.ref o299), .val (.ref b376), .val (.ref b392), .unset] [(.ref we)]))
    refine Run.pre (fun _ k => XS.ifnullNo X394.here hx rfl (hb hby at_105) rfl k) ?_
    show Run p e below s _ _ _ (T394.setTop (mkF m 108 #[.val (.int kz), .val (.int xa), .val (.int xb), .val (.int xc), .val (.int (3 : Int32)), .val (.ref o295), .val (.ref o297), .val (.ref o299), .val (.ref b376), .val (.ref b392), .unset] []))
    refine Run.pre (fun _ k => XS.aload X394.here hx rfl (hb hby at_108) rfl rfl k) ?_
    show Run p e below s _ _ _ (T394.setTop (mkF m 110 #[.val (.int kz), .val (.int xa), .val (.int xb), .val (.int xc), .val (.int (3 : Int32)), .val (.ref o295), .val (.ref o297), .val (.ref o299), .val (.ref b376), .val (.ref b392), .unset] [(.ref b392)]))
    refine Run.callV hS (by first | exact Nat.le_refl _ | (rw [e394]; exact (Nat.le_of_eq (congrArg Array.size e394)))) X394 hx hZ (y := (⟨"com/example/portcullis/portcullis/http/GateDecision", "identity", "()Ljava/util/Optional;"⟩ : MethodName)) (z := (⟨"com/example/portcullis/portcullis/http/GateDecision", "identity", "()Ljava/util/Optional;"⟩ : MethodName)) hown (hw _ (List.mem_of_getElem? (i := 83) rfl)) (hw _ (List.mem_of_getElem? (i := 84) rfl)) (notFace_of_selects (args := #[]) (mvT hZ (hw _ (List.mem_of_getElem? (i := 86) rfl)))) (hw _ (List.mem_of_getElem? (i := 86) rfl)) (hw _ (List.mem_of_getElem? (i := 85) rfl)) (hw _ (List.mem_of_getElem? (i := 87) rfl)) (hw _ (List.mem_of_getElem? (i := 52) rfl)) (by decide) (b := b392) eg392 (W := 0) (rmget_identity l Z a0 hw b392 we T392.heap n0 (Nat.le_trans Z0 K392.1) fg1_392) e394 (by decide) (by decide) (by decide) (by decide) (fun _ _ => trivial) (g := (mkF m 110 #[.val (.int kz), .val (.int xa), .val (.int xb), .val (.int xc), .val (.int (3 : Int32)), .val (.ref o295), .val (.ref o297), .val (.ref o299), .val (.ref b376), .val (.ref b392), .unset] [(.ref b392)])) rfl (by rw [hml]; rfl) (argsL := []) (rest := []) (lenOf pd_12 rfl) rfl (by show 2 * 0 + _ ≤ _; exact Nat.le_of_eq rfl) (hb hby at_110) ?_
    intro v395 T395 L395 X395 hS hZ hown hV395 hQ395
    obtain ⟨rfl, Nq395, he395⟩ := hQ395
    have N395 := Fr.app N394 Nq395
    have e395 : T395.heap = T392.heap := he395
    show Run p e below s _ _ _ (T395.setTop (mkF m 113 #[.val (.int kz), .val (.int xa), .val (.int xb), .val (.int xc), .val (.int (3 : Int32)), .val (.ref o295), .val (.ref o297), .val (.ref o299), .val (.ref b376), .val (.ref b392), .unset] [(.ref we)]))
    have f396 := (f391.keep Kc392 all0)
    refine Run.callV hS (by first | exact Nat.le_refl _ | (rw [e395]; exact (Nat.le_of_eq (congrArg Array.size e395)))) X395 hx hZ (y := (⟨"java/util/Optional", "isPresent", "()Z"⟩ : MethodName)) (z := (⟨"java/util/Optional", "isPresent", "()Z"⟩ : MethodName)) hown (hw _ (List.mem_of_getElem? (i := 88) rfl)) (hw _ (List.mem_of_getElem? (i := 89) rfl)) (notFace_of_selects (args := #[]) (mvT hZ (hw _ (List.mem_of_getElem? (i := 91) rfl)))) (hw _ (List.mem_of_getElem? (i := 91) rfl)) (hw _ (List.mem_of_getElem? (i := 90) rfl)) (hw _ (List.mem_of_getElem? (i := 92) rfl)) (hw _ (List.mem_of_getElem? (i := 58) rfl)) (by decide) (b := we) (EE.ext f396.2) (W := 0) (rmPr l Z a0 hw we T392.heap n0 (Nat.le_trans Z0 K392.1) (FW.ext f396.2)) e395 (by decide) (by decide) (by decide) (by decide) (fun _ _ => trivial) (g := (mkF m 113 #[.val (.int kz), .val (.int xa), .val (.int xb), .val (.int xc), .val (.int (3 : Int32)), .val (.ref o295), .val (.ref o297), .val (.ref o299), .val (.ref b376), .val (.ref b392), .unset] [(.ref we)])) rfl (by rw [hml]; rfl) (argsL := []) (rest := []) (lenOf pd_17 rfl) rfl (by show 2 * 0 + _ ≤ _; exact Nat.le_of_eq rfl) (hb hby at_113) ?_
    intro v397 T397 L397 X397 hS hZ hown hV397 hQ397
    obtain ⟨rfl, Nq397, he397⟩ := hQ397
    have N397 := Fr.app N395 Nq397
    have e397 : T397.heap = T392.heap := he397
    show Run p e below s _ _ _ (T397.setTop (mkF m 116 #[.val (.int kz), .val (.int xa), .val (.int xb), .val (.int xc), .val (.int (3 : Int32)), .val (.ref o295), .val (.ref o297), .val (.ref o299), .val (.ref b376), .val (.ref b392), .unset] [(.int (0 : Int32))]))
    refine Run.pre (fun _ k => XS.ifYes X397.here hx rfl (pc0 := 116) (pc' := 121) rfl (hb hby at_116) rfl ((if0 _ _).trans (teq ((by decide) : (0 : Int32) = (0 : Int32))).1) (by decide) (by decide) k) ?_
    show Run p e below s _ _ _ (T397.setTop (mkF m 121 #[.val (.int kz), .val (.int xa), .val (.int xb), .val (.int xc), .val (.int (3 : Int32)), .val (.ref o295), .val (.ref o297), .val (.ref o299), .val (.ref b376), .val (.ref b392), .unset] []))
    refine Run.pre (fun _ k => XS.aload X397.here hx rfl (hb hby at_121) rfl rfl k) ?_
    show Run p e below s _ _ _ (T397.setTop (mkF m 123 #[.val (.int kz), .val (.int xa), .val (.int xb), .val (.int xc), .val (.int (3 : Int32)), .val (.ref o295), .val (.ref o297), .val (.ref o299), .val (.ref b376), .val (.ref b392), .unset] [(.ref b392)]))
    refine Run.callV hS (by first | exact Nat.le_refl _ | (rw [e397]; exact (Nat.le_of_eq (congrArg Array.size e397)))) X397 hx hZ (y := (⟨"com/example/portcullis/portcullis/http/GateDecision", "mechanism", "()Ljava/util/Optional;"⟩ : MethodName)) (z := (⟨"com/example/portcullis/portcullis/http/GateDecision", "mechanism", "()Ljava/util/Optional;"⟩ : MethodName)) hown (hw _ (List.mem_of_getElem? (i := 95) rfl)) (hw _ (List.mem_of_getElem? (i := 96) rfl)) (notFace_of_selects (args := #[]) (mvT hZ (hw _ (List.mem_of_getElem? (i := 98) rfl)))) (hw _ (List.mem_of_getElem? (i := 98) rfl)) (hw _ (List.mem_of_getElem? (i := 97) rfl)) (hw _ (List.mem_of_getElem? (i := 99) rfl)) (hw _ (List.mem_of_getElem? (i := 52) rfl)) (by decide) (b := b392) eg392 (W := 0) (rmget_mechanism l Z a0 hw b392 we T392.heap n0 (Nat.le_trans Z0 K392.1) fg2_392) e397 (by decide) (by decide) (by decide) (by decide) (fun _ _ => trivial) (g := (mkF m 123 #[.val (.int kz), .val (.int xa), .val (.int xb), .val (.int xc), .val (.int (3 : Int32)), .val (.ref o295), .val (.ref o297), .val (.ref o299), .val (.ref b376), .val (.ref b392), .unset] [(.ref b392)])) rfl (by rw [hml]; rfl) (argsL := []) (rest := []) (lenOf pd_12 rfl) rfl (by show 2 * 0 + _ ≤ _; exact Nat.le_of_eq rfl) (hb hby at_123) ?_
    intro v398 T398 L398 X398 hS hZ hown hV398 hQ398
    obtain ⟨rfl, Nq398, he398⟩ := hQ398
    have N398 := Fr.app N397 Nq398
    have e398 : T398.heap = T392.heap := he398
    show Run p e below s _ _ _ (T398.setTop (mkF m 126 #[.val (.int kz), .val (.int xa), .val (.int xb), .val (.int xc), .val (.int (3 : Int32)), .val (.ref o295), .val (.ref o297), .val (.ref o299), .val (.ref b376), .val (.ref b392), .unset] [(.ref we)]))
    refine Run.pre (fun _ k => XS.ifnullNo X398.here hx rfl (hb hby at_126) rfl k) ?_
    show Run p e below s _ _ _ (T398.setTop (mkF m 129 #[.val (.int kz), .val (.int xa), .val (.int xb), .val (.int xc), .val (.int (3 : Int32)), .val (.ref o295), .val (.ref o297), .val (.ref o299), .val (.ref b376), .val (.ref b392), .unset] []))
    refine Run.pre (fun _ k => XS.aload X398.here hx rfl (hb hby at_129) rfl rfl k) ?_
    show Run p e below s _ _ _ (T398.setTop (mkF m 131 #[.val (.int kz), .val (.int xa), .val (.int xb), .val (.int xc), .val (.int (3 : Int32)), .val (.ref o295), .val (.ref o297), .val (.ref o299), .val (.ref b376), .val (.ref b392), .unset] [(.ref b392)]))
    refine Run.callV hS (by first | exact Nat.le_refl _ | (rw [e398]; exact (Nat.le_of_eq (congrArg Array.size e398)))) X398 hx hZ (y := (⟨"com/example/portcullis/portcullis/http/GateDecision", "mechanism", "()Ljava/util/Optional;"⟩ : MethodName)) (z := (⟨"com/example/portcullis/portcullis/http/GateDecision", "mechanism", "()Ljava/util/Optional;"⟩ : MethodName)) hown (hw _ (List.mem_of_getElem? (i := 95) rfl)) (hw _ (List.mem_of_getElem? (i := 96) rfl)) (notFace_of_selects (args := #[]) (mvT hZ (hw _ (List.mem_of_getElem? (i := 98) rfl)))) (hw _ (List.mem_of_getElem? (i := 98) rfl)) (hw _ (List.mem_of_getElem? (i := 97) rfl)) (hw _ (List.mem_of_getElem? (i := 99) rfl)) (hw _ (List.mem_of_getElem? (i := 52) rfl)) (by decide) (b := b392) eg392 (W := 0) (rmget_mechanism l Z a0 hw b392 we T392.heap n0 (Nat.le_trans Z0 K392.1) fg2_392) e398 (by decide) (by decide) (by decide) (by decide) (fun _ _ => trivial) (g := (mkF m 131 #[.val (.int kz), .val (.int xa), .val (.int xb), .val (.int xc), .val (.int (3 : Int32)), .val (.ref o295), .val (.ref o297), .val (.ref o299), .val (.ref b376), .val (.ref b392), .unset] [(.ref b392)])) rfl (by rw [hml]; rfl) (argsL := []) (rest := []) (lenOf pd_12 rfl) rfl (by show 2 * 0 + _ ≤ _; exact Nat.le_of_eq rfl) (hb hby at_131) ?_
    intro v399 T399 L399 X399 hS hZ hown hV399 hQ399
    obtain ⟨rfl, Nq399, he399⟩ := hQ399
    have N399 := Fr.app N398 Nq399
    have e399 : T399.heap = T392.heap := he399
    show Run p e below s _ _ _ (T399.setTop (mkF m 134 #[.val (.int kz), .val (.int xa), .val (.int xb), .val (.int xc), .val (.int (3 : Int32)), .val (.ref o295), .val (.ref o297), .val (.ref o299), .val (.ref b376), .val (.ref b392), .unset] [(.ref we)]))
    refine Run.callV hS (by first | exact Nat.le_refl _ | (rw [e399]; exact (Nat.le_of_eq (congrArg Array.size e399)))) X399 hx hZ (y := (⟨"java/util/Optional", "isPresent", "()Z"⟩ : MethodName)) (z := (⟨"java/util/Optional", "isPresent", "()Z"⟩ : MethodName)) hown (hw _ (List.mem_of_getElem? (i := 88) rfl)) (hw _ (List.mem_of_getElem? (i := 89) rfl)) (notFace_of_selects (args := #[]) (mvT hZ (hw _ (List.mem_of_getElem? (i := 91) rfl)))) (hw _ (List.mem_of_getElem? (i := 91) rfl)) (hw _ (List.mem_of_getElem? (i := 90) rfl)) (hw _ (List.mem_of_getElem? (i := 92) rfl)) (hw _ (List.mem_of_getElem? (i := 58) rfl)) (by decide) (b := we) (EE.ext f396.2) (W := 0) (rmPr l Z a0 hw we T392.heap n0 (Nat.le_trans Z0 K392.1) (FW.ext f396.2)) e399 (by decide) (by decide) (by decide) (by decide) (fun _ _ => trivial) (g := (mkF m 134 #[.val (.int kz), .val (.int xa), .val (.int xb), .val (.int xc), .val (.int (3 : Int32)), .val (.ref o295), .val (.ref o297), .val (.ref o299), .val (.ref b376), .val (.ref b392), .unset] [(.ref we)])) rfl (by rw [hml]; rfl) (argsL := []) (rest := []) (lenOf pd_17 rfl) rfl (by show 2 * 0 + _ ≤ _; exact Nat.le_of_eq rfl) (hb hby at_134) ?_
    intro v400 T400 L400 X400 hS hZ hown hV400 hQ400
    obtain ⟨rfl, Nq400, he400⟩ := hQ400
    have N400 := Fr.app N399 Nq400
    have e400 : T400.heap = T392.heap := he400
    show Run p e below s _ _ _ (T400.setTop (mkF m 137 #[.val (.int kz), .val (.int xa), .val (.int xb), .val (.int xc), .val (.int (3 : Int32)), .val (.ref o295), .val (.ref o297), .val (.ref o299), .val (.ref b376), .val (.ref b392), .unset] [(.int (0 : Int32))]))
    refine Run.pre (fun _ k => XS.ifYes X400.here hx rfl (pc0 := 137) (pc' := 142) rfl (hb hby at_137) rfl ((if0 _ _).trans (teq ((by decide) : (0 : Int32) = (0 : Int32))).1) (by decide) (by decide) k) ?_
    show Run p e below s _ _ _ (T400.setTop (mkF m 142 #[.val (.int kz), .val (.int xa), .val (.int xb), .val (.int xc), .val (.int (3 : Int32)), .val (.ref o295), .val (.ref o297), .val (.ref o299), .val (.ref b376), .val (.ref b392), .unset] []))
    refine Run.pre (fun _ k => XS.aload X400.here hx rfl (hb hby at_142) rfl rfl k) ?_
    show Run p e below s _ _ _ (T400.setTop (mkF m 144 #[.val (.int kz), .val (.int xa), .val (.int xb), .val (.int xc), .val (.int (3 : Int32)), .val (.ref o295), .val (.ref o297), .val (.ref o299), .val (.ref b376), .val (.ref b392), .unset] [(.ref b392)]))
    refine Run.callV hS (by first | exact Nat.le_refl _ | (rw [e400]; exact (Nat.le_of_eq (congrArg Array.size e400)))) X400 hx hZ (y := (⟨"com/example/portcullis/portcullis/http/GateDecision", "challenges", "()Ljava/util/List;"⟩ : MethodName)) (z := (⟨"com/example/portcullis/portcullis/http/GateDecision", "challenges", "()Ljava/util/List;"⟩ : MethodName)) hown (hw _ (List.mem_of_getElem? (i := 100) rfl)) (hw _ (List.mem_of_getElem? (i := 101) rfl)) (notFace_of_selects (args := #[]) (mvT hZ (hw _ (List.mem_of_getElem? (i := 103) rfl)))) (hw _ (List.mem_of_getElem? (i := 103) rfl)) (hw _ (List.mem_of_getElem? (i := 102) rfl)) (hw _ (List.mem_of_getElem? (i := 104) rfl)) (hw _ (List.mem_of_getElem? (i := 52) rfl)) (by decide) (b := b392) eg392 (W := 0) (rmget_challenges l Z a0 hw b392 b376 T392.heap n0 (Nat.le_trans Z0 K392.1) fg3_392) e400 (by decide) (by decide) (by decide) (by decide) (fun _ _ => trivial) (g := (mkF m 144 #[.val (.int kz), .val (.int xa), .val (.int xb), .val (.int xc), .val (.int (3 : Int32)), .val (.ref o295), .val (.ref o297), .val (.ref o299), .val (.ref b376), .val (.ref b392), .unset] [(.ref b392)])) rfl (by rw [hml]; rfl) (argsL := []) (rest := []) (lenOf pd_18 rfl) rfl (by show 2 * 0 + _ ≤ _; exact Nat.le_of_eq rfl) (hb hby at_144) ?_
    intro v401 T401 L401 X401 hS hZ hown hV401 hQ401
    obtain ⟨rfl, Nq401, he401⟩ := hQ401
    have N401 := Fr.app N400 Nq401
    have e401 : T401.heap = T392.heap := he401
    show Run p e below s _ _ _ (T401.setTop (mkF m 147 #[.val (.int kz), .val (.int xa), .val (.int xb), .val (.int xc), .val (.int (3 : Int32)), .val (.ref o295), .val (.ref o297), .val (.ref o299), .val (.ref b376), .val (.ref b392), .unset] [(.ref b376)]))
    refine Run.pre (fun _ k => XS.astore X401.here hx rfl (hb hby at_147) rfl rfl (l' := #[.val (.int kz), .val (.int xa), .val (.int xb), .val (.int xc), .val (.int (3 : Int32)), .val (.ref o295), .val (.ref o297), .val (.ref o299), .val (.ref b376), .val (.ref b392), .val (.ref b376)]) rfl k) ?_
    show Run p e below s _ _ _ (T401.setTop (mkF m 149 #[.val (.int kz), .val (.int xa), .val (.int xb), .val (.int xc), .val (.int (3 : Int32)), .val (.ref o295), .val (.ref o297), .val (.ref o299), .val (.ref b376), .val (.ref b392), .val (.ref b376)] []))
    refine Run.pre (fun _ k => XS.aload X401.here hx rfl (hb hby at_149) rfl rfl k) ?_
    show Run p e below s _ _ _ (T401.setTop (mkF m 151 #[.val (.int kz), .val (.int xa), .val (.int xb), .val (.int xc), .val (.int (3 : Int32)), .val (.ref o295), .val (.ref o297), .val (.ref o299), .val (.ref b376), .val (.ref b392), .val (.ref b376)] [(.ref b376)]))
    refine Run.pre (fun _ k => XS.ifnullNo X401.here hx rfl (hb hby at_151) rfl k) ?_
    show Run p e below s _ _ _ (T401.setTop (mkF m 154 #[.val (.int kz), .val (.int xa), .val (.int xb), .val (.int xc), .val (.int (3 : Int32)), .val (.ref o295), .val (.ref o297), .val (.ref o299), .val (.ref b376), .val (.ref b392), .val (.ref b376)] []))
    refine Run.pre (fun _ k => XS.aload X401.here hx rfl (hb hby at_154) rfl rfl k) ?_
    show Run p e below s _ _ _ (T401.setTop (mkF m 156 #[.val (.int kz), .val (.int xa), .val (.int xb), .val (.int xc), .val (.int (3 : Int32)), .val (.ref o295), .val (.ref o297), .val (.ref o299), .val (.ref b376), .val (.ref b392), .val (.ref b376)] [(.ref b376)]))
    have f402 := (fs390.keep Kc392 nin0)
    have f404 := ((f388.keep Kc390).keep Kc392)
    refine Run.callF hS (by first | exact Nat.le_refl _ | (rw [e401]; exact (Nat.le_of_eq (congrArg Array.size e401)))) X401 hx hZ (xi := (⟨"java/util/List", "size", "()I"⟩ : MethodName)) (y := (⟨"java/util/ArrayList", "size", "()I"⟩ : MethodName)) hown (hw _ (List.mem_of_getElem? (i := 105) rfl)) (hw _ (List.mem_of_getElem? (i := 106) rfl)) (mvT (s := s.setVm _) hZ (hw _ (List.mem_of_getElem? (i := 107) rfl))) (hw _ (List.mem_of_getElem? (i := 108) rfl)) (hw _ (List.mem_of_getElem? (i := 109) rfl)) (hw _ (List.mem_of_getElem? (i := 110) rfl)) (hw _ (List.mem_of_getElem? (i := 111) rfl)) (hw _ (List.mem_of_getElem? (i := 112) rfl)) (hw _ (List.mem_of_getElem? (i := 113) rfl)) (hw _ (List.mem_of_getElem? (i := 28) rfl)) (by decide) (b := b376) f404 (W := 0) (rmSz l Z a0 hw b376 (3 : Int32) T392.heap n0 (Nat.le_trans Z0 K392.1) f402) e401 (by decide) (by decide) (by decide) (by decide) (fun _ _ => trivial) (g := (mkF m 156 #[.val (.int kz), .val (.int xa), .val (.int xb), .val (.int xc), .val (.int (3 : Int32)), .val (.ref o295), .val (.ref o297), .val (.ref o299), .val (.ref b376), .val (.ref b392), .val (.ref b376)] [(.ref b376)])) rfl (by rw [hml]; rfl) (argsL := []) (rest := []) (lenOf pd_16 rfl) rfl (by show 2 * 0 + _ ≤ _; exact Nat.le_of_eq rfl) (hb hby at_156) ?_
    intro v403 T403 L403 X403 hS hZ hown hV403 hQ403
    obtain ⟨rfl, Nq403, he403⟩ := hQ403
    have N403 := Fr.app N401 Nq403
    have e403 : T403.heap = T392.heap := he403
    show Run p e below s _ _ _ (T403.setTop (mkF m 161 #[.val (.int kz), .val (.int xa), .val (.int xb), .val (.int xc), .val (.int (3 : Int32)), .val (.ref o295), .val (.ref o297), .val (.ref o299), .val (.ref b376), .val (.ref b392), .val (.ref b376)] [(.int (3 : Int32))]))
    refine Run.pre (fun _ k => XS.iload X403.here hx rfl (hb hby at_161) rfl  k) ?_
    show Run p e below s _ _ _ (T403.setTop (mkF m 163 #[.val (.int kz), .val (.int xa), .val (.int xb), .val (.int xc), .val (.int (3 : Int32)), .val (.ref o295), .val (.ref o297), .val (.ref o299), .val (.ref b376), .val (.ref b392), .val (.ref b376)] [(.int (3 : Int32)), (.int (3 : Int32))]))
    refine Run.pre (fun _ k => XS.icmpYes X403.here hx rfl (pc0 := 163) (pc' := 168) rfl (hb hby at_163) rfl (teq ((by decide) : (3 : Int32) = (3 : Int32))).1 (by decide) (by decide) k) ?_
    show Run p e below s _ _ _ (T403.setTop (mkF m 168 #[.val (.int kz), .val (.int xa), .val (.int xb), .val (.int xc), .val (.int (3 : Int32)), .val (.ref o295), .val (.ref o297), .val (.ref o299), .val (.ref b376), .val (.ref b392), .val (.ref b376)] []))
    refine Run.pre (fun _ k => XS.iload X403.here hx rfl (hb hby at_168) rfl  k) ?_
    show Run p e below s _ _ _ (T403.setTop (mkF m 170 #[.val (.int kz), .val (.int xa), .val (.int xb), .val (.int xc), .val (.int (3 : Int32)), .val (.ref o295), .val (.ref o297), .val (.ref o299), .val (.ref b376), .val (.ref b392), .val (.ref b376)] [(.int (3 : Int32))]))
    refine Run.pre (fun _ k => XS.ifNo X403.here hx rfl (hb hby at_170) rfl ((if0 _ _).trans (tlt ((by decide) : (0 : Int32) < (3 : Int32))).2.2.2) k) ?_
    show Run p e below s _ _ _ (T403.setTop (mkF m 173 #[.val (.int kz), .val (.int xa), .val (.int xb), .val (.int xc), .val (.int (3 : Int32)), .val (.ref o295), .val (.ref o297), .val (.ref o299), .val (.ref b376), .val (.ref b392), .val (.ref b376)] []))
    refine Run.pre (fun _ k => XS.aload X403.here hx rfl (hb hby at_173) rfl rfl k) ?_
    show Run p e below s _ _ _ (T403.setTop (mkF m 175 #[.val (.int kz), .val (.int xa), .val (.int xb), .val (.int xc), .val (.int (3 : Int32)), .val (.ref o295), .val (.ref o297), .val (.ref o299), .val (.ref b376), .val (.ref b392), .val (.ref b376)] [(.ref o295)]))
    refine Run.pre (fun _ k => XS.aload X403.here hx rfl (hb hby at_175) rfl rfl k) ?_
    show Run p e below s _ _ _ (T403.setTop (mkF m 177 #[.val (.int kz), .val (.int xa), .val (.int xb), .val (.int xc), .val (.int (3 : Int32)), .val (.ref o295), .val (.ref o297), .val (.ref o299), .val (.ref b376), .val (.ref b392), .val (.ref b376)] [(.ref b376), (.ref o295)]))
    refine Run.pre (fun _ k => XS.iconst X403.here hx rfl (hb hby at_177) k) ?_
    show Run p e below s _ _ _ (T403.setTop (mkF m 178 #[.val (.int kz), .val (.int xa), .val (.int xb), .val (.int xc), .val (.int (3 : Int32)), .val (.ref o295), .val (.ref o297), .val (.ref o299), .val (.ref b376), .val (.ref b392), .val (.ref b376)] [(.int (0 : Int32)), (.ref b376), (.ref o295)]))
    have f405 := (fe390.keep Kc392 nin0)
    have f406 := (vb390.keep Kc392 nin0)
    refine Run.callF hS (by first | exact Nat.le_refl _ | (rw [e403]; exact (Nat.le_of_eq (congrArg Array.size e403)))) X403 hx hZ (xi := (⟨"java/util/List", "get", "(I)Ljava/lang/Object;"⟩ : MethodName)) (y := (⟨"java/util/ArrayList", "get", "(I)Ljava/lang/Object;"⟩ : MethodName)) hown (hw _ (List.mem_of_getElem? (i := 145) rfl)) (hw _ (List.mem_of_getElem? (i := 146) rfl)) (mvT (s := s.setVm _) hZ (hw _ (List.mem_of_getElem? (i := 147) rfl))) (hw _ (List.mem_of_getElem? (i := 148) rfl)) (hw _ (List.mem_of_getElem? (i := 149) rfl)) (hw _ (List.mem_of_getElem? (i := 150) rfl)) (hw _ (List.mem_of_getElem? (i := 151) rfl)) (hw _ (List.mem_of_getElem? (i := 112) rfl)) (hw _ (List.mem_of_getElem? (i := 152) rfl)) (hw _ (List.mem_of_getElem? (i := 28) rfl)) (by decide) (b := b376) f404 (W := 1) (rmGt_03 l Z a0 hw b376 b382 k382 o295 o297 o299 T392.heap n0 (Nat.le_trans Z0 K392.1) f404 f405 f406 f402) e403 (by decide) (by decide) (by decide) (by decide) (fun _ _ => trivial) (g := (mkF m 178 #[.val (.int kz), .val (.int xa), .val (.int xb), .val (.int xc), .val (.int (3 : Int32)), .val (.ref o295), .val (.ref o297), .val (.ref o299), .val (.ref b376), .val (.ref b392), .val (.ref b376)] [(.int (0 : Int32)), (.ref b376), (.ref o295)])) rfl (by rw [hml]; rfl) (argsL := [(.int (0 : Int32))]) (rest := [(.ref o295)]) (lenOf pd_11 rfl) rfl (by show 2 * 0 + _ ≤ _; exact Nat.le_of_eq rfl) (hb hby at_178) ?_
    intro v407 T407 L407 X407 hS hZ hown hV407 hQ407
    obtain ⟨rfl, Nq407, he407⟩ := hQ407
    have N407 := Fr.app N403 Nq407
    have e407 : T407.heap = T392.heap := he407
    show Run p e below s _ _ _ (T407.setTop (mkF m 183 #[.val (.int kz), .val (.int xa), .val (.int xb), .val (.int xc), .val (.int (3 : Int32)), .val (.ref o295), .val (.ref o297), .val (.ref o299), .val (.ref b376), .val (.ref b392), .val (.ref b376)] [(.ref o295), (.ref o295)]))
    have f409 := ((((f381.keep Kc382).keep Kc386).keep Kc390).keep Kc392)
    refine Run.callV hS (by first | exact Nat.le_refl _ | (rw [e407]; exact (Nat.le_of_eq (congrArg Array.size e407)))) X407 hx hZ (y := (⟨"java/lang/String", "equals", "(Ljava/lang/Object;)Z"⟩ : MethodName)) (z := (⟨"java/lang/String", "equals", "(Ljava/lang/Object;)Z"⟩ : MethodName)) hown (hw _ (List.mem_of_getElem? (i := 166) rfl)) (hw _ (List.mem_of_getElem? (i := 167) rfl)) (notFace_of_selects (args := #[]) (mvT hZ (hw _ (List.mem_of_getElem? (i := 169) rfl)))) (hw _ (List.mem_of_getElem? (i := 169) rfl)) (hw _ (List.mem_of_getElem? (i := 168) rfl)) (hw _ (List.mem_of_getElem? (i := 170) rfl)) (hw _ (List.mem_of_getElem? (i := 6) rfl)) (by decide) (b := o295) f409 (W := 0) (rmEq l Z a0 hw o295 T392.heap n0 (Nat.le_trans Z0 K392.1)) e407 (by decide) (by decide) (by decide) (by decide) (fun _ _ => trivial) (g := (mkF m 183 #[.val (.int kz), .val (.int xa), .val (.int xb), .val (.int xc), .val (.int (3 : Int32)), .val (.ref o295), .val (.ref o297), .val (.ref o299), .val (.ref b376), .val (.ref b392), .val (.ref b376)] [(.ref o295), (.ref o295)])) rfl (by rw [hml]; rfl) (argsL := [(.ref o295)]) (rest := []) (lenOf pd_19 rfl) rfl (by show 2 * 0 + _ ≤ _; exact Nat.le_of_eq rfl) (hb hby at_183) ?_
    intro v408 T408 L408 X408 hS hZ hown hV408 hQ408
    obtain ⟨rfl, Nq408, he408⟩ := hQ408
    have N408 := Fr.app N407 Nq408
    have e408 : T408.heap = T392.heap := he408
    show Run p e below s _ _ _ (T408.setTop (mkF m 186 #[.val (.int kz), .val (.int xa), .val (.int xb), .val (.int xc), .val (.int (3 : Int32)), .val (.ref o295), .val (.ref o297), .val (.ref o299), .val (.ref b376), .val (.ref b392), .val (.ref b376)] [(.int (1 : Int32))]))
    refine Run.pre (fun _ k => XS.ifYes X408.here hx rfl (pc0 := 186) (pc' := 191) rfl (hb hby at_186) rfl ((if0 _ _).trans (feq ((by decide) : ¬ ((1 : Int32) = (0 : Int32)))).2) (by decide) (by decide) k) ?_
    show Run p e below s _ _ _ (T408.setTop (mkF m 191 #[.val (.int kz), .val (.int xa), .val (.int xb), .val (.int xc), .val (.int (3 : Int32)), .val (.ref o295), .val (.ref o297), .val (.ref o299), .val (.ref b376), .val (.ref b392), .val (.ref b376)] []))
    refine Run.pre (fun _ k => XS.iload X408.here hx rfl (hb hby at_191) rfl  k) ?_
    show Run p e below s _ _ _ (T408.setTop (mkF m 193 #[.val (.int kz), .val (.int xa), .val (.int xb), .val (.int xc), .val (.int (3 : Int32)), .val (.ref o295), .val (.ref o297), .val (.ref o299), .val (.ref b376), .val (.ref b392), .val (.ref b376)] [(.int (3 : Int32))]))
    refine Run.pre (fun _ k => XS.iconst X408.here hx rfl (hb hby at_193) k) ?_
    show Run p e below s _ _ _ (T408.setTop (mkF m 194 #[.val (.int kz), .val (.int xa), .val (.int xb), .val (.int xc), .val (.int (3 : Int32)), .val (.ref o295), .val (.ref o297), .val (.ref o299), .val (.ref b376), .val (.ref b392), .val (.ref b376)] [(.int (1 : Int32)), (.int (3 : Int32))]))
    refine Run.pre (fun _ k => XS.icmpNo X408.here hx rfl (hb hby at_194) rfl (tlt ((by decide) : (1 : Int32) < (3 : Int32))).2.2.2 k) ?_
    show Run p e below s _ _ _ (T408.setTop (mkF m 197 #[.val (.int kz), .val (.int xa), .val (.int xb), .val (.int xc), .val (.int (3 : Int32)), .val (.ref o295), .val (.ref o297), .val (.ref o299), .val (.ref b376), .val (.ref b392), .val (.ref b376)] []))
    refine Run.pre (fun _ k => XS.aload X408.here hx rfl (hb hby at_197) rfl rfl k) ?_
    show Run p e below s _ _ _ (T408.setTop (mkF m 199 #[.val (.int kz), .val (.int xa), .val (.int xb), .val (.int xc), .val (.int (3 : Int32)), .val (.ref o295), .val (.ref o297), .val (.ref o299), .val (.ref b376), .val (.ref b392), .val (.ref b376)] [(.ref o297)]))
    refine Run.pre (fun _ k => XS.aload X408.here hx rfl (hb hby at_199) rfl rfl k) ?_
    show Run p e below s _ _ _ (T408.setTop (mkF m 201 #[.val (.int kz), .val (.int xa), .val (.int xb), .val (.int xc), .val (.int (3 : Int32)), .val (.ref o295), .val (.ref o297), .val (.ref o299), .val (.ref b376), .val (.ref b392), .val (.ref b376)] [(.ref b376), (.ref o297)]))
    refine Run.pre (fun _ k => XS.iconst X408.here hx rfl (hb hby at_201) k) ?_
    show Run p e below s _ _ _ (T408.setTop (mkF m 202 #[.val (.int kz), .val (.int xa), .val (.int xb), .val (.int xc), .val (.int (3 : Int32)), .val (.ref o295), .val (.ref o297), .val (.ref o299), .val (.ref b376), .val (.ref b392), .val (.ref b376)] [(.int (1 : Int32)), (.ref b376), (.ref o297)]))
    refine Run.callF hS (by first | exact Nat.le_refl _ | (rw [e408]; exact (Nat.le_of_eq (congrArg Array.size e408)))) X408 hx hZ (xi := (⟨"java/util/List", "get", "(I)Ljava/lang/Object;"⟩ : MethodName)) (y := (⟨"java/util/ArrayList", "get", "(I)Ljava/lang/Object;"⟩ : MethodName)) hown (hw _ (List.mem_of_getElem? (i := 145) rfl)) (hw _ (List.mem_of_getElem? (i := 146) rfl)) (mvT (s := s.setVm _) hZ (hw _ (List.mem_of_getElem? (i := 147) rfl))) (hw _ (List.mem_of_getElem? (i := 148) rfl)) (hw _ (List.mem_of_getElem? (i := 149) rfl)) (hw _ (List.mem_of_getElem? (i := 150) rfl)) (hw _ (List.mem_of_getElem? (i := 151) rfl)) (hw _ (List.mem_of_getElem? (i := 112) rfl)) (hw _ (List.mem_of_getElem? (i := 152) rfl)) (hw _ (List.mem_of_getElem? (i := 28) rfl)) (by decide) (b := b376) f404 (W := 1) (rmGt_13 l Z a0 hw b376 b382 k382 o295 o297 o299 T392.heap n0 (Nat.le_trans Z0 K392.1) f404 f405 f406 f402) e408 (by decide) (by decide) (by decide) (by decide) (fun _ _ => trivial) (g := (mkF m 202 #[.val (.int kz), .val (.int xa), .val (.int xb), .val (.int xc), .val (.int (3 : Int32)), .val (.ref o295), .val (.ref o297), .val (.ref o299), .val (.ref b376), .val (.ref b392), .val (.ref b376)] [(.int (1 : Int32)), (.ref b376), (.ref o297)])) rfl (by rw [hml]; rfl) (argsL := [(.int (1 : Int32))]) (rest := [(.ref o297)]) (lenOf pd_11 rfl) rfl (by show 2 * 0 + _ ≤ _; exact Nat.le_of_eq rfl) (hb hby at_202) ?_
    intro v410 T410 L410 X410 hS hZ hown hV410 hQ410
    obtain ⟨rfl, Nq410, he410⟩ := hQ410
    have N410 := Fr.app N408 Nq410
    have e410 : T410.heap = T392.heap := he410
    show Run p e below s _ _ _ (T410.setTop (mkF m 207 #[.val (.int kz), .val (.int xa), .val (.int xb), .val (.int xc), .val (.int (3 : Int32)), .val (.ref o295), .val (.ref o297), .val (.ref o299), .val (.ref b376), .val (.ref b392), .val (.ref b376)] [(.ref o297), (.ref o297)]))
    have f412 := (((f385.keep Kc386).keep Kc390).keep Kc392)
    refine Run.callV hS (by first | exact Nat.le_refl _ | (rw [e410]; exact (Nat.le_of_eq (congrArg Array.size e410)))) X410 hx hZ (y := (⟨"java/lang/String", "equals", "(Ljava/lang/Object;)Z"⟩ : MethodName)) (z := (⟨"java/lang/String", "equals", "(Ljava/lang/Object;)Z"⟩ : MethodName)) hown (hw _ (List.mem_of_getElem? (i := 166) rfl)) (hw _ (List.mem_of_getElem? (i := 167) rfl)) (notFace_of_selects (args := #[]) (mvT hZ (hw _ (List.mem_of_getElem? (i := 169) rfl)))) (hw _ (List.mem_of_getElem? (i := 169) rfl)) (hw _ (List.mem_of_getElem? (i := 168) rfl)) (hw _ (List.mem_of_getElem? (i := 170) rfl)) (hw _ (List.mem_of_getElem? (i := 6) rfl)) (by decide) (b := o297) f412 (W := 0) (rmEq l Z a0 hw o297 T392.heap n0 (Nat.le_trans Z0 K392.1)) e410 (by decide) (by decide) (by decide) (by decide) (fun _ _ => trivial) (g := (mkF m 207 #[.val (.int kz), .val (.int xa), .val (.int xb), .val (.int xc), .val (.int (3 : Int32)), .val (.ref o295), .val (.ref o297), .val (.ref o299), .val (.ref b376), .val (.ref b392), .val (.ref b376)] [(.ref o297), (.ref o297)])) rfl (by rw [hml]; rfl) (argsL := [(.ref o297)]) (rest := []) (lenOf pd_19 rfl) rfl (by show 2 * 0 + _ ≤ _; exact Nat.le_of_eq rfl) (hb hby at_207) ?_
    intro v411 T411 L411 X411 hS hZ hown hV411 hQ411
    obtain ⟨rfl, Nq411, he411⟩ := hQ411
    have N411 := Fr.app N410 Nq411
    have e411 : T411.heap = T392.heap := he411
    show Run p e below s _ _ _ (T411.setTop (mkF m 210 #[.val (.int kz), .val (.int xa), .val (.int xb), .val (.int xc), .val (.int (3 : Int32)), .val (.ref o295), .val (.ref o297), .val (.ref o299), .val (.ref b376), .val (.ref b392), .val (.ref b376)] [(.int (1 : Int32))]))
    refine Run.pre (fun _ k => XS.ifYes X411.here hx rfl (pc0 := 210) (pc' := 215) rfl (hb hby at_210) rfl ((if0 _ _).trans (feq ((by decide) : ¬ ((1 : Int32) = (0 : Int32)))).2) (by decide) (by decide) k) ?_
    show Run p e below s _ _ _ (T411.setTop (mkF m 215 #[.val (.int kz), .val (.int xa), .val (.int xb), .val (.int xc), .val (.int (3 : Int32)), .val (.ref o295), .val (.ref o297), .val (.ref o299), .val (.ref b376), .val (.ref b392), .val (.ref b376)] []))
    refine Run.pre (fun _ k => XS.iload X411.here hx rfl (hb hby at_215) rfl  k) ?_
    show Run p e below s _ _ _ (T411.setTop (mkF m 217 #[.val (.int kz), .val (.int xa), .val (.int xb), .val (.int xc), .val (.int (3 : Int32)), .val (.ref o295), .val (.ref o297), .val (.ref o299), .val (.ref b376), .val (.ref b392), .val (.ref b376)] [(.int (3 : Int32))]))
    refine Run.pre (fun _ k => XS.iconst X411.here hx rfl (hb hby at_217) k) ?_
    show Run p e below s _ _ _ (T411.setTop (mkF m 218 #[.val (.int kz), .val (.int xa), .val (.int xb), .val (.int xc), .val (.int (3 : Int32)), .val (.ref o295), .val (.ref o297), .val (.ref o299), .val (.ref b376), .val (.ref b392), .val (.ref b376)] [(.int (2 : Int32)), (.int (3 : Int32))]))
    refine Run.pre (fun _ k => XS.icmpNo X411.here hx rfl (hb hby at_218) rfl (tlt ((by decide) : (2 : Int32) < (3 : Int32))).2.2.2 k) ?_
    show Run p e below s _ _ _ (T411.setTop (mkF m 221 #[.val (.int kz), .val (.int xa), .val (.int xb), .val (.int xc), .val (.int (3 : Int32)), .val (.ref o295), .val (.ref o297), .val (.ref o299), .val (.ref b376), .val (.ref b392), .val (.ref b376)] []))
    refine Run.pre (fun _ k => XS.aload X411.here hx rfl (hb hby at_221) rfl rfl k) ?_
    show Run p e below s _ _ _ (T411.setTop (mkF m 223 #[.val (.int kz), .val (.int xa), .val (.int xb), .val (.int xc), .val (.int (3 : Int32)), .val (.ref o295), .val (.ref o297), .val (.ref o299), .val (.ref b376), .val (.ref b392), .val (.ref b376)] [(.ref o299)]))
    refine Run.pre (fun _ k => XS.aload X411.here hx rfl (hb hby at_223) rfl rfl k) ?_
    show Run p e below s _ _ _ (T411.setTop (mkF m 225 #[.val (.int kz), .val (.int xa), .val (.int xb), .val (.int xc), .val (.int (3 : Int32)), .val (.ref o295), .val (.ref o297), .val (.ref o299), .val (.ref b376), .val (.ref b392), .val (.ref b376)] [(.ref b376), (.ref o299)]))
    refine Run.pre (fun _ k => XS.iconst X411.here hx rfl (hb hby at_225) k) ?_
    show Run p e below s _ _ _ (T411.setTop (mkF m 226 #[.val (.int kz), .val (.int xa), .val (.int xb), .val (.int xc), .val (.int (3 : Int32)), .val (.ref o295), .val (.ref o297), .val (.ref o299), .val (.ref b376), .val (.ref b392), .val (.ref b376)] [(.int (2 : Int32)), (.ref b376), (.ref o299)]))
    refine Run.callF hS (by first | exact Nat.le_refl _ | (rw [e411]; exact (Nat.le_of_eq (congrArg Array.size e411)))) X411 hx hZ (xi := (⟨"java/util/List", "get", "(I)Ljava/lang/Object;"⟩ : MethodName)) (y := (⟨"java/util/ArrayList", "get", "(I)Ljava/lang/Object;"⟩ : MethodName)) hown (hw _ (List.mem_of_getElem? (i := 145) rfl)) (hw _ (List.mem_of_getElem? (i := 146) rfl)) (mvT (s := s.setVm _) hZ (hw _ (List.mem_of_getElem? (i := 147) rfl))) (hw _ (List.mem_of_getElem? (i := 148) rfl)) (hw _ (List.mem_of_getElem? (i := 149) rfl)) (hw _ (List.mem_of_getElem? (i := 150) rfl)) (hw _ (List.mem_of_getElem? (i := 151) rfl)) (hw _ (List.mem_of_getElem? (i := 112) rfl)) (hw _ (List.mem_of_getElem? (i := 152) rfl)) (hw _ (List.mem_of_getElem? (i := 28) rfl)) (by decide) (b := b376) f404 (W := 1) (rmGt_23 l Z a0 hw b376 b382 k382 o295 o297 o299 T392.heap n0 (Nat.le_trans Z0 K392.1) f404 f405 f406 f402) e411 (by decide) (by decide) (by decide) (by decide) (fun _ _ => trivial) (g := (mkF m 226 #[.val (.int kz), .val (.int xa), .val (.int xb), .val (.int xc), .val (.int (3 : Int32)), .val (.ref o295), .val (.ref o297), .val (.ref o299), .val (.ref b376), .val (.ref b392), .val (.ref b376)] [(.int (2 : Int32)), (.ref b376), (.ref o299)])) rfl (by rw [hml]; rfl) (argsL := [(.int (2 : Int32))]) (rest := [(.ref o299)]) (lenOf pd_11 rfl) rfl (by show 2 * 0 + _ ≤ _; exact Nat.le_of_eq rfl) (hb hby at_226) ?_
    intro v413 T413 L413 X413 hS hZ hown hV413 hQ413
    obtain ⟨rfl, Nq413, he413⟩ := hQ413
    have N413 := Fr.app N411 Nq413
    have e413 : T413.heap = T392.heap := he413
    show Run p e below s _ _ _ (T413.setTop (mkF m 231 #[.val (.int kz), .val (.int xa), .val (.int xb), .val (.int xc), .val (.int (3 : Int32)), .val (.ref o295), .val (.ref o297), .val (.ref o299), .val (.ref b376), .val (.ref b392), .val (.ref b376)] [(.ref o299), (.ref o299)]))
    have f415 := ((f389.keep Kc390).keep Kc392)
    refine Run.callV hS (by first | exact Nat.le_refl _ | (rw [e413]; exact (Nat.le_of_eq (congrArg Array.size e413)))) X413 hx hZ (y := (⟨"java/lang/String", "equals", "(Ljava/lang/Object;)Z"⟩ : MethodName)) (z := (⟨"java/lang/String", "equals", "(Ljava/lang/Object;)Z"⟩ : MethodName)) hown (hw _ (List.mem_of_getElem? (i := 166) rfl)) (hw _ (List.mem_of_getElem? (i := 167) rfl)) (notFace_of_selects (args := #[]) (mvT hZ (hw _ (List.mem_of_getElem? (i := 169) rfl)))) (hw _ (List.mem_of_getElem? (i := 169) rfl)) (hw _ (List.mem_of_getElem? (i := 168) rfl)) (hw _ (List.mem_of_getElem? (i := 170) rfl)) (hw _ (List.mem_of_getElem? (i := 6) rfl)) (by decide) (b := o299) f415 (W := 0) (rmEq l Z a0 hw o299 T392.heap n0 (Nat.le_trans Z0 K392.1)) e413 (by decide) (by decide) (by decide) (by decide) (fun _ _ => trivial) (g := (mkF m 231 #[.val (.int kz), .val (.int xa), .val (.int xb), .val (.int xc), .val (.int (3 : Int32)), .val (.ref o295), .val (.ref o297), .val (.ref o299), .val (.ref b376), .val (.ref b392), .val (.ref b376)] [(.ref o299), (.ref o299)])) rfl (by rw [hml]; rfl) (argsL := [(.ref o299)]) (rest := []) (lenOf pd_19 rfl) rfl (by show 2 * 0 + _ ≤ _; exact Nat.le_of_eq rfl) (hb hby at_231) ?_
    intro v414 T414 L414 X414 hS hZ hown hV414 hQ414
    obtain ⟨rfl, Nq414, he414⟩ := hQ414
    have N414 := Fr.app N413 Nq414
    have e414 : T414.heap = T392.heap := he414
    show Run p e below s _ _ _ (T414.setTop (mkF m 234 #[.val (.int kz), .val (.int xa), .val (.int xb), .val (.int xc), .val (.int (3 : Int32)), .val (.ref o295), .val (.ref o297), .val (.ref o299), .val (.ref b376), .val (.ref b392), .val (.ref b376)] [(.int (1 : Int32))]))
    refine Run.pre (fun _ k => XS.ifYes X414.here hx rfl (pc0 := 234) (pc' := 239) rfl (hb hby at_234) rfl ((if0 _ _).trans (feq ((by decide) : ¬ ((1 : Int32) = (0 : Int32)))).2) (by decide) (by decide) k) ?_
    show Run p e below s _ _ _ (T414.setTop (mkF m 239 #[.val (.int kz), .val (.int xa), .val (.int xb), .val (.int xc), .val (.int (3 : Int32)), .val (.ref o295), .val (.ref o297), .val (.ref o299), .val (.ref b376), .val (.ref b392), .val (.ref b376)] []))
    refine Run.pre (fun _ k => XS.iconst X414.here hx rfl (hb hby at_239) k) ?_
    show Run p e below s _ _ _ (T414.setTop (mkF m 240 #[.val (.int kz), .val (.int xa), .val (.int xb), .val (.int xc), .val (.int (3 : Int32)), .val (.ref o295), .val (.ref o297), .val (.ref o299), .val (.ref b376), .val (.ref b392), .val (.ref b376)] [(.int (1 : Int32))]))
    exact Run.retN hS (by first | exact Nat.le_refl _ | (rw [e414]; exact (Nat.le_of_eq (congrArg Array.size e414)))) X414 hx hret (t := .boolean) (by simp) hlk (hb hby at_240) (by first | (rw [e414]; exact ⟨rfl, N414⟩) | exact ⟨rfl, N414⟩) (by decide) (by decide)
theorem own_held {s : State} {tb : Tables} {e : Env} {args : Array Value} (h : Calls_1 tb e args s) : Jvm.Lit.constHeld s "java/lang/String" 7 := by
  obtain ⟨h1, -⟩ := h
  exact h1 ("java/lang/String", 7) (by simp [consts_1])
set_option maxRecDepth 65536 in
set_option maxHeartbeats 40000000 in
theorem comes_1 {Post : Tables → Env → Array Value → State → Outcome → State → Prop} (hpost : ∀ tb e args s v u, (limb_1_1.after args s (.returned v) u = true ∧ limb_1_2.after args s (.returned v) u = true ∧ True) → ReturnedEndW s (.returned v) u (Jvm.fieldLocs frame_1_writes args s ++ Jvm.arrayLocs frame_1_arrays args s ++ Jvm.staticLocs frame_1_statics s) 40 1216 → Post tb e args s (.returned v) u) :
    ArmFor flags0 classFile x code maxLocals ret World_1 tables_1 room_1 Calls_1 rest_1 Pre_1 Post := by
  intro l hfl _ _ p e ha hc hk s m args below hf hA hF happ hP
  obtain ⟨hcalls, hrest, hpre⟩ := hP
  obtain ⟨-, -, -, hnamed, -, -, -, hat⟩ := (Spec.applies_iff hf).mp happ
  obtain ⟨hg, hn⟩ := and_e (Cond.before_iff.mp (show (Jvm.Cond.and given_1 narrow_1).before args s = true from hpre))
  obtain ⟨g0, gr0⟩ := and_e hg
  obtain ⟨g1, gr1⟩ := and_e gr0
  obtain ⟨g2, gr2⟩ := and_e gr1
  obtain ⟨g3, gr3⟩ := and_e gr2
  obtain ⟨w0, w1, w2, w3, rfl⟩ : ∃ w0 w1 w2 w3 : Value, args = #[w0, w1, w2, w3] := by
    have hs : args.size = 4 := by simpa [Cond.value, given_1] using g0
    obtain ⟨L⟩ := args
    match L, hs with
    | [w0, w1, w2, w3], _ => exact ⟨w0, w1, w2, w3, rfl⟩
  have hw := fun d (hd : d ∈ tables_1) => atoms_spec (ws := Jvm.Cond.code x code maxLocals ret :: tables_1) hat d (List.mem_cons_of_mem _ hd)
  have hfit : Fit s := own_fit hF
  obtain ⟨hsets, hown0⟩ := atoms_of _ (rest_1_c_eq ▸ (show rest_1_c.before _ s = true from hrest))
  have hr0 := Cond.before_iff.mp hown0
  obtain ⟨i0, ei0⟩ := is_v g1
  obtain rfl : w0 = (.int i0) := Option.some.inj ei0
  obtain ⟨i1, ei1⟩ := is_v g2
  obtain rfl : w1 = (.int i1) := Option.some.inj ei1
  obtain ⟨i2, ei2⟩ := is_v g3
  obtain rfl : w2 = (.int i2) := Option.some.inj ei2
  obtain ⟨i3, ei3⟩ := is_v gr3
  obtain rfl : w3 = (.int i3) := Option.some.inj ei3
  obtain ⟨cs0, ecs⟩ := is_v (Cond.before_iff.mp (hsets _ (List.mem_of_getElem? (i := 14) rfl)))
  have S_C := Sta.start ecs (Or.inl (hsets _ (List.mem_of_getElem? (i := 13) rfl)))
  have hcs0 : ¬ cs0 = 0 := own_ne0 ecs (Cond.before_iff.mp (hsets _ (List.mem_of_getElem? (i := 15) rfl)))
  obtain ⟨w_D, ev_D⟩ := exa_v (Cond.before_iff.mp (hsets _ (List.mem_of_getElem? (i := 7) rfl)))
  have S_D := Sta.start ev_D (Or.inr ⟨(hw _ (List.mem_of_getElem? (i := 28) rfl)), (hsets _ (List.mem_of_getElem? (i := 2) rfl))⟩)
  obtain ⟨cl_D, Ar_D⟩ := Arr.start ev_D (Cond.before_iff.mp (hsets _ (List.mem_of_getElem? (i := 6) rfl)))
  obtain ⟨hl_D, hz_D⟩ := own_len ev_D Ar_D (Cond.before_iff.mp (hsets _ (List.mem_of_getElem? (i := 8) rfl)))
  have A_D : Arv s s.heap w_D cl_D.cls (.object "java/lang/Object") 0 [] .null := Arv.start hfit Ar_D hl_D hz_D (by decide) rfl trivial
  have cE := (Cond.before_iff.mp (hsets _ (List.mem_of_getElem? (i := 11) rfl)))
  obtain ⟨w_E, ev_E⟩ := exa_v cE
  have S_E := Sta.start ev_E (Or.inl (hsets _ (List.mem_of_getElem? (i := 10) rfl)))
  have E_E := Exa.start ev_E cE
  have F_E := own_fldNull ev_E (Cond.before_iff.mp (hsets _ (List.mem_of_getElem? (i := 12) rfl)))
  have hH := own_held hcalls
  obtain ⟨n, o, h1, h2, h3, _, L, rfl, ⟨rfl, N⟩, hq⟩ := rm0 l s _ hw i0 i1 i2 i3 cs0 w_D cl_D.cls w_E s.heap s.heap.size (Nat.le_refl _) (Old.start s) S_C hcs0 hH (hsets _ (List.mem_of_getElem? (i := 15) rfl)) S_D A_D S_E E_E F_E tables_1 p e ha hc hk s m _ below hf ((Spec.applies_iff_loose hf).mp happ).1 ⟨rfl, State.Warmed39.refl s, rfl, Or.inl ⟨#[], by simp, by simp⟩⟩ trivial
  refine ⟨n, _, h1, h2, h3, hpost _ _ _ _ _ _ ⟨Cond.after_iff.mpr rfl, Cond.after_iff.mpr (eq_i res_at (Term.int_eval (1)) rfl), trivial⟩ ⟨hq.1, hq.2.1, hq.2.2.1, (hq.2.2.2.sift fun y hy => Or.inr (N y hy)).mono (by decide) (by decide)⟩⟩
theorem main_1_1 : Claimed_1_1 := comes_1 fun _ _ _ _ _ _ h hF => ⟨h.1, hF⟩
theorem main_1_2 : Claimed_1_2 := comes_1 fun _ _ _ _ _ _ h hF => ⟨h.2.1, hF⟩
end Jvm.Pilot.@@N@@
namespace Jvm.Pilot.@@N@@
open Jvm Jvm.ClassFile Sem Op Lib Jvm.Free Jvm.Stand Jvm.Pilot.@@N@@.Jvm.D
/-! MADE BY PROGRAM (witnessworld.py) out of the Statement's table words and the real class files: 33 classes; the members and pool entries that the words name. The judged class is class 1, her method 1. -/
namespace start1
open Jvm.ClassFile
def u (s : String) : CpInfo := .utf8 (stringToUtf16 s)
/-- a pool by its gaps: so many unusable entries, then the entry; so many at the end -/
def gap : Nat → List CpInfo → List CpInfo
  | 0, r => r
  | n + 1, r => .unusable :: gap n r
def poolList (es : List (Nat × CpInfo)) (last : Nat) : List CpInfo := es.foldr (fun e r => gap e.1 (e.2 :: r)) (gap last [])
def pool (es : List (Nat × CpInfo)) (last : Nat) : Array CpInfo := ⟨poolList es last⟩
def fileOf (pool : Array CpInfo) (this : Nat) (attrs : Array Attribute := #[]) (ms : Array MethodInfo := #[]) (fl : Nat := 33) (sup : Nat := 0) (ifs : Array Nat := #[]) (fds : Array FieldInfo := #[]) : ClassFile where
  minorVersion := 0
  majorVersion := 65
  constantPool := pool
  accessFlags := fl
  thisClass := this
  superClass := sup
  interfaces := ifs
  fields := fds
  methods := ms
  attributes := attrs
def plain (name : String) (sup : Option ClassId) : Class where
  name := name
  kind := .ordinary
  loader := none
  accessFlags := 33
  super := sup
  interfaces := #[]
  cf := none
  fields := #[]
  methods := #[]
  instanceTypes := #[]
  staticTypes := #[]
  resolved := #[]
  callSites := []
  init := .initialized
  statics := none
  mirror := none

def pool0 : Array CpInfo := pool [(5, u "<init>"), (0, u "()V"), (1, .class_ 10), (1, u "java/lang/Object")] 113

def k0c0 : Code := { maxStack := 0, maxLocals := 1, code := object_method_1_code, exceptionTable := #[], attributes := #[] }
def k0m0 : Method := { name := "<init>", desc := "()V", sig := { parameters := [], returnType := none }, accessFlags := 1, code := some k0c0 }
/-- java/lang/Object -/
def k0 : Class := { plain "java/lang/Object" none with
  accessFlags := 33
  interfaces := #[]
  cf := some (fileOf pool0 8 #[] #[{ accessFlags := 1, nameIndex := 5, descriptorIndex := 6, attributes := #[] }] 33 0 #[] #[])
  fields := #[]
  methods := #[k0m0]
  instanceTypes := #[]
  staticTypes := #[]
  resolved := Array.replicate 124 none
  statics := none }

def pool1 : Array CpInfo := pool [(2, .class_ 4), (0, .nameAndType 5 6), (0, u "java/lang/Object"), (0, u "<init>"), (0, u "()V"), (0, .methodref 8 9), (0, .class_ 10), (0, .nameAndType 11 12), (0, u "com/example/portcullis/portcullis/http/GateDecisionChallengedPinLaw"), (0, u "mk"), (0, u "(I)Ljava/lang/String;"), (0, .class_ 14), (0, u "java/util/ArrayList"), (0, .methodref 13 3), (0, .methodref 13 17), (0, .nameAndType 18 19), (0, u "add"), (0, u "(Ljava/lang/Object;)Z"), (0, .methodref 21 22), (0, .class_ 23), (0, .nameAndType 24 25), (0, u "com/example/portcullis/portcullis/http/GateDecision"), (0, u "challenged"), (0, u "(Ljava/util/List;)Lcom/example/portcullis/portcullis/http/GateDecision;"), (0, .methodref 21 27), (0, .nameAndType 28 29), (0, u "status"), (0, u "()I"), (0, .methodref 21 31), (0, .nameAndType 32 33), (0, u "identity"), (0, u "()Ljava/util/Optional;"), (0, .methodref 35 36), (0, .class_ 37), (0, .nameAndType 38 39), (0, u "java/util/Optional"), (0, u "isPresent"), (0, u "()Z"), (0, .methodref 21 41), (0, .nameAndType 42 33), (0, u "mechanism"), (0, .methodref 21 44), (0, .nameAndType 45 46), (0, u "challenges"), (0, u "()Ljava/util/List;"), (0, .interfaceMethodref 48 49), (0, .class_ 50), (0, .nameAndType 51 29), (0, u "java/util/List"), (0, u "size"), (0, .interfaceMethodref 48 53), (0, .nameAndType 54 55), (0, u "get"), (0, u "(I)Ljava/lang/Object;"), (0, .methodref 57 58), (0, .class_ 59), (0, .nameAndType 60 19), (0, u "java/lang/String"), (0, u "equals"), (0, .methodref 57 62), (0, .nameAndType 5 63), (0, u "([C)V"), (2, u "law"), (0, u "(IIII)Z")] 3

def k1m0 : Method := { name := "<init>", desc := "()V", sig := { parameters := [], returnType := none }, accessFlags := 1, code := none }
def k1c1 : Code := { maxStack := 3, maxLocals := 11, code := code, exceptionTable := #[], attributes := #[] }
def k1m1 : Method := { name := "law", desc := "(IIII)Z", sig := { parameters := [.int, .int, .int, .int], returnType := some .boolean }, accessFlags := 9, code := some k1c1 }
def k1c2 : Code := { maxStack := 6, maxLocals := 5, code := method_3_code, exceptionTable := #[], attributes := #[] }
def k1m2 : Method := { name := "mk", desc := "(I)Ljava/lang/String;", sig := { parameters := [.int], returnType := some (.object "java/lang/String") }, accessFlags := 10, code := some k1c2 }
/-- com/example/portcullis/portcullis/http/GateDecisionChallengedPinLaw -/
def k1 : Class := { plain "com/example/portcullis/portcullis/http/GateDecisionChallengedPinLaw" (some 0) with
  accessFlags := 49
  interfaces := #[]
  cf := some (fileOf pool1 8 #[] #[{ accessFlags := 1, nameIndex := 5, descriptorIndex := 6, attributes := #[] }, { accessFlags := 9, nameIndex := 66, descriptorIndex := 67, attributes := #[] }, { accessFlags := 10, nameIndex := 11, descriptorIndex := 12, attributes := #[] }] 49 2 #[] #[])
  fields := #[]
  methods := #[k1m0, k1m1, k1m2]
  instanceTypes := #[]
  staticTypes := #[]
  resolved := Array.replicate 71 none
  statics := none }

def pool2 : Array CpInfo := pool [(1, .class_ 2), (0, u "java/io/Serializable"), (0, .class_ 4), (0, u "java/lang/Object")] 2

/-- java/io/Serializable -/
def k2 : Class := { plain "java/io/Serializable" (some 0) with
  accessFlags := 1537
  interfaces := #[]
  cf := some (fileOf pool2 1 #[] #[] 1537 3 #[] #[])
  fields := #[]
  methods := #[]
  instanceTypes := #[]
  staticTypes := #[]
  resolved := Array.replicate 7 none
  statics := none }

def pool3 : Array CpInfo := pool [(1, .class_ 2), (0, u "java/lang/Comparable"), (0, .class_ 4), (0, u "java/lang/Object")] 7

/-- java/lang/Comparable -/
def k3 : Class := { plain "java/lang/Comparable" (some 0) with
  accessFlags := 1537
  interfaces := #[]
  cf := some (fileOf pool3 1 #[] #[] 1537 3 #[] #[])
  fields := #[]
  methods := #[]
  instanceTypes := #[]
  staticTypes := #[]
  resolved := Array.replicate 12 none
  statics := none }

def pool4 : Array CpInfo := pool [(2, .class_ 4), (1, u "java/lang/CharSequence"), (42, .class_ 48), (0, u "java/lang/CharSequence$1CodePointIterator"), (10, .class_ 60), (0, u "java/lang/CharSequence$1CharIterator"), (5, .class_ 67), (0, u "java/lang/Object")] 63

/-- java/lang/CharSequence -/
def k4 : Class := { plain "java/lang/CharSequence" (some 0) with
  accessFlags := 1537
  interfaces := #[]
  cf := some (fileOf pool4 2 #[.nestMembers #[47, 59]] #[] 1537 66 #[] #[])
  fields := #[]
  methods := #[]
  instanceTypes := #[]
  staticTypes := #[]
  resolved := Array.replicate 131 none
  statics := none }

def pool5 : Array CpInfo := pool [(1, .class_ 2), (0, u "java/lang/constant/Constable"), (0, .class_ 4), (0, u "java/lang/Object")] 6

/-- java/lang/constant/Constable -/
def k5 : Class := { plain "java/lang/constant/Constable" (some 0) with
  accessFlags := 1537
  interfaces := #[]
  cf := some (fileOf pool5 1 #[] #[] 1537 3 #[] #[])
  fields := #[]
  methods := #[]
  instanceTypes := #[]
  staticTypes := #[]
  resolved := Array.replicate 11 none
  statics := none }

def pool6 : Array CpInfo := pool [(1, .class_ 2), (0, u "java/lang/constant/ConstantDesc"), (0, .class_ 4), (0, u "java/lang/Object")] 32

/-- java/lang/constant/ConstantDesc -/
def k6 : Class := { plain "java/lang/constant/ConstantDesc" (some 0) with
  accessFlags := 1537
  interfaces := #[]
  cf := some (fileOf pool6 1 #[] #[] 1537 3 #[] #[])
  fields := #[]
  methods := #[]
  instanceTypes := #[]
  staticTypes := #[]
  resolved := Array.replicate 37 none
  statics := none }

def pool7 : Array CpInfo := pool [(1, .methodref 2 3), (0, .class_ 4), (0, .nameAndType 5 6), (0, u "java/lang/Object"), (0, u "<init>"), (0, u "()V"), (0, .string 8), (0, u ""), (0, .fieldref 10 11), (0, .class_ 12), (0, .nameAndType 13 14), (0, u "java/lang/String"), (0, u "value"), (0, u "[B"), (0, .fieldref 10 16), (0, .nameAndType 17 18), (0, u "coder"), (0, u "B"), (2, u "hash"), (0, u "I"), (2, u "hashIsZero"), (0, u "Z"), (0, .methodref 10 28), (0, .nameAndType 5 29), (0, u "([CIILjava/lang/Void;)V"), (8, .fieldref 10 39), (0, .nameAndType 40 26), (0, u "COMPACT_STRINGS"), (1, .class_ 44), (1, u "java/lang/StringUTF16"), (0, u "compress"), (1, .methodref 42 48), (0, .nameAndType 49 50), (0, u "coderFromArrayLen"), (0, u "([BI)B"), (126, .methodref 42 178), (0, .nameAndType 45 179), (0, u "([CII)[B"), (363, u "equals"), (29, u "(Ljava/lang/Object;)Z"), (1, .class_ 576), (0, u "java/lang/CharSequence"), (22, u "CASE_INSENSITIVE_ORDER"), (0, u "Ljava/util/Comparator;"), (409, u "([C)V"), (90, u "serialPersistentFields"), (0, u "[Ljava/io/ObjectStreamField;"), (0, .class_ 1104), (0, u "java/lang/String$CaseInsensitiveComparator"), (1, .class_ 1107), (0, u "java/io/Serializable"), (0, .class_ 1109), (0, u "java/lang/Comparable"), (0, .class_ 1111), (0, u "java/lang/constant/Constable"), (0, .class_ 1113), (0, u "java/lang/constant/ConstantDesc"), (2, u "serialVersionUID"), (0, u "J"), (3, u "REPL"), (0, u "C"), (2, u "LATIN1"), (1, u "UTF16")] 323

def k7m0 : Method := { name := "<init>", desc := "()V", sig := { parameters := [], returnType := none }, accessFlags := 1, code := none }
def k7c1 : Code := { maxStack := 5, maxLocals := 2, code := jdk_42_method_3_code, exceptionTable := #[], attributes := #[] }
def k7m1 : Method := { name := "<init>", desc := "([C)V", sig := { parameters := [(.array .char)], returnType := none }, accessFlags := 1, code := some k7c1 }
def k7c2 : Code := { maxStack := 2, maxLocals := 3, code := jdk_42_method_66_code, exceptionTable := #[], attributes := #[] }
def k7m2 : Method := { name := "equals", desc := "(Ljava/lang/Object;)Z", sig := { parameters := [(.object "java/lang/Object")], returnType := some .boolean }, accessFlags := 1, code := some k7c2 }
def k7c3 : Code := { maxStack := 4, maxLocals := 6, code := jdk_42_method_149_code, exceptionTable := #[], attributes := #[] }
def k7m3 : Method := { name := "<init>", desc := "([CIILjava/lang/Void;)V", sig := { parameters := [(.array .char), .int, .int, (.object "java/lang/Void")], returnType := none }, accessFlags := 2, code := some k7c3 }
/-- java/lang/String -/
def k7 : Class := { plain "java/lang/String" (some 0) with
  accessFlags := 49
  interfaces := #[2, 3, 4, 5, 6]
  cf := some (fileOf pool7 10 #[.nestMembers #[1103]] #[{ accessFlags := 1, nameIndex := 5, descriptorIndex := 6, attributes := #[] }, { accessFlags := 1, nameIndex := 5, descriptorIndex := 1010, attributes := #[] }, { accessFlags := 1, nameIndex := 543, descriptorIndex := 573, attributes := #[] }, { accessFlags := 2, nameIndex := 5, descriptorIndex := 29, attributes := #[] }] 49 2 #[1106, 1108, 575, 1110, 1112] #[{ accessFlags := 18, nameIndex := 13, descriptorIndex := 14, attributes := #[] }, { accessFlags := 18, nameIndex := 17, descriptorIndex := 18, attributes := #[] }, { accessFlags := 2, nameIndex := 21, descriptorIndex := 22, attributes := #[] }, { accessFlags := 2, nameIndex := 25, descriptorIndex := 26, attributes := #[] }, { accessFlags := 26, nameIndex := 1116, descriptorIndex := 1117, attributes := #[] }, { accessFlags := 24, nameIndex := 40, descriptorIndex := 26, attributes := #[] }, { accessFlags := 26, nameIndex := 1101, descriptorIndex := 1102, attributes := #[] }, { accessFlags := 26, nameIndex := 1121, descriptorIndex := 1122, attributes := #[] }, { accessFlags := 25, nameIndex := 599, descriptorIndex := 600, attributes := #[] }, { accessFlags := 24, nameIndex := 1125, descriptorIndex := 18, attributes := #[] }, { accessFlags := 24, nameIndex := 1127, descriptorIndex := 18, attributes := #[] }])
  fields := #[{ name := "value", type := (.array .byte), accessFlags := 18, slot := 0, constantValue := 0 }, { name := "coder", type := .byte, accessFlags := 18, slot := 1, constantValue := 0 }, { name := "hash", type := .int, accessFlags := 2, slot := 2, constantValue := 0 }, { name := "hashIsZero", type := .boolean, accessFlags := 2, slot := 3, constantValue := 0 }, { name := "serialVersionUID", type := .long, accessFlags := 26, slot := 0, constantValue := 0 }, { name := "COMPACT_STRINGS", type := .boolean, accessFlags := 24, slot := 1, constantValue := 0 }, { name := "serialPersistentFields", type := (.array (.object "java/io/ObjectStreamField")), accessFlags := 26, slot := 2, constantValue := 0 }, { name := "REPL", type := .char, accessFlags := 26, slot := 3, constantValue := 0 }, { name := "CASE_INSENSITIVE_ORDER", type := (.object "java/util/Comparator"), accessFlags := 25, slot := 4, constantValue := 0 }, { name := "LATIN1", type := .byte, accessFlags := 24, slot := 5, constantValue := 0 }, { name := "UTF16", type := .byte, accessFlags := 24, slot := 6, constantValue := 0 }]
  methods := #[k7m0, k7m1, k7m2, k7m3]
  instanceTypes := #[(.array .byte), .byte, .int, .boolean]
  staticTypes := #[.long, .boolean, (.array (.object "java/io/ObjectStreamField")), .char, (.object "java/util/Comparator"), .byte, .byte]
  resolved := Array.replicate 1451 none
  statics := some 0 }

def pool8 : Array CpInfo := pool [(8, .class_ 10), (1, u "java/lang/Iterable"), (24, .class_ 36), (0, u "java/lang/Object")] 25

/-- java/lang/Iterable -/
def k8 : Class := { plain "java/lang/Iterable" (some 0) with
  accessFlags := 1537
  interfaces := #[]
  cf := some (fileOf pool8 8 #[] #[] 1537 35 #[] #[])
  fields := #[]
  methods := #[]
  instanceTypes := #[]
  staticTypes := #[]
  resolved := Array.replicate 62 none
  statics := none }

def pool9 : Array CpInfo := pool [(10, .class_ 12), (1, u "java/util/Collection"), (47, .class_ 61), (0, u "java/lang/Object"), (0, .class_ 63), (0, u "java/lang/Iterable")] 51

/-- java/util/Collection -/
def k9 : Class := { plain "java/util/Collection" (some 0) with
  accessFlags := 1537
  interfaces := #[8]
  cf := some (fileOf pool9 10 #[] #[] 1537 60 #[62] #[])
  fields := #[]
  methods := #[]
  instanceTypes := #[]
  staticTypes := #[]
  resolved := Array.replicate 115 none
  statics := none }

def pool10 : Array CpInfo := pool [(1, .methodref 2 3), (0, .class_ 4), (0, .nameAndType 5 6), (0, u "java/lang/Object"), (0, u "<init>"), (0, u "()V"), (1, .class_ 10), (1, u "java/util/AbstractCollection"), (66, .class_ 78), (0, u "java/util/Collection")] 81

def k10c0 : Code := { maxStack := 1, maxLocals := 1, code := jdk_22_method_1_code, exceptionTable := #[], attributes := #[] }
def k10m0 : Method := { name := "<init>", desc := "()V", sig := { parameters := [], returnType := none }, accessFlags := 4, code := some k10c0 }
/-- java/util/AbstractCollection -/
def k10 : Class := { plain "java/util/AbstractCollection" (some 0) with
  accessFlags := 1057
  interfaces := #[9]
  cf := some (fileOf pool10 8 #[] #[{ accessFlags := 4, nameIndex := 5, descriptorIndex := 6, attributes := #[] }] 1057 2 #[77] #[])
  fields := #[]
  methods := #[k10m0]
  instanceTypes := #[]
  staticTypes := #[]
  resolved := Array.replicate 160 none
  statics := none }

def pool11 : Array CpInfo := pool [(8, .class_ 10), (1, u "java/util/SequencedCollection"), (15, .class_ 27), (0, u "java/lang/Object"), (0, .class_ 29), (0, u "java/util/Collection")] 27

/-- java/util/SequencedCollection -/
def k11 : Class := { plain "java/util/SequencedCollection" (some 0) with
  accessFlags := 1537
  interfaces := #[9]
  cf := some (fileOf pool11 8 #[] #[] 1537 26 #[28] #[])
  fields := #[]
  methods := #[]
  instanceTypes := #[]
  staticTypes := #[]
  resolved := Array.replicate 57 none
  statics := none }

def pool12 : Array CpInfo := pool [(8, .class_ 10), (1, u "java/util/List"), (64, u "get"), (0, u "(I)Ljava/lang/Object;"), (2, u "size"), (0, u "()I"), (22, .class_ 104), (0, u "java/lang/Object"), (15, .class_ 121), (0, u "java/util/SequencedCollection")] 129

def k12m0 : Method := { name := "size", desc := "()I", sig := { parameters := [], returnType := some .int }, accessFlags := 1025, code := none }
def k12m1 : Method := { name := "get", desc := "(I)Ljava/lang/Object;", sig := { parameters := [.int], returnType := some (.object "java/lang/Object") }, accessFlags := 1025, code := none }
/-- java/util/List -/
def k12 : Class := { plain "java/util/List" (some 0) with
  accessFlags := 1537
  interfaces := #[11]
  cf := some (fileOf pool12 8 #[] #[{ accessFlags := 1025, nameIndex := 79, descriptorIndex := 80, attributes := #[] }, { accessFlags := 1025, nameIndex := 75, descriptorIndex := 76, attributes := #[] }] 1537 103 #[120] #[])
  fields := #[]
  methods := #[k12m0, k12m1]
  instanceTypes := #[]
  staticTypes := #[]
  resolved := Array.replicate 251 none
  statics := none }

def pool13 : Array CpInfo := pool [(1, .methodref 2 3), (0, .class_ 4), (0, .nameAndType 5 6), (0, u "java/util/AbstractCollection"), (0, u "<init>"), (0, u "()V"), (0, .fieldref 8 9), (0, .class_ 10), (0, .nameAndType 11 12), (0, u "java/util/AbstractList"), (0, u "modCount"), (0, u "I"), (64, .class_ 78), (0, u "java/util/AbstractList$Itr"), (3, .class_ 83), (0, u "java/util/AbstractList$ListItr"), (9, .class_ 94), (0, u "java/util/AbstractList$RandomAccessSubList"), (3, .class_ 99), (0, u "java/util/AbstractList$SubList"), (33, .class_ 134), (0, u "java/util/List"), (73, .class_ 209), (0, u "java/util/AbstractList$SubList$1"), (0, .class_ 211), (0, u "java/util/AbstractList$RandomAccessSpliterator")] 6

def k13c0 : Code := { maxStack := 2, maxLocals := 1, code := jdk_39_method_1_code, exceptionTable := #[], attributes := #[] }
def k13m0 : Method := { name := "<init>", desc := "()V", sig := { parameters := [], returnType := none }, accessFlags := 4, code := some k13c0 }
/-- java/util/AbstractList -/
def k13 : Class := { plain "java/util/AbstractList" (some 10) with
  accessFlags := 1057
  interfaces := #[12]
  cf := some (fileOf pool13 8 #[.nestMembers #[93, 98, 208, 210, 82, 77]] #[{ accessFlags := 4, nameIndex := 5, descriptorIndex := 6, attributes := #[] }] 1057 2 #[133] #[{ accessFlags := 132, nameIndex := 11, descriptorIndex := 12, attributes := #[] }])
  fields := #[{ name := "modCount", type := .int, accessFlags := 132, slot := 0, constantValue := 0 }]
  methods := #[k13m0]
  instanceTypes := #[.int]
  staticTypes := #[]
  resolved := Array.replicate 218 none
  statics := none }

def pool14 : Array CpInfo := pool [(1, .class_ 2), (0, u "java/util/RandomAccess"), (0, .class_ 4), (0, u "java/lang/Object")] 2

/-- java/util/RandomAccess -/
def k14 : Class := { plain "java/util/RandomAccess" (some 0) with
  accessFlags := 1537
  interfaces := #[]
  cf := some (fileOf pool14 1 #[] #[] 1537 3 #[] #[])
  fields := #[]
  methods := #[]
  instanceTypes := #[]
  staticTypes := #[]
  resolved := Array.replicate 7 none
  statics := none }

def pool15 : Array CpInfo := pool [(1, .class_ 2), (0, u "java/lang/Cloneable"), (0, .class_ 4), (0, u "java/lang/Object")] 2

/-- java/lang/Cloneable -/
def k15 : Class := { plain "java/lang/Cloneable" (some 0) with
  accessFlags := 1537
  interfaces := #[]
  cf := some (fileOf pool15 1 #[] #[] 1537 3 #[] #[])
  fields := #[]
  methods := #[]
  instanceTypes := #[]
  staticTypes := #[]
  resolved := Array.replicate 7 none
  statics := none }

def pool16 : Array CpInfo := pool [(1, .methodref 2 3), (0, .class_ 4), (0, .nameAndType 5 6), (0, u "java/util/AbstractList"), (0, u "<init>"), (0, u "()V"), (0, .class_ 8), (0, u "java/lang/Object"), (0, .fieldref 10 11), (0, .class_ 12), (0, .nameAndType 13 14), (0, u "java/util/ArrayList"), (0, u "elementData"), (0, u "[Ljava/lang/Object;"), (2, u "EMPTY_ELEMENTDATA"), (21, .fieldref 10 40), (0, .nameAndType 41 14), (0, u "DEFAULTCAPACITY_EMPTY_ELEMENTDATA"), (5, u "()[Ljava/lang/Object;"), (0, .fieldref 10 49), (0, .nameAndType 50 51), (0, u "size"), (0, u "I"), (11, .fieldref 10 64), (0, .nameAndType 65 51), (0, u "modCount"), (3, .methodref 10 70), (0, .nameAndType 71 72), (0, u "grow"), (0, u "(I)[Ljava/lang/Object;"), (6, .methodref 80 81), (0, .class_ 82), (0, .nameAndType 83 84), (0, u "java/lang/Math"), (0, u "max"), (0, u "(II)I"), (11, u "(Ljava/lang/Object;)Z"), (21, .methodref 119 120), (0, .class_ 121), (0, .nameAndType 122 84), (0, u "java/util/Objects"), (0, u "checkIndex"), (0, .methodref 10 124), (0, .nameAndType 13 125), (0, u "(I)Ljava/lang/Object;"), (3, .methodref 10 130), (0, .nameAndType 71 47), (0, .methodref 10 132), (0, .nameAndType 133 134), (0, u "add"), (0, u "(Ljava/lang/Object;[Ljava/lang/Object;I)V"), (13, .class_ 149), (0, u "java/util/List"), (36, u "()I"), (75, .class_ 263), (0, u "java/util/ArrayList$ListItr"), (3, .class_ 268), (0, u "java/util/ArrayList$Itr"), (7, .class_ 277), (0, u "java/util/ArrayList$SubList"), (12, .class_ 291), (0, u "java/util/ArrayList$ArrayListSpliterator"), (37, .class_ 330), (0, u "java/util/RandomAccess"), (0, .class_ 332), (0, u "java/lang/Cloneable"), (0, .class_ 334), (0, u "java/io/Serializable"), (0, u "serialVersionUID"), (0, u "J"), (3, u "DEFAULT_CAPACITY"), (40, u "get"), (118, .class_ 501), (0, u "java/util/ArrayList$SubList$2"), (0, .class_ 503), (0, u "java/util/ArrayList$SubList$1")] 5

def k16c0 : Code := { maxStack := 2, maxLocals := 1, code := jdk_38_method_2_code, exceptionTable := #[], attributes := #[] }
def k16m0 : Method := { name := "<init>", desc := "()V", sig := { parameters := [], returnType := none }, accessFlags := 1, code := some k16c0 }
def k16c1 : Code := { maxStack := 4, maxLocals := 4, code := jdk_38_method_6_code, exceptionTable := #[], attributes := #[] }
def k16m1 : Method := { name := "grow", desc := "(I)[Ljava/lang/Object;", sig := { parameters := [.int], returnType := some (.array (.object "java/lang/Object")) }, accessFlags := 2, code := some k16c1 }
def k16c2 : Code := { maxStack := 3, maxLocals := 1, code := jdk_38_method_7_code, exceptionTable := #[], attributes := #[] }
def k16m2 : Method := { name := "grow", desc := "()[Ljava/lang/Object;", sig := { parameters := [], returnType := some (.array (.object "java/lang/Object")) }, accessFlags := 2, code := some k16c2 }
def k16c3 : Code := { maxStack := 1, maxLocals := 1, code := jdk_38_method_8_code, exceptionTable := #[], attributes := #[] }
def k16m3 : Method := { name := "size", desc := "()I", sig := { parameters := [], returnType := some .int }, accessFlags := 1, code := some k16c3 }
def k16c4 : Code := { maxStack := 2, maxLocals := 2, code := jdk_38_method_18_code, exceptionTable := #[], attributes := #[] }
def k16m4 : Method := { name := "elementData", desc := "(I)Ljava/lang/Object;", sig := { parameters := [.int], returnType := some (.object "java/lang/Object") }, accessFlags := 0, code := some k16c4 }
def k16c5 : Code := { maxStack := 2, maxLocals := 2, code := jdk_38_method_20_code, exceptionTable := #[], attributes := #[] }
def k16m5 : Method := { name := "get", desc := "(I)Ljava/lang/Object;", sig := { parameters := [.int], returnType := some (.object "java/lang/Object") }, accessFlags := 1, code := some k16c5 }
def k16c6 : Code := { maxStack := 3, maxLocals := 4, code := jdk_38_method_24_code, exceptionTable := #[], attributes := #[] }
def k16m6 : Method := { name := "add", desc := "(Ljava/lang/Object;[Ljava/lang/Object;I)V", sig := { parameters := [(.object "java/lang/Object"), (.array (.object "java/lang/Object")), .int], returnType := none }, accessFlags := 2, code := some k16c6 }
def k16c7 : Code := { maxStack := 4, maxLocals := 2, code := jdk_38_method_25_code, exceptionTable := #[], attributes := #[] }
def k16m7 : Method := { name := "add", desc := "(Ljava/lang/Object;)Z", sig := { parameters := [(.object "java/lang/Object")], returnType := some .boolean }, accessFlags := 1, code := some k16c7 }
/-- java/util/ArrayList -/
def k16 : Class := { plain "java/util/ArrayList" (some 13) with
  accessFlags := 33
  interfaces := #[12, 14, 15, 2]
  cf := some (fileOf pool16 10 #[.nestMembers #[290, 276, 500, 502, 262, 267]] #[{ accessFlags := 1, nameIndex := 5, descriptorIndex := 6, attributes := #[] }, { accessFlags := 2, nameIndex := 71, descriptorIndex := 72, attributes := #[] }, { accessFlags := 2, nameIndex := 71, descriptorIndex := 47, attributes := #[] }, { accessFlags := 1, nameIndex := 50, descriptorIndex := 186, attributes := #[] }, { accessFlags := 0, nameIndex := 13, descriptorIndex := 125, attributes := #[] }, { accessFlags := 1, nameIndex := 381, descriptorIndex := 125, attributes := #[] }, { accessFlags := 2, nameIndex := 133, descriptorIndex := 134, attributes := #[] }, { accessFlags := 1, nameIndex := 133, descriptorIndex := 96, attributes := #[] }] 33 2 #[148, 329, 331, 333] #[{ accessFlags := 26, nameIndex := 335, descriptorIndex := 336, attributes := #[] }, { accessFlags := 26, nameIndex := 340, descriptorIndex := 51, attributes := #[] }, { accessFlags := 26, nameIndex := 17, descriptorIndex := 14, attributes := #[] }, { accessFlags := 26, nameIndex := 41, descriptorIndex := 14, attributes := #[] }, { accessFlags := 128, nameIndex := 13, descriptorIndex := 14, attributes := #[] }, { accessFlags := 2, nameIndex := 50, descriptorIndex := 51, attributes := #[] }])
  fields := #[{ name := "serialVersionUID", type := .long, accessFlags := 26, slot := 0, constantValue := 0 }, { name := "DEFAULT_CAPACITY", type := .int, accessFlags := 26, slot := 1, constantValue := 0 }, { name := "EMPTY_ELEMENTDATA", type := (.array (.object "java/lang/Object")), accessFlags := 26, slot := 2, constantValue := 0 }, { name := "DEFAULTCAPACITY_EMPTY_ELEMENTDATA", type := (.array (.object "java/lang/Object")), accessFlags := 26, slot := 3, constantValue := 0 }, { name := "elementData", type := (.array (.object "java/lang/Object")), accessFlags := 128, slot := 1, constantValue := 0 }, { name := "size", type := .int, accessFlags := 2, slot := 2, constantValue := 0 }]
  methods := #[k16m0, k16m1, k16m2, k16m3, k16m4, k16m5, k16m6, k16m7]
  instanceTypes := #[.int, (.array (.object "java/lang/Object")), .int]
  staticTypes := #[.long, .int, (.array (.object "java/lang/Object")), (.array (.object "java/lang/Object"))]
  resolved := Array.replicate 509 none
  statics := some 1 }

def pool17 : Array CpInfo := pool [(1, .methodref 2 3), (0, .class_ 4), (0, .nameAndType 5 6), (0, u "java/lang/Object"), (0, u "<init>"), (0, u "()V"), (0, .class_ 8), (0, u "java/lang/Record")] 13

def k17c0 : Code := { maxStack := 1, maxLocals := 1, code := jdk_30_method_1_code, exceptionTable := #[], attributes := #[] }
def k17m0 : Method := { name := "<init>", desc := "()V", sig := { parameters := [], returnType := none }, accessFlags := 4, code := some k17c0 }
/-- java/lang/Record -/
def k17 : Class := { plain "java/lang/Record" (some 0) with
  accessFlags := 1057
  interfaces := #[]
  cf := some (fileOf pool17 7 #[] #[{ accessFlags := 4, nameIndex := 5, descriptorIndex := 6, attributes := #[] }] 1057 2 #[] #[])
  fields := #[]
  methods := #[k17m0]
  instanceTypes := #[]
  staticTypes := #[]
  resolved := Array.replicate 22 none
  statics := none }

def pool18 : Array CpInfo := pool [(1, .methodref 2 3), (0, .class_ 4), (0, .nameAndType 5 6), (0, u "java/lang/Record"), (0, u "<init>"), (0, u "()V"), (0, .fieldref 8 9), (0, .class_ 10), (0, .nameAndType 11 12), (0, u "com/example/portcullis/portcullis/http/GateDecision"), (0, u "status"), (0, u "I"), (0, .fieldref 8 14), (0, .nameAndType 15 16), (0, u "identity"), (0, u "Ljava/util/Optional;"), (0, .fieldref 8 18), (0, .nameAndType 19 16), (0, u "mechanism"), (0, .fieldref 8 21), (0, .nameAndType 22 23), (0, u "challenges"), (0, u "Ljava/util/List;"), (3, .class_ 29), (1, u "java/util/Optional"), (6, u "()Ljava/util/List;"), (0, .methodref 8 38), (0, .nameAndType 5 39), (0, u "(ILjava/util/Optional;Ljava/util/Optional;Ljava/util/List;)V"), (0, .methodref 27 41), (0, .nameAndType 42 43), (0, u "empty"), (0, u "()Ljava/util/Optional;"), (24, u "challenged"), (0, u "(Ljava/util/List;)Lcom/example/portcullis/portcullis/http/GateDecision;"), (5, u "()I")] 32

def k18c0 : Code := { maxStack := 2, maxLocals := 5, code := prog_28_method_1_code, exceptionTable := #[], attributes := #[] }
def k18m0 : Method := { name := "<init>", desc := "(ILjava/util/Optional;Ljava/util/Optional;Ljava/util/List;)V", sig := { parameters := [.int, (.object "java/util/Optional"), (.object "java/util/Optional"), (.object "java/util/List")], returnType := none }, accessFlags := 1, code := some k18c0 }
def k18c1 : Code := { maxStack := 6, maxLocals := 1, code := prog_28_method_4_code, exceptionTable := #[], attributes := #[] }
def k18m1 : Method := { name := "challenged", desc := "(Ljava/util/List;)Lcom/example/portcullis/portcullis/http/GateDecision;", sig := { parameters := [(.object "java/util/List")], returnType := some (.object "com/example/portcullis/portcullis/http/GateDecision") }, accessFlags := 8, code := some k18c1 }
def k18c2 : Code := { maxStack := 1, maxLocals := 1, code := prog_28_method_11_code, exceptionTable := #[], attributes := #[] }
def k18m2 : Method := { name := "status", desc := "()I", sig := { parameters := [], returnType := some .int }, accessFlags := 1, code := some k18c2 }
def k18c3 : Code := { maxStack := 1, maxLocals := 1, code := prog_28_method_12_code, exceptionTable := #[], attributes := #[] }
def k18m3 : Method := { name := "identity", desc := "()Ljava/util/Optional;", sig := { parameters := [], returnType := some (.object "java/util/Optional") }, accessFlags := 1, code := some k18c3 }
def k18c4 : Code := { maxStack := 1, maxLocals := 1, code := prog_28_method_13_code, exceptionTable := #[], attributes := #[] }
def k18m4 : Method := { name := "mechanism", desc := "()Ljava/util/Optional;", sig := { parameters := [], returnType := some (.object "java/util/Optional") }, accessFlags := 1, code := some k18c4 }
def k18c5 : Code := { maxStack := 1, maxLocals := 1, code := prog_28_method_14_code, exceptionTable := #[], attributes := #[] }
def k18m5 : Method := { name := "challenges", desc := "()Ljava/util/List;", sig := { parameters := [], returnType := some (.object "java/util/List") }, accessFlags := 1, code := some k18c5 }
/-- com/example/portcullis/portcullis/http/GateDecision -/
def k18 : Class := { plain "com/example/portcullis/portcullis/http/GateDecision" (some 17) with
  accessFlags := 49
  interfaces := #[]
  cf := some (fileOf pool18 8 #[] #[{ accessFlags := 1, nameIndex := 5, descriptorIndex := 39, attributes := #[] }, { accessFlags := 8, nameIndex := 68, descriptorIndex := 69, attributes := #[] }, { accessFlags := 1, nameIndex := 11, descriptorIndex := 75, attributes := #[] }, { accessFlags := 1, nameIndex := 15, descriptorIndex := 43, attributes := #[] }, { accessFlags := 1, nameIndex := 19, descriptorIndex := 43, attributes := #[] }, { accessFlags := 1, nameIndex := 22, descriptorIndex := 36, attributes := #[] }] 49 2 #[] #[{ accessFlags := 18, nameIndex := 11, descriptorIndex := 12, attributes := #[] }, { accessFlags := 18, nameIndex := 15, descriptorIndex := 16, attributes := #[] }, { accessFlags := 18, nameIndex := 19, descriptorIndex := 16, attributes := #[] }, { accessFlags := 18, nameIndex := 22, descriptorIndex := 23, attributes := #[] }])
  fields := #[{ name := "status", type := .int, accessFlags := 18, slot := 0, constantValue := 0 }, { name := "identity", type := (.object "java/util/Optional"), accessFlags := 18, slot := 1, constantValue := 0 }, { name := "mechanism", type := (.object "java/util/Optional"), accessFlags := 18, slot := 2, constantValue := 0 }, { name := "challenges", type := (.object "java/util/List"), accessFlags := 18, slot := 3, constantValue := 0 }]
  methods := #[k18m0, k18m1, k18m2, k18m3, k18m4, k18m5]
  instanceTypes := #[.int, (.object "java/util/Optional"), (.object "java/util/Optional"), (.object "java/util/List")]
  staticTypes := #[]
  resolved := Array.replicate 108 none
  statics := none }

def pool19 : Array CpInfo := pool [(1, .fieldref 2 3), (0, .class_ 4), (0, .nameAndType 5 6), (0, u "java/util/Optional"), (0, u "EMPTY"), (0, u "Ljava/util/Optional;"), (1, .class_ 10), (1, u "java/lang/Object"), (2, .fieldref 2 14), (0, .nameAndType 15 16), (0, u "value"), (0, u "Ljava/lang/Object;"), (29, u "()Z"), (8, u "empty"), (0, u "()Ljava/util/Optional;"), (11, u "isPresent")] 118

def k19c0 : Code := { maxStack := 1, maxLocals := 1, code := jdk_32_method_1_code, exceptionTable := #[], attributes := #[] }
def k19m0 : Method := { name := "empty", desc := "()Ljava/util/Optional;", sig := { parameters := [], returnType := some (.object "java/util/Optional") }, accessFlags := 9, code := some k19c0 }
def k19c1 : Code := { maxStack := 1, maxLocals := 1, code := jdk_32_method_6_code, exceptionTable := #[], attributes := #[] }
def k19m1 : Method := { name := "isPresent", desc := "()Z", sig := { parameters := [], returnType := some .boolean }, accessFlags := 1, code := some k19c1 }
/-- java/util/Optional -/
def k19 : Class := { plain "java/util/Optional" (some 0) with
  accessFlags := 49
  interfaces := #[]
  cf := some (fileOf pool19 2 #[] #[{ accessFlags := 9, nameIndex := 55, descriptorIndex := 56, attributes := #[] }, { accessFlags := 1, nameIndex := 68, descriptorIndex := 46, attributes := #[] }] 49 8 #[] #[{ accessFlags := 26, nameIndex := 5, descriptorIndex := 6, attributes := #[] }, { accessFlags := 18, nameIndex := 15, descriptorIndex := 16, attributes := #[] }])
  fields := #[{ name := "EMPTY", type := (.object "java/util/Optional"), accessFlags := 26, slot := 0, constantValue := 0 }, { name := "value", type := (.object "java/lang/Object"), accessFlags := 18, slot := 0, constantValue := 0 }]
  methods := #[k19m0, k19m1]
  instanceTypes := #[(.object "java/lang/Object")]
  staticTypes := #[(.object "java/util/Optional")]
  resolved := Array.replicate 187 none
  statics := some 2 }

def pool20 : Array CpInfo := pool [(1, .class_ 2), (0, u "java/lang/Math"), (1, .class_ 6), (1, u "java/lang/Object"), (0, u "<init>"), (0, u "()V"), (89, .class_ 100), (1, u "java/lang/Math$RandomNumberGeneratorHolder"), (71, u "negativeZeroFloatBits"), (0, u "J"), (2, u "negativeZeroDoubleBits"), (21, u "max"), (46, u "$assertionsDisabled"), (0, u "Z"), (88, u "(II)I"), (2, u "twoToTheDoubleScaleDown"), (0, u "D"), (4, u "twoToTheDoubleScaleUp"), (9, u "E"), (3, u "PI"), (2, u "TAU"), (2, u "DEGREES_TO_RADIANS"), (0, u "RADIANS_TO_DEGREES")] 94

def k20m0 : Method := { name := "<init>", desc := "()V", sig := { parameters := [], returnType := none }, accessFlags := 2, code := none }
def k20c1 : Code := { maxStack := 2, maxLocals := 2, code := jdk_29_method_65_code, exceptionTable := #[], attributes := #[] }
def k20m1 : Method := { name := "max", desc := "(II)I", sig := { parameters := [.int, .int], returnType := some .int }, accessFlags := 9, code := some k20c1 }
/-- java/lang/Math -/
def k20 : Class := { plain "java/lang/Math" (some 0) with
  accessFlags := 49
  interfaces := #[]
  cf := some (fileOf pool20 1 #[.nestMembers #[98]] #[{ accessFlags := 2, nameIndex := 7, descriptorIndex := 8, attributes := #[] }, { accessFlags := 9, nameIndex := 198, descriptorIndex := 335, attributes := #[] }] 49 4 #[] #[{ accessFlags := 25, nameIndex := 354, descriptorIndex := 339, attributes := #[] }, { accessFlags := 25, nameIndex := 358, descriptorIndex := 339, attributes := #[] }, { accessFlags := 25, nameIndex := 361, descriptorIndex := 339, attributes := #[] }, { accessFlags := 26, nameIndex := 364, descriptorIndex := 339, attributes := #[] }, { accessFlags := 26, nameIndex := 365, descriptorIndex := 339, attributes := #[] }, { accessFlags := 26, nameIndex := 172, descriptorIndex := 173, attributes := #[] }, { accessFlags := 26, nameIndex := 176, descriptorIndex := 173, attributes := #[] }, { accessFlags := 8, nameIndex := 344, descriptorIndex := 339, attributes := #[] }, { accessFlags := 8, nameIndex := 338, descriptorIndex := 339, attributes := #[] }, { accessFlags := 4120, nameIndex := 245, descriptorIndex := 246, attributes := #[] }])
  fields := #[{ name := "E", type := .double, accessFlags := 25, slot := 0, constantValue := 0 }, { name := "PI", type := .double, accessFlags := 25, slot := 1, constantValue := 0 }, { name := "TAU", type := .double, accessFlags := 25, slot := 2, constantValue := 0 }, { name := "DEGREES_TO_RADIANS", type := .double, accessFlags := 26, slot := 3, constantValue := 0 }, { name := "RADIANS_TO_DEGREES", type := .double, accessFlags := 26, slot := 4, constantValue := 0 }, { name := "negativeZeroFloatBits", type := .long, accessFlags := 26, slot := 5, constantValue := 0 }, { name := "negativeZeroDoubleBits", type := .long, accessFlags := 26, slot := 6, constantValue := 0 }, { name := "twoToTheDoubleScaleUp", type := .double, accessFlags := 8, slot := 7, constantValue := 0 }, { name := "twoToTheDoubleScaleDown", type := .double, accessFlags := 8, slot := 8, constantValue := 0 }, { name := "$assertionsDisabled", type := .boolean, accessFlags := 4120, slot := 9, constantValue := 0 }]
  methods := #[k20m0, k20m1]
  instanceTypes := #[]
  staticTypes := #[.double, .double, .double, .double, .double, .long, .long, .double, .double, .boolean]
  resolved := Array.replicate 460 none
  statics := none }

def pool21 : Array CpInfo := pool [(2, .class_ 4), (1, u "java/lang/Object"), (0, u "<init>"), (0, u "()V"), (35, .class_ 44), (1, u "java/util/Objects"), (60, .methodref 106 107), (0, .class_ 108), (0, .nameAndType 109 110), (0, u "jdk/internal/util/Preconditions"), (0, u "checkIndex"), (0, u "(IILjava/util/function/BiFunction;)I"), (60, u "(II)I")] 12

def k21m0 : Method := { name := "<init>", desc := "()V", sig := { parameters := [], returnType := none }, accessFlags := 2, code := none }
def k21c1 : Code := { maxStack := 3, maxLocals := 2, code := jdk_31_method_17_code, exceptionTable := #[], attributes := #[] }
def k21m1 : Method := { name := "checkIndex", desc := "(II)I", sig := { parameters := [.int, .int], returnType := some .int }, accessFlags := 9, code := some k21c1 }
/-- java/util/Objects -/
def k21 : Class := { plain "java/util/Objects" (some 0) with
  accessFlags := 49
  interfaces := #[]
  cf := some (fileOf pool21 42 #[] #[{ accessFlags := 2, nameIndex := 5, descriptorIndex := 6, attributes := #[] }, { accessFlags := 9, nameIndex := 109, descriptorIndex := 171, attributes := #[] }] 49 2 #[] #[])
  fields := #[]
  methods := #[k21m0, k21m1]
  instanceTypes := #[]
  staticTypes := #[]
  resolved := Array.replicate 184 none
  statics := none }

def pool22 : Array CpInfo := pool [(2, .class_ 4), (1, u "java/lang/Object"), (0, u "<init>"), (0, u "()V"), (17, .class_ 26), (1, u "jdk/internal/util/Preconditions"), (6, u "checkIndex"), (21, .class_ 56), (0, u "jdk/internal/util/Preconditions$4"), (57, .class_ 115), (0, u "jdk/internal/util/Preconditions$1"), (7, u "SIOOBE_FORMATTER"), (0, u "Ljava/util/function/BiFunction;"), (0, .class_ 126), (0, u "jdk/internal/util/Preconditions$2"), (3, u "AIOOBE_FORMATTER"), (0, .class_ 132), (0, u "jdk/internal/util/Preconditions$3"), (3, u "IOOBE_FORMATTER"), (41, u "(IILjava/util/function/BiFunction;)I")] 15

def k22m0 : Method := { name := "<init>", desc := "()V", sig := { parameters := [], returnType := none }, accessFlags := 1, code := none }
def k22c1 : Code := { maxStack := 3, maxLocals := 3, code := jdk_41_method_11_code, exceptionTable := #[], attributes := #[] }
def k22m1 : Method := { name := "checkIndex", desc := "(IILjava/util/function/BiFunction;)I", sig := { parameters := [.int, .int, (.object "java/util/function/BiFunction")], returnType := some .int }, accessFlags := 9, code := some k22c1 }
/-- jdk/internal/util/Preconditions -/
def k22 : Class := { plain "jdk/internal/util/Preconditions" (some 0) with
  accessFlags := 33
  interfaces := #[]
  cf := some (fileOf pool22 24 #[.nestMembers #[55, 131, 125, 114]] #[{ accessFlags := 1, nameIndex := 5, descriptorIndex := 6, attributes := #[] }, { accessFlags := 9, nameIndex := 33, descriptorIndex := 178, attributes := #[] }] 33 2 #[] #[{ accessFlags := 25, nameIndex := 123, descriptorIndex := 124, attributes := #[] }, { accessFlags := 25, nameIndex := 130, descriptorIndex := 124, attributes := #[] }, { accessFlags := 25, nameIndex := 136, descriptorIndex := 124, attributes := #[] }])
  fields := #[{ name := "SIOOBE_FORMATTER", type := (.object "java/util/function/BiFunction"), accessFlags := 25, slot := 0, constantValue := 0 }, { name := "AIOOBE_FORMATTER", type := (.object "java/util/function/BiFunction"), accessFlags := 25, slot := 1, constantValue := 0 }, { name := "IOOBE_FORMATTER", type := (.object "java/util/function/BiFunction"), accessFlags := 25, slot := 2, constantValue := 0 }]
  methods := #[k22m0, k22m1]
  instanceTypes := #[]
  staticTypes := #[(.object "java/util/function/BiFunction"), (.object "java/util/function/BiFunction"), (.object "java/util/function/BiFunction")]
  resolved := Array.replicate 194 none
  statics := some 3 }

def pool23 : Array CpInfo := pool [(6, .class_ 8), (1, u "java/lang/Object"), (0, u "<init>"), (0, u "()V"), (1, .class_ 14), (1, u "java/lang/StringUTF16"), (31, u "$assertionsDisabled"), (0, u "Z"), (13, u "HI_BYTE_SHIFT"), (0, u "I"), (2, u "LO_BYTE_SHIFT"), (49, .methodref 12 116), (0, .nameAndType 117 118), (0, u "compress"), (0, u "([CI[BII)I"), (3, u "([CII)[B"), (138, u "coderFromArrayLen"), (0, u "([BI)B"), (106, .class_ 371), (1, u "java/lang/StringUTF16$LinesSpliterator"), (58, u "MAX_LENGTH"), (196, .class_ 628), (0, u "java/lang/StringUTF16$CodePointsSpliterator"), (0, .class_ 630), (0, u "java/lang/StringUTF16$CharsSpliterator")] 4

def k23m0 : Method := { name := "<init>", desc := "()V", sig := { parameters := [], returnType := none }, accessFlags := 0, code := none }
def k23c1 : Code := { maxStack := 2, maxLocals := 2, code := jdk_52_method_15_code, exceptionTable := #[], attributes := #[] }
def k23m1 : Method := { name := "coderFromArrayLen", desc := "([BI)B", sig := { parameters := [(.array .byte), .int], returnType := some .byte }, accessFlags := 8, code := some k23c1 }
def k23c2 : Code := { maxStack := 5, maxLocals := 6, code := jdk_52_method_16_code, exceptionTable := #[], attributes := #[] }
def k23m2 : Method := { name := "compress", desc := "([CII)[B", sig := { parameters := [(.array .char), .int, .int], returnType := some (.array .byte) }, accessFlags := 9, code := some k23c2 }
def k23c3 : Code := { maxStack := 3, maxLocals := 7, code := jdk_52_method_21_code, exceptionTable := #[], attributes := #[] }
def k23m3 : Method := { name := "compress", desc := "([CI[BII)I", sig := { parameters := [(.array .char), .int, (.array .byte), .int, .int], returnType := some .int }, accessFlags := 9, code := some k23c3 }
/-- java/lang/StringUTF16 -/
def k23 : Class := { plain "java/lang/StringUTF16" (some 0) with
  accessFlags := 48
  interfaces := #[]
  cf := some (fileOf pool23 12 #[.nestMembers #[627, 629, 369]] #[{ accessFlags := 0, nameIndex := 9, descriptorIndex := 10, attributes := #[] }, { accessFlags := 8, nameIndex := 261, descriptorIndex := 262, attributes := #[] }, { accessFlags := 9, nameIndex := 117, descriptorIndex := 122, attributes := #[] }, { accessFlags := 9, nameIndex := 117, descriptorIndex := 118, attributes := #[] }] 48 6 #[] #[{ accessFlags := 26, nameIndex := 61, descriptorIndex := 62, attributes := #[] }, { accessFlags := 26, nameIndex := 65, descriptorIndex := 62, attributes := #[] }, { accessFlags := 24, nameIndex := 430, descriptorIndex := 62, attributes := #[] }, { accessFlags := 4120, nameIndex := 46, descriptorIndex := 47, attributes := #[] }])
  fields := #[{ name := "HI_BYTE_SHIFT", type := .int, accessFlags := 26, slot := 0, constantValue := 0 }, { name := "LO_BYTE_SHIFT", type := .int, accessFlags := 26, slot := 1, constantValue := 0 }, { name := "MAX_LENGTH", type := .int, accessFlags := 24, slot := 2, constantValue := 0 }, { name := "$assertionsDisabled", type := .boolean, accessFlags := 4120, slot := 3, constantValue := 0 }]
  methods := #[k23m0, k23m1, k23m2, k23m3]
  instanceTypes := #[]
  staticTypes := #[.int, .int, .int, .boolean]
  resolved := Array.replicate 635 none
  statics := none }

def pool24 : Array CpInfo := pool [(4, .class_ 6), (1, u "java/lang/Object"), (0, u "<init>"), (0, u "()V"), (5, .class_ 16), (1, u "java/lang/StringLatin1"), (104, u "$assertionsDisabled"), (0, u "Z"), (98, .class_ 223), (1, u "java/lang/StringLatin1$LinesSpliterator"), (166, .class_ 391), (0, u "java/lang/StringLatin1$CharsSpliterator")] 3

def k24m0 : Method := { name := "<init>", desc := "()V", sig := { parameters := [], returnType := none }, accessFlags := 0, code := none }
/-- java/lang/StringLatin1 -/
def k24 : Class := { plain "java/lang/StringLatin1" (some 0) with
  accessFlags := 48
  interfaces := #[]
  cf := some (fileOf pool24 14 #[.nestMembers #[390, 221]] #[{ accessFlags := 0, nameIndex := 7, descriptorIndex := 8, attributes := #[] }] 48 4 #[] #[{ accessFlags := 4120, nameIndex := 121, descriptorIndex := 122, attributes := #[] }])
  fields := #[{ name := "$assertionsDisabled", type := .boolean, accessFlags := 4120, slot := 0, constantValue := 0 }]
  methods := #[k24m0]
  instanceTypes := #[]
  staticTypes := #[.boolean]
  resolved := Array.replicate 395 none
  statics := none }

def pool25 : Array CpInfo := pool [(9, u "<init>"), (6, .class_ 18), (1, u "java/lang/Object"), (0, u "()V"), (1, .class_ 23), (1, u "jdk/internal/util/ArraysSupport"), (0, u "LOG2_ARRAY_LONG_INDEX_SCALE"), (0, u "I"), (2, u "U"), (0, u "Ljdk/internal/misc/Unsafe;"), (8, u "BIG_ENDIAN"), (0, u "Z"), (8, u "LOG2_BYTE_BIT_SIZE"), (4, u "LOG2_ARRAY_INT_INDEX_SCALE"), (54, u "JLA"), (0, u "Ljdk/internal/access/JavaLangAccess;"), (11, u "LOG2_ARRAY_BOOLEAN_INDEX_SCALE"), (9, u "LOG2_ARRAY_BYTE_INDEX_SCALE"), (5, u "LOG2_ARRAY_CHAR_INDEX_SCALE"), (5, u "LOG2_ARRAY_SHORT_INDEX_SCALE"), (18, u "LOG2_ARRAY_FLOAT_INDEX_SCALE"), (24, u "LOG2_ARRAY_DOUBLE_INDEX_SCALE"), (89, u "T_BOOLEAN"), (2, u "T_CHAR"), (1, u "T_FLOAT"), (1, u "T_DOUBLE"), (1, u "T_BYTE"), (1, u "T_SHORT"), (1, u "T_INT"), (1, u "T_LONG"), (1, u "SOFT_MAX_ARRAY_LENGTH")] 83

def k25m0 : Method := { name := "<init>", desc := "()V", sig := { parameters := [], returnType := none }, accessFlags := 2, code := none }
/-- jdk/internal/util/ArraysSupport -/
def k25 : Class := { plain "jdk/internal/util/ArraysSupport" (some 0) with
  accessFlags := 33
  interfaces := #[]
  cf := some (fileOf pool25 21 #[] #[{ accessFlags := 2, nameIndex := 9, descriptorIndex := 19, attributes := #[] }] 33 16 #[] #[{ accessFlags := 24, nameIndex := 28, descriptorIndex := 29, attributes := #[] }, { accessFlags := 26, nameIndex := 38, descriptorIndex := 39, attributes := #[] }, { accessFlags := 25, nameIndex := 121, descriptorIndex := 25, attributes := #[] }, { accessFlags := 25, nameIndex := 131, descriptorIndex := 25, attributes := #[] }, { accessFlags := 25, nameIndex := 137, descriptorIndex := 25, attributes := #[] }, { accessFlags := 25, nameIndex := 143, descriptorIndex := 25, attributes := #[] }, { accessFlags := 25, nameIndex := 53, descriptorIndex := 25, attributes := #[] }, { accessFlags := 25, nameIndex := 24, descriptorIndex := 25, attributes := #[] }, { accessFlags := 25, nameIndex := 162, descriptorIndex := 25, attributes := #[] }, { accessFlags := 25, nameIndex := 187, descriptorIndex := 25, attributes := #[] }, { accessFlags := 26, nameIndex := 48, descriptorIndex := 25, attributes := #[] }, { accessFlags := 25, nameIndex := 277, descriptorIndex := 25, attributes := #[] }, { accessFlags := 25, nameIndex := 280, descriptorIndex := 25, attributes := #[] }, { accessFlags := 25, nameIndex := 282, descriptorIndex := 25, attributes := #[] }, { accessFlags := 25, nameIndex := 284, descriptorIndex := 25, attributes := #[] }, { accessFlags := 25, nameIndex := 286, descriptorIndex := 25, attributes := #[] }, { accessFlags := 25, nameIndex := 288, descriptorIndex := 25, attributes := #[] }, { accessFlags := 25, nameIndex := 290, descriptorIndex := 25, attributes := #[] }, { accessFlags := 25, nameIndex := 292, descriptorIndex := 25, attributes := #[] }, { accessFlags := 26, nameIndex := 108, descriptorIndex := 109, attributes := #[] }, { accessFlags := 25, nameIndex := 294, descriptorIndex := 25, attributes := #[] }])
  fields := #[{ name := "U", type := (.object "jdk/internal/misc/Unsafe"), accessFlags := 24, slot := 0, constantValue := 0 }, { name := "BIG_ENDIAN", type := .boolean, accessFlags := 26, slot := 1, constantValue := 0 }, { name := "LOG2_ARRAY_BOOLEAN_INDEX_SCALE", type := .int, accessFlags := 25, slot := 2, constantValue := 0 }, { name := "LOG2_ARRAY_BYTE_INDEX_SCALE", type := .int, accessFlags := 25, slot := 3, constantValue := 0 }, { name := "LOG2_ARRAY_CHAR_INDEX_SCALE", type := .int, accessFlags := 25, slot := 4, constantValue := 0 }, { name := "LOG2_ARRAY_SHORT_INDEX_SCALE", type := .int, accessFlags := 25, slot := 5, constantValue := 0 }, { name := "LOG2_ARRAY_INT_INDEX_SCALE", type := .int, accessFlags := 25, slot := 6, constantValue := 0 }, { name := "LOG2_ARRAY_LONG_INDEX_SCALE", type := .int, accessFlags := 25, slot := 7, constantValue := 0 }, { name := "LOG2_ARRAY_FLOAT_INDEX_SCALE", type := .int, accessFlags := 25, slot := 8, constantValue := 0 }, { name := "LOG2_ARRAY_DOUBLE_INDEX_SCALE", type := .int, accessFlags := 25, slot := 9, constantValue := 0 }, { name := "LOG2_BYTE_BIT_SIZE", type := .int, accessFlags := 26, slot := 10, constantValue := 0 }, { name := "T_BOOLEAN", type := .int, accessFlags := 25, slot := 11, constantValue := 0 }, { name := "T_CHAR", type := .int, accessFlags := 25, slot := 12, constantValue := 0 }, { name := "T_FLOAT", type := .int, accessFlags := 25, slot := 13, constantValue := 0 }, { name := "T_DOUBLE", type := .int, accessFlags := 25, slot := 14, constantValue := 0 }, { name := "T_BYTE", type := .int, accessFlags := 25, slot := 15, constantValue := 0 }, { name := "T_SHORT", type := .int, accessFlags := 25, slot := 16, constantValue := 0 }, { name := "T_INT", type := .int, accessFlags := 25, slot := 17, constantValue := 0 }, { name := "T_LONG", type := .int, accessFlags := 25, slot := 18, constantValue := 0 }, { name := "JLA", type := (.object "jdk/internal/access/JavaLangAccess"), accessFlags := 26, slot := 19, constantValue := 0 }, { name := "SOFT_MAX_ARRAY_LENGTH", type := .int, accessFlags := 25, slot := 20, constantValue := 0 }]
  methods := #[k25m0]
  instanceTypes := #[]
  staticTypes := #[(.object "jdk/internal/misc/Unsafe"), .boolean, .int, .int, .int, .int, .int, .int, .int, .int, .int, .int, .int, .int, .int, .int, .int, .int, .int, (.object "jdk/internal/access/JavaLangAccess"), .int]
  resolved := Array.replicate 378 none
  statics := none }

/-- the primitive byte -/
def k26 : Class := { plain "byte" none with kind := .primitive 'B', accessFlags := 0x411 }
/-- [B -/
def k27 : Class := { plain "[B" (some 0) with kind := .array 26 .byte, interfaces := #[15, 2], accessFlags := 1041 }

/-- the primitive char -/
def k28 : Class := { plain "char" none with kind := .primitive 'C', accessFlags := 0x411 }
/-- [C -/
def k29 : Class := { plain "[C" (some 0) with kind := .array 28 .char, interfaces := #[15, 2], accessFlags := 1041 }

/-- the primitive int -/
def k30 : Class := { plain "int" none with kind := .primitive 'I', accessFlags := 0x411 }
/-- [I -/
def k31 : Class := { plain "[I" (some 0) with kind := .array 30 .int, interfaces := #[15, 2], accessFlags := 1041 }

/-- [Ljava/lang/Object; -/
def k32 : Class := { plain "[Ljava/lang/Object;" (some 0) with kind := .array 0 (.object "java/lang/Object"), interfaces := #[15, 2], accessFlags := 1041 }

def heap : Heap := #[{ cls := 7, slots := #[.long 0, .int 1, .null, .int 0, .null, .int 0, .int 0], vm := .statics 7 },
  { cls := 16, slots := #[.long 0, .int 0, .ref 4, .ref 5], vm := .statics 16 },
  { cls := 19, slots := #[.ref 6], vm := .statics 19 },
  { cls := 22, slots := #[.null, .null, .null], vm := .statics 22 },
  { cls := 32, slots := #[], vm := .none },
  { cls := 32, slots := #[], vm := .none },
  { cls := 19, slots := #[.null], vm := .none }]
def classes : Array Class := #[k0, k1, k2, k3, k4, k5, k6, k7, k8, k9, k10, k11, k12, k13, k14, k15, k16, k17, k18, k19, k20, k21, k22, k23, k24, k25, k26, k27, k28, k29, k30, k31, k32]
def interned : List (Array UInt16 × Addr) := []
def slotsUsed : Nat := 16
def theMethod : MethodId := ⟨1, 1⟩
def args0 : Array Value := #[.int 1, .int 65, .int 66, .int 67]
def aboutOver (below : List Frame) : State where
  vm := { classes := classes, interned := interned.toArray }
  heap := heap
  slotsUsed := slotsUsed
  threads := #[{ frames := .invoking theMethod args0 :: below }]
def below0 : List Frame := [.native { method := ⟨0, 0⟩, args := #[] }]
def about1 : State := aboutOver below0
def p0 : Program := .bare "" "" ""
def e0 : Env := launch0.env 0 0 0
theorem w_frames : about1.frames = Frame.invoking theMethod args0 :: below0 := rfl
set_option maxRecDepth 65536 in
theorem w_args : argsFit about1.vm theMethod args0 = true := by decide +kernel
set_option maxRecDepth 65536 in
theorem w_heap : heapFits about1 = true := by decide +kernel
set_option maxRecDepth 65536 in
theorem w_runnable : about1.curStatus? = some .runnable := by decide +kernel
set_option maxRecDepth 65536 in
theorem w_alone : about1.alone = true := by decide +kernel
set_option maxRecDepth 65536 in
theorem w_named : about1.methodNamed? x = some theMethod := by decide +kernel
set_option maxRecDepth 65536 in
theorem w_hears : about1.hears theMethod below0 = true := by decide +kernel
set_option maxRecDepth 65536 in
theorem w_ripe : about1.ripe theMethod args0 below0 = true := by decide +kernel
theorem w_running : about1.status = .running := rfl
set_option maxRecDepth 65536 in
theorem w_room : about1.hasRoom e0.platform room_1 = true :=
  launch0.hasRoom_least _ room_1 (by decide +kernel) (by decide +kernel) (by decide +kernel) (by decide +kernel) (by decide +kernel) (by decide +kernel)
theorem allAtoms_all (ts : List Jvm.Cond) (a : Array Jvm.Value) (st : Jvm.State) : (allAtoms ts).before a st = ts.all (fun c => c.before a st) := by
  induction ts with
  | nil => rfl
  | cons c t ih =>
    show (Jvm.Cond.and c (allAtoms t)).before a st = _
    rw [Jvm.Cond.before_and, ih, List.all_cons]
def words1 : List Jvm.Cond := Jvm.Cond.code x code maxLocals ret :: tables_1
/-- a 'code' word, met by the world's own term for the bytes: nothing is compared byte by byte -/
theorem code_word {y : MethodName} {bytes : ByteArray} {mx : Nat} {rt : Option FieldType} {a : Array Value} {s : State} {m : MethodId} {meth : Method} {c : Code} (h1 : s.methodNamed? y = some m) (h2 : s.vm.method? m = some meth) (h3 : meth.code = some c) (h4 : c.code = bytes)
    (h5 : (c.maxLocals == mx && c.exceptionTable.isEmpty && decide (c.maxStack ≤ mostOperands) && decide (meth.sig.returnType = rt) && !meth.locks && decide (parseMethodDescriptor y.desc = some meth.sig)) = true) : (Jvm.Cond.code y bytes mx rt).before a s = true := by
  simp only [Bool.and_eq_true, beq_iff_eq, Bool.not_eq_true', decide_eq_true_eq] at h5
  obtain ⟨⟨⟨⟨⟨g1, g2⟩, g3⟩, g4⟩, g5⟩, g6⟩ := h5
  simp [Cond.before, Cond.holds, Cond.value, h1, h2, h3, h4, g1, g2, g3, g4, g5, g6]
def isCode : Jvm.Cond → Bool
  | .code _ _ _ _ => true
  | _ => false
theorem all_split {L : List Jvm.Cond} {P : Jvm.Cond → Bool} (h1 : L.all (fun c => isCode c || P c) = true) (h2 : ∀ c ∈ L.filter isCode, P c = true) : L.all P = true := by
  refine List.all_eq_true.mpr fun c hc => ?_
  have h := List.all_eq_true.mp h1 c hc
  rcases Bool.eq_false_or_eq_true (isCode c) with hi | hi
  · exact h2 c (List.mem_filter.mpr ⟨hc, hi⟩)
  · simpa [hi] using h
set_option maxRecDepth 65536 in
theorem w_c0 : (Jvm.Cond.code x code maxLocals ret).before args0 about1 = true := code_word (m := ⟨1, 1⟩) (meth := k1m1) (c := k1c1) (by decide +kernel) rfl rfl rfl (by decide +kernel)
set_option maxRecDepth 65536 in
theorem w_c1 : (Jvm.Cond.code ({ cls := "com/example/portcullis/portcullis/http/GateDecisionChallengedPinLaw", name := "mk", desc := "(I)Ljava/lang/String;" } : Jvm.MethodName) method_3_code (5 : Nat) (Option.some (Jvm.ClassFile.FieldType.object "java/lang/String"))).before args0 about1 = true := code_word (m := ⟨1, 2⟩) (meth := k1m2) (c := k1c2) (by decide +kernel) rfl rfl rfl (by decide +kernel)
set_option maxRecDepth 65536 in
theorem w_c2 : (Jvm.Cond.code ({ cls := "java/lang/String", name := "<init>", desc := "([C)V" } : Jvm.MethodName) jdk_42_method_3_code (2 : Nat) (Option.none : Option Jvm.ClassFile.FieldType)).before args0 about1 = true := code_word (m := ⟨7, 1⟩) (meth := k7m1) (c := k7c1) (by decide +kernel) rfl rfl rfl (by decide +kernel)
set_option maxRecDepth 65536 in
theorem w_c3 : (Jvm.Cond.code ({ cls := "java/lang/String", name := "<init>", desc := "([CIILjava/lang/Void;)V" } : Jvm.MethodName) jdk_42_method_149_code (6 : Nat) (Option.none : Option Jvm.ClassFile.FieldType)).before args0 about1 = true := code_word (m := ⟨7, 3⟩) (meth := k7m3) (c := k7c3) (by decide +kernel) rfl rfl rfl (by decide +kernel)
set_option maxRecDepth 65536 in
theorem w_c4 : (Jvm.Cond.code ({ cls := "java/lang/Object", name := "<init>", desc := "()V" } : Jvm.MethodName) object_method_1_code (1 : Nat) (Option.none : Option Jvm.ClassFile.FieldType)).before args0 about1 = true := code_word (m := ⟨0, 0⟩) (meth := k0m0) (c := k0c0) (by decide +kernel) rfl rfl rfl (by decide +kernel)
set_option maxRecDepth 65536 in
theorem w_c5 : (Jvm.Cond.code ({ cls := "java/util/ArrayList", name := "<init>", desc := "()V" } : Jvm.MethodName) jdk_38_method_2_code (1 : Nat) (Option.none : Option Jvm.ClassFile.FieldType)).before args0 about1 = true := code_word (m := ⟨16, 0⟩) (meth := k16m0) (c := k16c0) (by decide +kernel) rfl rfl rfl (by decide +kernel)
set_option maxRecDepth 65536 in
theorem w_c6 : (Jvm.Cond.code ({ cls := "java/util/AbstractList", name := "<init>", desc := "()V" } : Jvm.MethodName) jdk_39_method_1_code (1 : Nat) (Option.none : Option Jvm.ClassFile.FieldType)).before args0 about1 = true := code_word (m := ⟨13, 0⟩) (meth := k13m0) (c := k13c0) (by decide +kernel) rfl rfl rfl (by decide +kernel)
set_option maxRecDepth 65536 in
theorem w_c7 : (Jvm.Cond.code ({ cls := "java/util/AbstractCollection", name := "<init>", desc := "()V" } : Jvm.MethodName) jdk_22_method_1_code (1 : Nat) (Option.none : Option Jvm.ClassFile.FieldType)).before args0 about1 = true := code_word (m := ⟨10, 0⟩) (meth := k10m0) (c := k10c0) (by decide +kernel) rfl rfl rfl (by decide +kernel)
set_option maxRecDepth 65536 in
theorem w_c8 : (Jvm.Cond.code ({ cls := "com/example/portcullis/portcullis/http/GateDecision", name := "challenged", desc := "(Ljava/util/List;)Lcom/example/portcullis/portcullis/http/GateDecision;" } : Jvm.MethodName) prog_28_method_4_code (1 : Nat) (Option.some (Jvm.ClassFile.FieldType.object "com/example/portcullis/portcullis/http/GateDecision"))).before args0 about1 = true := code_word (m := ⟨18, 1⟩) (meth := k18m1) (c := k18c1) (by decide +kernel) rfl rfl rfl (by decide +kernel)
set_option maxRecDepth 65536 in
theorem w_c9 : (Jvm.Cond.code ({ cls := "java/util/Optional", name := "empty", desc := "()Ljava/util/Optional;" } : Jvm.MethodName) jdk_32_method_1_code (1 : Nat) (Option.some (Jvm.ClassFile.FieldType.object "java/util/Optional"))).before args0 about1 = true := code_word (m := ⟨19, 0⟩) (meth := k19m0) (c := k19c0) (by decide +kernel) rfl rfl rfl (by decide +kernel)
set_option maxRecDepth 65536 in
theorem w_c10 : (Jvm.Cond.code ({ cls := "com/example/portcullis/portcullis/http/GateDecision", name := "<init>", desc := "(ILjava/util/Optional;Ljava/util/Optional;Ljava/util/List;)V" } : Jvm.MethodName) prog_28_method_1_code (5 : Nat) (Option.none : Option Jvm.ClassFile.FieldType)).before args0 about1 = true := code_word (m := ⟨18, 0⟩) (meth := k18m0) (c := k18c0) (by decide +kernel) rfl rfl rfl (by decide +kernel)
set_option maxRecDepth 65536 in
theorem w_c11 : (Jvm.Cond.code ({ cls := "java/lang/Record", name := "<init>", desc := "()V" } : Jvm.MethodName) jdk_30_method_1_code (1 : Nat) (Option.none : Option Jvm.ClassFile.FieldType)).before args0 about1 = true := code_word (m := ⟨17, 0⟩) (meth := k17m0) (c := k17c0) (by decide +kernel) rfl rfl rfl (by decide +kernel)
set_option maxRecDepth 65536 in
theorem w_c12 : (Jvm.Cond.code ({ cls := "com/example/portcullis/portcullis/http/GateDecision", name := "status", desc := "()I" } : Jvm.MethodName) prog_28_method_11_code (1 : Nat) (Option.some Jvm.ClassFile.FieldType.int)).before args0 about1 = true := code_word (m := ⟨18, 2⟩) (meth := k18m2) (c := k18c2) (by decide +kernel) rfl rfl rfl (by decide +kernel)
set_option maxRecDepth 65536 in
theorem w_c13 : (Jvm.Cond.code ({ cls := "com/example/portcullis/portcullis/http/GateDecision", name := "identity", desc := "()Ljava/util/Optional;" } : Jvm.MethodName) prog_28_method_12_code (1 : Nat) (Option.some (Jvm.ClassFile.FieldType.object "java/util/Optional"))).before args0 about1 = true := code_word (m := ⟨18, 3⟩) (meth := k18m3) (c := k18c3) (by decide +kernel) rfl rfl rfl (by decide +kernel)
set_option maxRecDepth 65536 in
theorem w_c14 : (Jvm.Cond.code ({ cls := "java/util/Optional", name := "isPresent", desc := "()Z" } : Jvm.MethodName) jdk_32_method_6_code (1 : Nat) (Option.some Jvm.ClassFile.FieldType.boolean)).before args0 about1 = true := code_word (m := ⟨19, 1⟩) (meth := k19m1) (c := k19c1) (by decide +kernel) rfl rfl rfl (by decide +kernel)
set_option maxRecDepth 65536 in
theorem w_c15 : (Jvm.Cond.code ({ cls := "com/example/portcullis/portcullis/http/GateDecision", name := "mechanism", desc := "()Ljava/util/Optional;" } : Jvm.MethodName) prog_28_method_13_code (1 : Nat) (Option.some (Jvm.ClassFile.FieldType.object "java/util/Optional"))).before args0 about1 = true := code_word (m := ⟨18, 4⟩) (meth := k18m4) (c := k18c4) (by decide +kernel) rfl rfl rfl (by decide +kernel)
set_option maxRecDepth 65536 in
theorem w_c16 : (Jvm.Cond.code ({ cls := "com/example/portcullis/portcullis/http/GateDecision", name := "challenges", desc := "()Ljava/util/List;" } : Jvm.MethodName) prog_28_method_14_code (1 : Nat) (Option.some (Jvm.ClassFile.FieldType.object "java/util/List"))).before args0 about1 = true := code_word (m := ⟨18, 5⟩) (meth := k18m5) (c := k18c5) (by decide +kernel) rfl rfl rfl (by decide +kernel)
set_option maxRecDepth 65536 in
theorem w_c17 : (Jvm.Cond.code ({ cls := "java/util/ArrayList", name := "size", desc := "()I" } : Jvm.MethodName) jdk_38_method_8_code (1 : Nat) (Option.some Jvm.ClassFile.FieldType.int)).before args0 about1 = true := code_word (m := ⟨16, 3⟩) (meth := k16m3) (c := k16c3) (by decide +kernel) rfl rfl rfl (by decide +kernel)
set_option maxRecDepth 65536 in
theorem w_c18 : (Jvm.Cond.code ({ cls := "java/util/ArrayList", name := "add", desc := "(Ljava/lang/Object;)Z" } : Jvm.MethodName) jdk_38_method_25_code (2 : Nat) (Option.some Jvm.ClassFile.FieldType.boolean)).before args0 about1 = true := code_word (m := ⟨16, 7⟩) (meth := k16m7) (c := k16c7) (by decide +kernel) rfl rfl rfl (by decide +kernel)
set_option maxRecDepth 65536 in
theorem w_c19 : (Jvm.Cond.code ({ cls := "java/util/ArrayList", name := "add", desc := "(Ljava/lang/Object;[Ljava/lang/Object;I)V" } : Jvm.MethodName) jdk_38_method_24_code (4 : Nat) (Option.none : Option Jvm.ClassFile.FieldType)).before args0 about1 = true := code_word (m := ⟨16, 6⟩) (meth := k16m6) (c := k16c6) (by decide +kernel) rfl rfl rfl (by decide +kernel)
set_option maxRecDepth 65536 in
theorem w_c20 : (Jvm.Cond.code ({ cls := "java/util/ArrayList", name := "grow", desc := "()[Ljava/lang/Object;" } : Jvm.MethodName) jdk_38_method_7_code (1 : Nat) (Option.some (Jvm.ClassFile.FieldType.array (Jvm.ClassFile.FieldType.object "java/lang/Object")))).before args0 about1 = true := code_word (m := ⟨16, 2⟩) (meth := k16m2) (c := k16c2) (by decide +kernel) rfl rfl rfl (by decide +kernel)
set_option maxRecDepth 65536 in
theorem w_c21 : (Jvm.Cond.code ({ cls := "java/util/ArrayList", name := "grow", desc := "(I)[Ljava/lang/Object;" } : Jvm.MethodName) jdk_38_method_6_code (4 : Nat) (Option.some (Jvm.ClassFile.FieldType.array (Jvm.ClassFile.FieldType.object "java/lang/Object")))).before args0 about1 = true := code_word (m := ⟨16, 1⟩) (meth := k16m1) (c := k16c1) (by decide +kernel) rfl rfl rfl (by decide +kernel)
set_option maxRecDepth 65536 in
theorem w_c22 : (Jvm.Cond.code ({ cls := "java/lang/Math", name := "max", desc := "(II)I" } : Jvm.MethodName) jdk_29_method_65_code (2 : Nat) (Option.some Jvm.ClassFile.FieldType.int)).before args0 about1 = true := code_word (m := ⟨20, 1⟩) (meth := k20m1) (c := k20c1) (by decide +kernel) rfl rfl rfl (by decide +kernel)
set_option maxRecDepth 65536 in
theorem w_c23 : (Jvm.Cond.code ({ cls := "java/util/ArrayList", name := "get", desc := "(I)Ljava/lang/Object;" } : Jvm.MethodName) jdk_38_method_20_code (2 : Nat) (Option.some (Jvm.ClassFile.FieldType.object "java/lang/Object"))).before args0 about1 = true := code_word (m := ⟨16, 5⟩) (meth := k16m5) (c := k16c5) (by decide +kernel) rfl rfl rfl (by decide +kernel)
set_option maxRecDepth 65536 in
theorem w_c24 : (Jvm.Cond.code ({ cls := "java/util/Objects", name := "checkIndex", desc := "(II)I" } : Jvm.MethodName) jdk_31_method_17_code (2 : Nat) (Option.some Jvm.ClassFile.FieldType.int)).before args0 about1 = true := code_word (m := ⟨21, 1⟩) (meth := k21m1) (c := k21c1) (by decide +kernel) rfl rfl rfl (by decide +kernel)
set_option maxRecDepth 65536 in
theorem w_c25 : (Jvm.Cond.code ({ cls := "jdk/internal/util/Preconditions", name := "checkIndex", desc := "(IILjava/util/function/BiFunction;)I" } : Jvm.MethodName) jdk_41_method_11_code (3 : Nat) (Option.some Jvm.ClassFile.FieldType.int)).before args0 about1 = true := code_word (m := ⟨22, 1⟩) (meth := k22m1) (c := k22c1) (by decide +kernel) rfl rfl rfl (by decide +kernel)
set_option maxRecDepth 65536 in
theorem w_c26 : (Jvm.Cond.code ({ cls := "java/util/ArrayList", name := "elementData", desc := "(I)Ljava/lang/Object;" } : Jvm.MethodName) jdk_38_method_18_code (2 : Nat) (Option.some (Jvm.ClassFile.FieldType.object "java/lang/Object"))).before args0 about1 = true := code_word (m := ⟨16, 4⟩) (meth := k16m4) (c := k16c4) (by decide +kernel) rfl rfl rfl (by decide +kernel)
set_option maxRecDepth 65536 in
theorem w_c27 : (Jvm.Cond.code ({ cls := "java/lang/String", name := "equals", desc := "(Ljava/lang/Object;)Z" } : Jvm.MethodName) jdk_42_method_66_code (3 : Nat) (Option.some Jvm.ClassFile.FieldType.boolean)).before args0 about1 = true := code_word (m := ⟨7, 2⟩) (meth := k7m2) (c := k7c2) (by decide +kernel) rfl rfl rfl (by decide +kernel)
set_option maxRecDepth 65536 in
theorem w_c28 : (Jvm.Cond.code ({ cls := "java/lang/StringUTF16", name := "compress", desc := "([CII)[B" } : Jvm.MethodName) jdk_52_method_16_code (6 : Nat) (Option.some (Jvm.ClassFile.FieldType.array Jvm.ClassFile.FieldType.byte))).before args0 about1 = true := code_word (m := ⟨23, 2⟩) (meth := k23m2) (c := k23c2) (by decide +kernel) rfl rfl rfl (by decide +kernel)
set_option maxRecDepth 65536 in
theorem w_c29 : (Jvm.Cond.code ({ cls := "java/lang/StringUTF16", name := "compress", desc := "([CI[BII)I" } : Jvm.MethodName) jdk_52_method_21_code (7 : Nat) (Option.some Jvm.ClassFile.FieldType.int)).before args0 about1 = true := code_word (m := ⟨23, 3⟩) (meth := k23m3) (c := k23c3) (by decide +kernel) rfl rfl rfl (by decide +kernel)
set_option maxRecDepth 65536 in
theorem w_c30 : (Jvm.Cond.code ({ cls := "java/lang/StringUTF16", name := "coderFromArrayLen", desc := "([BI)B" } : Jvm.MethodName) jdk_52_method_15_code (2 : Nat) (Option.some Jvm.ClassFile.FieldType.byte)).before args0 about1 = true := code_word (m := ⟨23, 1⟩) (meth := k23m1) (c := k23c1) (by decide +kernel) rfl rfl rfl (by decide +kernel)
def codes1 : List Jvm.Cond := [Jvm.Cond.code x code maxLocals ret, Jvm.Cond.code ({ cls := "com/example/portcullis/portcullis/http/GateDecisionChallengedPinLaw", name := "mk", desc := "(I)Ljava/lang/String;" } : Jvm.MethodName) method_3_code (5 : Nat) (Option.some (Jvm.ClassFile.FieldType.object "java/lang/String")), Jvm.Cond.code ({ cls := "java/lang/String", name := "<init>", desc := "([C)V" } : Jvm.MethodName) jdk_42_method_3_code (2 : Nat) (Option.none : Option Jvm.ClassFile.FieldType), Jvm.Cond.code ({ cls := "java/lang/String", name := "<init>", desc := "([CIILjava/lang/Void;)V" } : Jvm.MethodName) jdk_42_method_149_code (6 : Nat) (Option.none : Option Jvm.ClassFile.FieldType), Jvm.Cond.code ({ cls := "java/lang/Object", name := "<init>", desc := "()V" } : Jvm.MethodName) object_method_1_code (1 : Nat) (Option.none : Option Jvm.ClassFile.FieldType), Jvm.Cond.code ({ cls := "java/util/ArrayList", name := "<init>", desc := "()V" } : Jvm.MethodName) jdk_38_method_2_code (1 : Nat) (Option.none : Option Jvm.ClassFile.FieldType), Jvm.Cond.code ({ cls := "java/util/AbstractList", name := "<init>", desc := "()V" } : Jvm.MethodName) jdk_39_method_1_code (1 : Nat) (Option.none : Option Jvm.ClassFile.FieldType), Jvm.Cond.code ({ cls := "java/util/AbstractCollection", name := "<init>", desc := "()V" } : Jvm.MethodName) jdk_22_method_1_code (1 : Nat) (Option.none : Option Jvm.ClassFile.FieldType), Jvm.Cond.code ({ cls := "com/example/portcullis/portcullis/http/GateDecision", name := "challenged", desc := "(Ljava/util/List;)Lcom/example/portcullis/portcullis/http/GateDecision;" } : Jvm.MethodName) prog_28_method_4_code (1 : Nat) (Option.some (Jvm.ClassFile.FieldType.object "com/example/portcullis/portcullis/http/GateDecision")), Jvm.Cond.code ({ cls := "java/util/Optional", name := "empty", desc := "()Ljava/util/Optional;" } : Jvm.MethodName) jdk_32_method_1_code (1 : Nat) (Option.some (Jvm.ClassFile.FieldType.object "java/util/Optional")), Jvm.Cond.code ({ cls := "com/example/portcullis/portcullis/http/GateDecision", name := "<init>", desc := "(ILjava/util/Optional;Ljava/util/Optional;Ljava/util/List;)V" } : Jvm.MethodName) prog_28_method_1_code (5 : Nat) (Option.none : Option Jvm.ClassFile.FieldType), Jvm.Cond.code ({ cls := "java/lang/Record", name := "<init>", desc := "()V" } : Jvm.MethodName) jdk_30_method_1_code (1 : Nat) (Option.none : Option Jvm.ClassFile.FieldType), Jvm.Cond.code ({ cls := "com/example/portcullis/portcullis/http/GateDecision", name := "status", desc := "()I" } : Jvm.MethodName) prog_28_method_11_code (1 : Nat) (Option.some Jvm.ClassFile.FieldType.int), Jvm.Cond.code ({ cls := "com/example/portcullis/portcullis/http/GateDecision", name := "identity", desc := "()Ljava/util/Optional;" } : Jvm.MethodName) prog_28_method_12_code (1 : Nat) (Option.some (Jvm.ClassFile.FieldType.object "java/util/Optional")), Jvm.Cond.code ({ cls := "java/util/Optional", name := "isPresent", desc := "()Z" } : Jvm.MethodName) jdk_32_method_6_code (1 : Nat) (Option.some Jvm.ClassFile.FieldType.boolean), Jvm.Cond.code ({ cls := "com/example/portcullis/portcullis/http/GateDecision", name := "mechanism", desc := "()Ljava/util/Optional;" } : Jvm.MethodName) prog_28_method_13_code (1 : Nat) (Option.some (Jvm.ClassFile.FieldType.object "java/util/Optional")), Jvm.Cond.code ({ cls := "com/example/portcullis/portcullis/http/GateDecision", name := "challenges", desc := "()Ljava/util/List;" } : Jvm.MethodName) prog_28_method_14_code (1 : Nat) (Option.some (Jvm.ClassFile.FieldType.object "java/util/List")), Jvm.Cond.code ({ cls := "java/util/ArrayList", name := "size", desc := "()I" } : Jvm.MethodName) jdk_38_method_8_code (1 : Nat) (Option.some Jvm.ClassFile.FieldType.int), Jvm.Cond.code ({ cls := "java/util/ArrayList", name := "add", desc := "(Ljava/lang/Object;)Z" } : Jvm.MethodName) jdk_38_method_25_code (2 : Nat) (Option.some Jvm.ClassFile.FieldType.boolean), Jvm.Cond.code ({ cls := "java/util/ArrayList", name := "add", desc := "(Ljava/lang/Object;[Ljava/lang/Object;I)V" } : Jvm.MethodName) jdk_38_method_24_code (4 : Nat) (Option.none : Option Jvm.ClassFile.FieldType), Jvm.Cond.code ({ cls := "java/util/ArrayList", name := "grow", desc := "()[Ljava/lang/Object;" } : Jvm.MethodName) jdk_38_method_7_code (1 : Nat) (Option.some (Jvm.ClassFile.FieldType.array (Jvm.ClassFile.FieldType.object "java/lang/Object"))), Jvm.Cond.code ({ cls := "java/util/ArrayList", name := "grow", desc := "(I)[Ljava/lang/Object;" } : Jvm.MethodName) jdk_38_method_6_code (4 : Nat) (Option.some (Jvm.ClassFile.FieldType.array (Jvm.ClassFile.FieldType.object "java/lang/Object"))), Jvm.Cond.code ({ cls := "java/lang/Math", name := "max", desc := "(II)I" } : Jvm.MethodName) jdk_29_method_65_code (2 : Nat) (Option.some Jvm.ClassFile.FieldType.int), Jvm.Cond.code ({ cls := "java/util/ArrayList", name := "get", desc := "(I)Ljava/lang/Object;" } : Jvm.MethodName) jdk_38_method_20_code (2 : Nat) (Option.some (Jvm.ClassFile.FieldType.object "java/lang/Object")), Jvm.Cond.code ({ cls := "java/util/Objects", name := "checkIndex", desc := "(II)I" } : Jvm.MethodName) jdk_31_method_17_code (2 : Nat) (Option.some Jvm.ClassFile.FieldType.int), Jvm.Cond.code ({ cls := "jdk/internal/util/Preconditions", name := "checkIndex", desc := "(IILjava/util/function/BiFunction;)I" } : Jvm.MethodName) jdk_41_method_11_code (3 : Nat) (Option.some Jvm.ClassFile.FieldType.int), Jvm.Cond.code ({ cls := "java/util/ArrayList", name := "elementData", desc := "(I)Ljava/lang/Object;" } : Jvm.MethodName) jdk_38_method_18_code (2 : Nat) (Option.some (Jvm.ClassFile.FieldType.object "java/lang/Object")), Jvm.Cond.code ({ cls := "java/lang/String", name := "equals", desc := "(Ljava/lang/Object;)Z" } : Jvm.MethodName) jdk_42_method_66_code (3 : Nat) (Option.some Jvm.ClassFile.FieldType.boolean), Jvm.Cond.code ({ cls := "java/lang/StringUTF16", name := "compress", desc := "([CII)[B" } : Jvm.MethodName) jdk_52_method_16_code (6 : Nat) (Option.some (Jvm.ClassFile.FieldType.array Jvm.ClassFile.FieldType.byte)), Jvm.Cond.code ({ cls := "java/lang/StringUTF16", name := "compress", desc := "([CI[BII)I" } : Jvm.MethodName) jdk_52_method_21_code (7 : Nat) (Option.some Jvm.ClassFile.FieldType.int), Jvm.Cond.code ({ cls := "java/lang/StringUTF16", name := "coderFromArrayLen", desc := "([BI)B" } : Jvm.MethodName) jdk_52_method_15_code (2 : Nat) (Option.some Jvm.ClassFile.FieldType.byte)]
set_option maxRecDepth 65536 in
theorem codes_eq : words1.filter isCode = codes1 := rfl
theorem w_codes : ∀ c ∈ words1.filter isCode, c.before args0 about1 = true := by
  rw [codes_eq]
  intro c hc
  simp only [codes1, List.mem_cons, List.not_mem_nil, or_false] at hc
  rcases hc with rfl | rfl | rfl | rfl | rfl | rfl | rfl | rfl | rfl | rfl | rfl | rfl | rfl | rfl | rfl | rfl | rfl | rfl | rfl | rfl | rfl | rfl | rfl | rfl | rfl | rfl | rfl | rfl | rfl | rfl | rfl
  · exact w_c0
  · exact w_c1
  · exact w_c2
  · exact w_c3
  · exact w_c4
  · exact w_c5
  · exact w_c6
  · exact w_c7
  · exact w_c8
  · exact w_c9
  · exact w_c10
  · exact w_c11
  · exact w_c12
  · exact w_c13
  · exact w_c14
  · exact w_c15
  · exact w_c16
  · exact w_c17
  · exact w_c18
  · exact w_c19
  · exact w_c20
  · exact w_c21
  · exact w_c22
  · exact w_c23
  · exact w_c24
  · exact w_c25
  · exact w_c26
  · exact w_c27
  · exact w_c28
  · exact w_c29
  · exact w_c30
set_option maxRecDepth 65536 in
theorem w_t1 : (words1.take 24).all (fun c => isCode c || c.before args0 about1) = true := by decide +kernel
set_option maxRecDepth 65536 in
theorem w_t2 : ((words1.drop 24).take 24).all (fun c => isCode c || c.before args0 about1) = true := by decide +kernel
set_option maxRecDepth 65536 in
theorem w_t3 : (((words1.drop 24).drop 24).take 24).all (fun c => isCode c || c.before args0 about1) = true := by decide +kernel
set_option maxRecDepth 65536 in
theorem w_t4 : ((((words1.drop 24).drop 24).drop 24).take 24).all (fun c => isCode c || c.before args0 about1) = true := by decide +kernel
set_option maxRecDepth 65536 in
theorem w_t5 : (((((words1.drop 24).drop 24).drop 24).drop 24).take 24).all (fun c => isCode c || c.before args0 about1) = true := by decide +kernel
set_option maxRecDepth 65536 in
theorem w_t6 : ((((((words1.drop 24).drop 24).drop 24).drop 24).drop 24).take 24).all (fun c => isCode c || c.before args0 about1) = true := by decide +kernel
set_option maxRecDepth 65536 in
theorem w_t7 : (((((((words1.drop 24).drop 24).drop 24).drop 24).drop 24).drop 24).take 24).all (fun c => isCode c || c.before args0 about1) = true := by decide +kernel
set_option maxRecDepth 65536 in
theorem w_t8 : (((((((words1.drop 24).drop 24).drop 24).drop 24).drop 24).drop 24).drop 24).all (fun c => isCode c || c.before args0 about1) = true := by decide +kernel
theorem w_tables : (allAtoms (Jvm.Cond.code x code maxLocals ret :: tables_1)).before args0 about1 = true := by
  rw [allAtoms_all]
  show words1.all (fun c => c.before args0 about1) = true
  refine all_split ?_ w_codes
  rw [← List.take_append_drop 24 words1, List.all_append, w_t1, ← List.take_append_drop 24 (words1.drop 24), List.all_append, w_t2, ← List.take_append_drop 24 ((words1.drop 24).drop 24), List.all_append, w_t3, ← List.take_append_drop 24 (((words1.drop 24).drop 24).drop 24), List.all_append, w_t4, ← List.take_append_drop 24 ((((words1.drop 24).drop 24).drop 24).drop 24), List.all_append, w_t5, ← List.take_append_drop 24 (((((words1.drop 24).drop 24).drop 24).drop 24).drop 24), List.all_append, w_t6, ← List.take_append_drop 24 ((((((words1.drop 24).drop 24).drop 24).drop 24).drop 24).drop 24), List.all_append, w_t7, w_t8]
  rfl
set_option maxRecDepth 65536 in
theorem w_rest : rest_1_c.before args0 about1 = true := by decide +kernel
set_option maxRecDepth 65536 in
theorem w_case : (Jvm.Cond.and given_1 narrow_1).before args0 about1 = true := by decide +kernel
set_option maxRecDepth 65536 in
theorem w_consts : constsHeld consts_1 about1 := Jvm.Lit.constsHeldB_iff.mp (by decide +kernel)
theorem w_applies : (headSpec (Jvm.Cond.code x code maxLocals ret :: tables_1) room_1).applies x e0.platform about1 = true :=
  (Spec.applies_iff w_frames).mpr ⟨w_running, w_runnable, w_alone, w_named, w_hears, w_ripe, w_room, w_tables⟩
theorem atStart : AtStart classFile x code maxLocals ret World_1 tables_1 room_1 Calls_1 rest_1 Pre_1 launch0 p0 e0 about1 theMethod args0 below0 :=
  ⟨lists_1, trivial, launch0.admits_env _ _ _, launch0.least_env, fairChoices_fair.cas, fairChoices_fair.clock, w_frames, w_args, w_heap, w_applies, ⟨w_consts, trivial⟩, w_rest, w_case⟩
end start1
theorem witness_1 : WitnessClaimed_1 := ⟨start1.p0, start1.e0, start1.about1, start1.theMethod, start1.args0, start1.below0, start1.atStart⟩
end Jvm.Pilot.@@N@@
