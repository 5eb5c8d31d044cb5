import JvmDerived
import JvmDerived.Pilot.@@N@@Statement
import JvmDerived.Pilot.@@N@@Code
set_option linter.unusedVariables false
set_option linter.unusedSimpArgs false
namespace Jvm.Pilot.@@N@@
open Jvm Jvm.ClassFile Sem Op Lib Jvm.Free Jvm.Stand Jvm.LawKit Jvm.RoadKit Bundle Jvm.Pilot.@@N@@.Jvm.D
section Own
variable {p : Program} {l : Launch} {e : Env} {R : Room} {s : State} {m : MethodId} {args : Array Value} {below : List Frame} {meth : Method} {c : Code} {T : State} {locs : List Loc} {cells slots : Nat} {Z : State} {a0 : Array Value} {h : Heap}
/-- from the state S the body ends well, String literals interned meanwhile: it returns v, leaves the heap and the written places as Q says, within kc cells and ks slots -/
def Run (p : Program) (e : Env) (below : List Frame) (s : State) (Q : Option Value → Heap → List Loc → Vm → Prop) (kc ks : Nat) (S : State) : Prop := ∃ s₂ o, Steps p.tables e below S s₂ ∧ s₂.status = .running ∧ Ended s₂ below o ∧ ∃ v L, o = .returned v ∧ Q v s₂.heap L s₂.vm ∧ ReturnedEndW s o s₂ L kc ks
variable {Q : Option Value → Heap → List Loc → Vm → Prop} {kc ks : Nat} {vm0 : Vm} {k0 : Nat}
theorem Run.pre {S S' : State} (h : ∀ t, Steps p.tables e below S' t → Steps p.tables e below S t) (k : Run p e below s Q kc ks S') : Run p e below s Q kc ks S := by
  obtain ⟨s₂, o, h1, r⟩ := k; exact ⟨s₂, o, h _ h1, r⟩
theorem own_monoW {o : Outcome} {u : State} {L : List Loc} {k n : Nat} (h : ReturnedEndW s o u L k n) (hc : k ≤ kc) (hs : n ≤ ks) : ReturnedEndW s o u L kc ks := ⟨h.1, h.2.1, h.2.2.1, h.2.2.2.mono hc hs⟩
theorem Run.out (hS : s.Since vm0 k0) (hk : k0 ≤ T.heap.size) (X : Stand p l e R (s.setVm vm0) m args below meth c T locs cells slots) (hx : p.tables.exec = Jvm.exec) {pc : Nat} {Ls : Array Slot} {w : Value} {t : FieldType} {i : Instr} {rest : List Value} (hret : meth.sig.returnType = some t) (hn : narrow t w = w)
    (hi : (i = .ireturn ∧ (t = .int ∨ t = .boolean ∨ t = .byte ∨ t = .char ∨ t = .short) ∧ ∃ z, w = .int z) ∨ (i = .lreturn ∧ t = .long ∧ ∃ z, w = .long z) ∨ (i = .dreturn ∧ t = .double ∧ ∃ z, w = .double z) ∨ (i = .freturn ∧ t = .float ∧ ∃ z, w = .float z) ∨ (i = .areturn ∧ t.isReference = true ∧ w.isRef = true))
    (hlk : meth.locks = false) (hd : decode c.code pc = .ok (i, 1)) (hq : Q (some w) T.heap locs T.vm) (hc : cells ≤ kc) (hs : slots ≤ ks) : Run p e below s Q kc ks (T.setTop (mkF m pc Ls (w :: rest))) := by
  obtain ⟨fs, hr, hrun, hended, hW⟩ := X.leaveW hS hk (v := some w) (fun h => by rw [hret] at h; cases h) hlk
  exact ⟨_, _, retOut X hx hret hn hi hd hr, hrun, hended, _, _, rfl, hq, own_monoW hW hc hs⟩
theorem Run.retN (hS : s.Since vm0 k0) (hk : k0 ≤ T.heap.size) (X : Stand p l e R (s.setVm vm0) m args below meth c T locs cells slots) (hx : p.tables.exec = Jvm.exec) {pc : Nat} {Ls : Array Slot} {z : Int32} {t : FieldType} {rest : List Value} (hret : meth.sig.returnType = some t) (ht : t = .boolean ∨ t = .byte ∨ t = .char ∨ t = .short) (hlk : meth.locks = false)
    (hd : decode c.code pc = .ok (.ireturn, 1)) (hq : Q (some (.int (nar t z))) T.heap locs T.vm) (hc : cells ≤ kc) (hs : slots ≤ ks) : Run p e below s Q kc ks (T.setTop (mkF m pc Ls (.int z :: rest))) := by
  obtain ⟨fs, hr, hrun, hended, hW⟩ := X.leaveW hS hk (v := some (.int (nar t z))) (fun h => by rw [hret] at h; cases h) hlk
  exact ⟨_, _, Jvm.RoadKit.retN X hx hret ht hd hr, hrun, hended, _, _, rfl, hq, own_monoW hW hc hs⟩
theorem Run.retI (hS : s.Since vm0 k0) (hk : k0 ≤ T.heap.size) (X : Stand p l e R (s.setVm vm0) m args below meth c T locs cells slots) (hx : p.tables.exec = Jvm.exec) {pc : Nat} {Ls : Array Slot} {z : Int32} {rest : List Value} (hret : meth.sig.returnType = some .int) (hlk : meth.locks = false)
    (hd : decode c.code pc = .ok (.ireturn, 1)) (hq : Q (some (.int z)) T.heap locs T.vm) (hc : cells ≤ kc) (hs : slots ≤ ks) : Run p e below s Q kc ks (T.setTop (mkF m pc Ls (.int z :: rest))) := Run.out hS hk X hx hret rfl (Or.inl ⟨rfl, Or.inl rfl, z, rfl⟩) hlk hd hq hc hs
theorem Run.retJ (hS : s.Since vm0 k0) (hk : k0 ≤ T.heap.size) (X : Stand p l e R (s.setVm vm0) m args below meth c T locs cells slots) (hx : p.tables.exec = Jvm.exec) {pc : Nat} {Ls : Array Slot} {z : Int64} {rest : List Value} (hret : meth.sig.returnType = some .long) (hlk : meth.locks = false)
    (hd : decode c.code pc = .ok (.lreturn, 1)) (hq : Q (some (.long z)) T.heap locs T.vm) (hc : cells ≤ kc) (hs : slots ≤ ks) : Run p e below s Q kc ks (T.setTop (mkF m pc Ls (.long z :: rest))) := Run.out hS hk X hx hret rfl (Or.inr (Or.inl ⟨rfl, rfl, z, rfl⟩)) hlk hd hq hc hs
theorem Run.retA (hS : s.Since vm0 k0) (hk : k0 ≤ T.heap.size) (X : Stand p l e R (s.setVm vm0) m args below meth c T locs cells slots) (hx : p.tables.exec = Jvm.exec) {pc : Nat} {Ls : Array Slot} {w : Value} {t : FieldType} {rest : List Value} (hret : meth.sig.returnType = some t) (ht : t.isReference = true) (hw : w.isRef = true) (hlk : meth.locks = false)
    (hd : decode c.code pc = .ok (.areturn, 1)) (hq : Q (some w) T.heap locs T.vm) (hc : cells ≤ kc) (hs : slots ≤ ks) : Run p e below s Q kc ks (T.setTop (mkF m pc Ls (w :: rest))) := Run.out hS hk X hx hret (by cases t <;> cases w <;> simp_all [FieldType.isReference, Value.isRef, narrow]) (Or.inr (Or.inr (Or.inr (Or.inr ⟨rfl, ht, hw⟩)))) hlk hd hq hc hs
theorem Run.retV (hS : s.Since vm0 k0) (hk : k0 ≤ T.heap.size) (X : Stand p l e R (s.setVm vm0) m args below meth c T locs cells slots) (hx : p.tables.exec = Jvm.exec) {pc : Nat} {Ls : Array Slot} (hret : meth.sig.returnType = none) (hlk : meth.locks = false)
    (hd : decode c.code pc = .ok (.return_, 1)) (hq : Q none T.heap locs T.vm) (hc : cells ≤ kc) (hs : slots ≤ ks) : Run p e below s Q kc ks (T.setTop (mkF m pc Ls [])) := by
  obtain ⟨fs, hr, hrun, hended, hW⟩ := X.leaveW hS hk (v := none) (fun _ => rfl) hlk
  exact ⟨_, _, X.returnOut hx hret hd hr, hrun, hended, _, _, rfl, hq, own_monoW hW hc hs⟩
/-- a body's contract, at the heap h0 and the arguments as' -/
def Con (l : Launch) (y : MethodName) (bytes : ByteArray) (maxL : Nat) (ret : Option FieldType) (rm : Room) (Z : State) (as' : Array Value) (h0 : Heap) (P : Vm → Prop) (Q : Option Value → Heap → List Loc → Vm → Prop) : Prop :=
  ∀ ws, MetFree l y (head1 (Jvm.Cond.code y bytes maxL ret :: ws) rm) (fun a U => a = as' ∧ Z.Warmed39 U.vm ∧ U.heap = h0 ∧ P U.vm) (fun _ _ _ _ _ => True) (fun _ U o U' => ∃ v L, o = .returned v ∧ Q v U'.heap L U'.vm ∧ ReturnedEndW U o U' L rm.cells rm.slots)
theorem Con.mk {P : Vm → Prop} {y : MethodName} {bytes : ByteArray} {maxL : Nat} {ret : Option FieldType} {rm : Room} {as' : Array Value} {h0 : Heap} {F : MethodId → JFrame} (hpl : plainFor y = true) (hef : ∀ m, entryFrame m as' maxL = F m)
    (body : ∀ (p : Program) (e : Env) (s : State) (m : MethodId) (below : List Frame) (meth : Method) (c : Code) (s₁ : State) (vm0 : Vm), p.tables.exec = Jvm.exec → c.code = bytes → c.maxLocals = maxL → vm0.findClass y.cls = some m.cls → meth.name = y.name → meth.sig.returnType = ret → meth.locks = false → Z.Warmed39 vm0 →
      Stand p l e rm (s.setVm vm0) m as' below meth c s₁ [] 0 0 → s₁.heap = h0 → s.Since vm0 0 → s.heap = h0 → P vm0 → Run p e below s Q rm.cells rm.slots (s₁.setTop (F m))) : Con l y bytes maxL ret rm Z as' h0 P Q := by
  intro ws
  refine MetFree.of_bodySF hpl hisR ?_
  intro p e s m args below meth c s₁ Bd hml0 hP hK
  obtain ⟨rfl, hZ, hh, hPv⟩ := hP
  have k := body p e s m below meth c s₁ s.vm Bd.exec Bd.bytes hml0 (findClass_of_methodNamed Bd.named) (name_of_methodNamed Bd.named Bd.method).1 Bd.returns Bd.notSynchronized hZ (Stand.of_body Bd) (by rw [← hh, Bd.state]; rfl) ((State.WarmedH.refl s).since 0) hh hPv
  rw [← hef m] at k
  exact k
theorem Con.back {P : Vm → Prop} {y : MethodName} {bytes : ByteArray} {maxL : Nat} {ret : Option FieldType} {rm : Room} {len W : Nat} {as' : Array Value} (hM : Con l y bytes maxL ret rm Z as' h P Q) (hZ : Z.Warmed39 s.vm) (wc : (Jvm.Cond.code y bytes maxL ret).before a0 Z = true) (wz : (Jvm.Cond.initialized y.cls).before a0 Z = true) (hf : rm.frames + 1 ≤ R.frames) (hl : W + (maxL + 11) + rm.locals ≤ R.locals) :
    BackS l R p e below s args y len W (fun A a => a = as' ∧ A.U.heap = h ∧ A.cells + rm.cells ≤ R.cells ∧ A.slots + rm.slots ≤ R.slots ∧ P A.U.vm) (fun A _ v B => ∃ L, Q v B.U.heap L B.U.vm ∧ B.locs = A.locs ++ L ∧ B.cells = A.cells + rm.cells ∧ B.slots = A.slots + rm.slots) := by
  refine BackS.of_freeW (bytes := bytes) (maxL := maxL) (ret := ret) (E := fun _ _ o t L k n => k = rm.cells ∧ n = rm.slots ∧ ∃ v, o = .returned v ∧ Q v t.heap L t.vm) (hM []) hf hl ?_ ?_ (fun _ _ _ _ _ _ _ _ _ => trivial) ?_ ?_
  · intro m meth c A a Y hp
    have hU : Z.Warmed39 A.U.vm := wtrans hZ Y.warmed
    exact ⟨by show (Jvm.Cond.and _ .tt).before a A.U = true; rw [Cond.before_and, mv hU wc]; rfl, mv hU wc, mv hU wz, hp.2.2.1, hp.2.2.2.1⟩
  · intro m meth c A a g mk Y hp
    exact ⟨hp.1, wtrans hZ Y.warmed, hp.2.1, hp.2.2.2.2⟩
  · rintro _ _ _ _ ⟨v, L, h1, h2, h3⟩
    exact ⟨L, _, _, h3, rfl, rfl, v, h1, h2⟩
  · rintro m meth c A a g mk v t L k n Y hp _ _ ⟨e1, e2, v', e3, e4⟩
    cases e3; subst e1 e2
    exact ⟨L, e4, rfl, rfl, rfl⟩
section Calls
variable {y : MethodName} {bytes : ByteArray} {maxL : Nat} {rt : Option FieldType} {rm : Room} {W : Nat} {own : String} {index : Nat} {Pc : Vm → Prop} {Qc : Option Value → Heap → List Loc → Vm → Prop} {g : JFrame} {argsL rest : List Value} {as' : Array Value}
theorem Run.callS (hS : s.Since vm0 k0) (hk : k0 ≤ T.heap.size) (X : Stand p l e R (s.setVm vm0) m args below meth c T locs cells slots) (hx : p.tables.exec = Jvm.exec) (hZ : Z.Warmed39 vm0) (hown : vm0.findClass own = some m.cls) (w1 : (Jvm.Cond.methodLink own index y).before a0 Z = true) (w2 : (Jvm.Cond.static y).before a0 Z = true) (w3 : (Jvm.Cond.initialized y.cls).before a0 Z = true) (w4 : (Jvm.Cond.code y bytes maxL rt).before a0 Z = true)
    (hy : y.cls ≠ "java/lang/invoke/MethodHandle" ∧ y.cls ≠ "java/lang/invoke/VarHandle") (hM : Con l y bytes maxL rt rm Z argsL.toArray h Pc Qc) (eT : T.heap = h) (hfr : rm.frames + 1 ≤ R.frames) (hlo : W + (maxL + 11) + rm.locals ≤ R.locals) (hce : cells + rm.cells ≤ R.cells) (hsl : slots + rm.slots ≤ R.slots) (hPc : ∀ vm₁, (s.setVm vm0).WarmedH vm₁ → Pc vm₁)
    (hg : g.method = m) (hsize : g.locals.size = c.maxLocals) (hlen : ∀ sig, parseMethodDescriptor y.desc = some sig → argsL.length = sig.parameters.length) (hstack : g.stack = argsL.reverse ++ rest) (hW : 2 * g.monitorRoom + (rest.map fun v => v.category).sum ≤ W) (hdg : decode c.code g.pc = .ok (.invokestatic index, 3))
    (k : ∀ v T' L, Stand p l e R (s.setVm T'.vm) m args below meth c T' (locs ++ L) (cells + rm.cells) (slots + rm.slots) → s.Since T'.vm T'.heap.size → Z.Warmed39 T'.vm → T'.vm.findClass own = some m.cls → (s.setVm vm0).Warmed39 T'.vm → Qc v T'.heap L T'.vm → Run p e below s Q kc ks (T'.setTop { g with pc := g.pc + 3, stack := v.toList ++ rest })) : Run p e below s Q kc ks (T.setTop g) := by
  obtain ⟨v, vm₁, ⟨T', L', c', n'⟩, -, X', hS2, hg2, ⟨L, hQ, l1, l2, l3⟩, st⟩ := callSS X hx hown (mvT (s := s.setVm vm0) hZ w1) (mvT (s := s.setVm vm0) hZ w2) (mvT (s := s.setVm vm0) hZ w3) (mvT (s := s.setVm vm0) hZ w4) hy (hM.back (s := s.setVm vm0) (W := W) hZ w4 w3 hfr hlo) hg hsize hlen hstack hW hdg (fun _ q => ⟨rfl, eT, hce, hsl, hPc _ q⟩)
  dsimp only [Pt.U, Pt.locs, Pt.cells, Pt.slots] at X' l1 l2 l3 st hQ hS2 hg2
  subst l1 l2 l3
  exact Run.pre (fun _ q => st.trans q) (k v T' L X' (foldS hS hk hS2 hg2) (State.Warmed39.trans (t := s.setVm vm0) hZ hS2.1) (by rw [hS2.1.alike.findClass]; exact hown) hS2.1 hQ)
theorem Run.callI (hS : s.Since vm0 k0) (hk : k0 ≤ T.heap.size) (X : Stand p l e R (s.setVm vm0) m args below meth c T locs cells slots) (hx : p.tables.exec = Jvm.exec) (hZ : Z.Warmed39 vm0) (hy1 : y.name = "<init>") (hown : vm0.findClass own = some m.cls) (w1 : (Jvm.Cond.methodLink own index y).before a0 Z = true) (w2 : (Jvm.Cond.instanceMethod y).before a0 Z = true) (w4 : (Jvm.Cond.code y bytes maxL none).before a0 Z = true) (w3 : (Jvm.Cond.initialized y.cls).before a0 Z = true)
    (hy : y.cls ≠ "java/lang/invoke/MethodHandle" ∧ y.cls ≠ "java/lang/invoke/VarHandle") {a : Addr} (hM : Con l y bytes maxL none rm Z (.ref a :: argsL).toArray h Pc Qc) (eT : T.heap = h) (hfr : rm.frames + 1 ≤ R.frames) (hlo : W + (maxL + 11) + rm.locals ≤ R.locals) (hce : cells + rm.cells ≤ R.cells) (hsl : slots + rm.slots ≤ R.slots) (hPc : ∀ vm₁, (s.setVm vm0).WarmedH vm₁ → Pc vm₁)
    (hg : g.method = m) (hsize : g.locals.size = c.maxLocals) (hlen : ∀ sig, parseMethodDescriptor y.desc = some sig → argsL.length = sig.parameters.length) (hstack : g.stack = argsL.reverse ++ .ref a :: rest) (hW : 2 * g.monitorRoom + (rest.map fun v => v.category).sum ≤ W) (hdg : decode c.code g.pc = .ok (.invokespecial index, 3))
    (k : ∀ v T' L, Stand p l e R (s.setVm T'.vm) m args below meth c T' (locs ++ L) (cells + rm.cells) (slots + rm.slots) → s.Since T'.vm T'.heap.size → Z.Warmed39 T'.vm → T'.vm.findClass own = some m.cls → (s.setVm vm0).Warmed39 T'.vm → Qc v T'.heap L T'.vm → Run p e below s Q kc ks (T'.setTop { g with pc := g.pc + 3, stack := v.toList ++ rest })) : Run p e below s Q kc ks (T.setTop g) := by
  obtain ⟨v, vm₁, ⟨T', L', c', n'⟩, -, X', hS2, hg2, ⟨L, hQ, l1, l2, l3⟩, st⟩ := X.specialBackS hx hy1 hown (mvT (s := s.setVm vm0) hZ w1) (mvT (s := s.setVm vm0) hZ w2) (mvT (s := s.setVm vm0) hZ w4) hy (hM.back (s := s.setVm vm0) (W := W) hZ w4 w3 hfr hlo) hg hsize (Steps.refl _) hlen hstack hW hdg (fun _ q => ⟨rfl, eT, hce, hsl, hPc _ q⟩)
  dsimp only [Pt.U, Pt.locs, Pt.cells, Pt.slots] at X' l1 l2 l3 st hQ hS2 hg2
  subst l1 l2 l3
  exact Run.pre (fun _ q => st.trans q) (k v T' L X' (foldS hS hk hS2 hg2) (State.Warmed39.trans (t := s.setVm vm0) hZ hS2.1) (by rw [hS2.1.alike.findClass]; exact hown) hS2.1 hQ)
theorem Run.callP (hS : s.Since vm0 k0) (hk : k0 ≤ T.heap.size) (X : Stand p l e R (s.setVm vm0) m args below meth c T locs cells slots) (hx : p.tables.exec = Jvm.exec) (hZ : Z.Warmed39 vm0) (hown : vm0.findClass own = some m.cls) (w1 : (Jvm.Cond.methodLink own index y).before a0 Z = true) (w2 : (Jvm.Cond.instanceMethod y).before a0 Z = true) (w5 : (Jvm.Cond.selects y.cls y y).before a0 Z = true) (w6 : (Jvm.Cond.privateMethod y).before a0 Z = true) (w4 : (Jvm.Cond.code y bytes maxL rt).before a0 Z = true) (w3 : (Jvm.Cond.initialized y.cls).before a0 Z = true)
    (hy : y.cls ≠ "java/lang/invoke/MethodHandle" ∧ y.cls ≠ "java/lang/invoke/VarHandle") {a : Addr} {C : String} (E : Exa Z h a C) (hM : Con l y bytes maxL rt rm Z (.ref a :: argsL).toArray h Pc Qc) (eT : T.heap = h) (hfr : rm.frames + 1 ≤ R.frames) (hlo : W + (maxL + 11) + rm.locals ≤ R.locals) (hce : cells + rm.cells ≤ R.cells) (hsl : slots + rm.slots ≤ R.slots) (hPc : ∀ vm₁, (s.setVm vm0).WarmedH vm₁ → Pc vm₁)
    (hg : g.method = m) (hsize : g.locals.size = c.maxLocals) (hlen : ∀ sig, parseMethodDescriptor y.desc = some sig → argsL.length = sig.parameters.length) (hstack : g.stack = argsL.reverse ++ .ref a :: rest) (hW : 2 * g.monitorRoom + (rest.map fun v => v.category).sum ≤ W) (hdg : decode c.code g.pc = .ok (.invokevirtual index, 3))
    (k : ∀ v T' L, Stand p l e R (s.setVm T'.vm) m args below meth c T' (locs ++ L) (cells + rm.cells) (slots + rm.slots) → s.Since T'.vm T'.heap.size → Z.Warmed39 T'.vm → T'.vm.findClass own = some m.cls → (s.setVm vm0).Warmed39 T'.vm → Qc v T'.heap L T'.vm → Run p e below s Q kc ks (T'.setTop { g with pc := g.pc + 3, stack := v.toList ++ rest })) : Run p e below s Q kc ks (T.setTop g) := by
  obtain ⟨cell, kk, q1, -, -, q4, -⟩ := E
  obtain ⟨v, vm₁, ⟨T', L', c', n'⟩, -, X', hS2, hg2, ⟨L, hQ, l1, l2, l3⟩, st⟩ := X.privateBackS hx hown (mvT (s := s.setVm vm0) hZ w1) (mvT (s := s.setVm vm0) hZ w2) (mvT (s := s.setVm vm0) hZ w5) (Cond.privateMethod_at (mvP (s := s.setVm vm0) hZ w6 (args := #[]))) (mvT (s := s.setVm vm0) hZ w4) hy (hM.back (s := s.setVm vm0) (W := W) hZ w4 w3 hfr hlo) hg hsize (Steps.refl _) (a := a) (by rw [eT]; exact q1) (fun q e => by rw [e] at q4; cases q4) hlen hstack hW hdg (fun _ q => ⟨rfl, eT, hce, hsl, hPc _ q⟩)
  dsimp only [Pt.U, Pt.locs, Pt.cells, Pt.slots] at X' l1 l2 l3 st hQ hS2 hg2
  subst l1 l2 l3
  exact Run.pre (fun _ q => st.trans q) (k v T' L X' (foldS hS hk hS2 hg2) (State.Warmed39.trans (t := s.setVm vm0) hZ hS2.1) (by rw [hS2.1.alike.findClass]; exact hown) hS2.1 hQ)
theorem Run.callV {z : MethodName} {C : String} (hS : s.Since vm0 k0) (hk : k0 ≤ T.heap.size) (X : Stand p l e R (s.setVm vm0) m args below meth c T locs cells slots) (hx : p.tables.exec = Jvm.exec) (hZ : Z.Warmed39 vm0) (hown : vm0.findClass own = some m.cls) (w1 : (Jvm.Cond.methodLink own index y).before a0 Z = true) (w2 : (Jvm.Cond.declares y).before a0 Z = true) (hnf : NotFace (s.setVm vm0) y) (w5 : (Jvm.Cond.selects C y z).before a0 Z = true) (w6 : (Jvm.Cond.instanceMethod z).before a0 Z = true) (w4 : (Jvm.Cond.code z bytes maxL rt).before a0 Z = true) (w3 : (Jvm.Cond.initialized z.cls).before a0 Z = true)
    (hy : y.cls ≠ "java/lang/invoke/MethodHandle" ∧ y.cls ≠ "java/lang/invoke/VarHandle") {b : Addr} (E : Exa Z h b C) (hM : Con l z bytes maxL rt rm Z (.ref b :: argsL).toArray h Pc Qc) (eT : T.heap = h) (hfr : rm.frames + 1 ≤ R.frames) (hlo : W + (maxL + 11) + rm.locals ≤ R.locals) (hce : cells + rm.cells ≤ R.cells) (hsl : slots + rm.slots ≤ R.slots) (hPc : ∀ vm₁, (s.setVm vm0).WarmedH vm₁ → Pc vm₁)
    (hg : g.method = m) (hsize : g.locals.size = c.maxLocals) (hlen : ∀ sig, parseMethodDescriptor y.desc = some sig → argsL.length = sig.parameters.length) (hstack : g.stack = argsL.reverse ++ .ref b :: rest) (hW : 2 * g.monitorRoom + (rest.map fun v => v.category).sum ≤ W) (hdg : decode c.code g.pc = .ok (.invokevirtual index, 3))
    (k : ∀ v T' L, Stand p l e R (s.setVm T'.vm) m args below meth c T' (locs ++ L) (cells + rm.cells) (slots + rm.slots) → s.Since T'.vm T'.heap.size → Z.Warmed39 T'.vm → T'.vm.findClass own = some m.cls → (s.setVm vm0).Warmed39 T'.vm → Qc v T'.heap L T'.vm → Run p e below s Q kc ks (T'.setTop { g with pc := g.pc + 3, stack := v.toList ++ rest })) : Run p e below s Q kc ks (T.setTop g) := by
  obtain ⟨cB, kB, qa, qb, qc⟩ := isOf (s := s.setVm vm0) hZ eT E
  obtain ⟨v, vm₁, ⟨T', L', c', n'⟩, -, X', hS2, hg2, ⟨L, hQ, l1, l2, l3⟩, st⟩ := X.virtualBackS hx hown (mvT (s := s.setVm vm0) hZ w1) (mvT (s := s.setVm vm0) hZ w2) hnf (mvT (s := s.setVm vm0) hZ w5) (mvT (s := s.setVm vm0) hZ w6) hy (hM.back (s := s.setVm vm0) (W := W) hZ w4 w3 hfr hlo) qa qc hg hsize (Steps.refl _) hlen hstack hW hdg (fun _ q => ⟨rfl, eT, hce, hsl, hPc _ q⟩)
  dsimp only [Pt.U, Pt.locs, Pt.cells, Pt.slots] at X' l1 l2 l3 st hQ hS2 hg2
  subst l1 l2 l3
  exact Run.pre (fun _ q => st.trans q) (k v T' L X' (foldS hS hk hS2 hg2) (State.Warmed39.trans (t := s.setVm vm0) hZ hS2.1) (by rw [hS2.1.alike.findClass]; exact hown) hS2.1 hQ)
theorem Run.callU {z : MethodName} {C owner : String} (hS : s.Since vm0 k0) (hk : k0 ≤ T.heap.size) (X : Stand p l e R (s.setVm vm0) m args below meth c T locs cells slots) (hx : p.tables.exec = Jvm.exec) (hZ : Z.Warmed39 vm0) (hown : vm0.findClass own = some m.cls) (w1 : (Jvm.Cond.methodLink own index y).before a0 Z = true) (w2 : (Jvm.Cond.sameMethod y.cls owner y.name y.desc).before a0 Z = true) (w7 : (Jvm.Cond.declares ⟨owner, y.name, y.desc⟩).before a0 Z = true) (w5 : (Jvm.Cond.selects C y z).before a0 Z = true) (w6 : (Jvm.Cond.instanceMethod z).before a0 Z = true) (w4 : (Jvm.Cond.code z bytes maxL rt).before a0 Z = true) (w3 : (Jvm.Cond.initialized z.cls).before a0 Z = true)
    (hy : owner ≠ "java/lang/invoke/MethodHandle" ∧ owner ≠ "java/lang/invoke/VarHandle") {b : Addr} (E : Exa Z h b C) (hM : Con l z bytes maxL rt rm Z (.ref b :: argsL).toArray h Pc Qc) (eT : T.heap = h) (hfr : rm.frames + 1 ≤ R.frames) (hlo : W + (maxL + 11) + rm.locals ≤ R.locals) (hce : cells + rm.cells ≤ R.cells) (hsl : slots + rm.slots ≤ R.slots) (hPc : ∀ vm₁, (s.setVm vm0).WarmedH vm₁ → Pc vm₁)
    (hg : g.method = m) (hsize : g.locals.size = c.maxLocals) (hlen : ∀ sig, parseMethodDescriptor y.desc = some sig → argsL.length = sig.parameters.length) (hstack : g.stack = argsL.reverse ++ .ref b :: rest) (hW : 2 * g.monitorRoom + (rest.map fun v => v.category).sum ≤ W) (hdg : decode c.code g.pc = .ok (.invokevirtual index, 3))
    (k : ∀ v T' L, Stand p l e R (s.setVm T'.vm) m args below meth c T' (locs ++ L) (cells + rm.cells) (slots + rm.slots) → s.Since T'.vm T'.heap.size → Z.Warmed39 T'.vm → T'.vm.findClass own = some m.cls → (s.setVm vm0).Warmed39 T'.vm → Qc v T'.heap L T'.vm → Run p e below s Q kc ks (T'.setTop { g with pc := g.pc + 3, stack := v.toList ++ rest })) : Run p e below s Q kc ks (T.setTop g) := by
  obtain ⟨cB, kB, qa, qb, qc⟩ := isOf (s := s.setVm vm0) hZ eT E
  obtain ⟨v, vm₁, ⟨T', L', c', n'⟩, -, X', hS2, hg2, ⟨L, hQ, l1, l2, l3⟩, st⟩ := X.virtualBackUpS hx hown (mvT (s := s.setVm vm0) hZ w1) (mvT (s := s.setVm vm0) hZ w2) (mvT (s := s.setVm vm0) hZ w7) hy (mvT (s := s.setVm vm0) hZ w5) (mvT (s := s.setVm vm0) hZ w6) (hM.back (s := s.setVm vm0) (W := W) hZ w4 w3 hfr hlo) qa qc hg hsize (Steps.refl _) hlen hstack hW hdg (fun _ q => ⟨rfl, eT, hce, hsl, hPc _ q⟩)
  dsimp only [Pt.U, Pt.locs, Pt.cells, Pt.slots] at X' l1 l2 l3 st hQ hS2 hg2
  subst l1 l2 l3
  exact Run.pre (fun _ q => st.trans q) (k v T' L X' (foldS hS hk hS2 hg2) (State.Warmed39.trans (t := s.setVm vm0) hZ hS2.1) (by rw [hS2.1.alike.findClass]; exact hown) hS2.1 hQ)
theorem Run.callF {xi : MethodName} {C : String} {count : Nat} (hS : s.Since vm0 k0) (hk : k0 ≤ T.heap.size) (X : Stand p l e R (s.setVm vm0) m args below meth c T locs cells slots) (hx : p.tables.exec = Jvm.exec) (hZ : Z.Warmed39 vm0) (hown : vm0.findClass own = some m.cls) (w1 : (Jvm.Cond.methodLink own index xi).before a0 Z = true) (w2 : (Jvm.Cond.declares xi).before a0 Z = true) (w7 : (Jvm.Cond.interfaceMethod xi.cls xi.cls xi.name xi.desc).before args (s.setVm vm0) = true) (w5 : (Jvm.Cond.selects C xi y).before a0 Z = true) (w6 : (Jvm.Cond.instanceMethod y).before a0 Z = true) (w8 : (Jvm.Cond.publicMethod y).before a0 Z = true) (w9 : (Jvm.Cond.unhidden C xi.name xi.desc).before a0 Z = true) (w10 : (Jvm.Cond.castable C xi.cls).before a0 Z = true) (w4 : (Jvm.Cond.code y bytes maxL rt).before a0 Z = true) (w3 : (Jvm.Cond.initialized y.cls).before a0 Z = true)
    (hy : xi.cls ≠ "java/lang/invoke/MethodHandle" ∧ xi.cls ≠ "java/lang/invoke/VarHandle") {b : Addr} (E : Exa Z h b C) (hM : Con l y bytes maxL rt rm Z (.ref b :: argsL).toArray h Pc Qc) (eT : T.heap = h) (hfr : rm.frames + 1 ≤ R.frames) (hlo : W + (maxL + 11) + rm.locals ≤ R.locals) (hce : cells + rm.cells ≤ R.cells) (hsl : slots + rm.slots ≤ R.slots) (hPc : ∀ vm₁, (s.setVm vm0).WarmedH vm₁ → Pc vm₁)
    (hg : g.method = m) (hsize : g.locals.size = c.maxLocals) (hlen : ∀ sig, parseMethodDescriptor xi.desc = some sig → argsL.length = sig.parameters.length) (hstack : g.stack = argsL.reverse ++ .ref b :: rest) (hW : 2 * g.monitorRoom + (rest.map fun v => v.category).sum ≤ W) (hdg : decode c.code g.pc = .ok (.invokeinterface index count, 5))
    (k : ∀ v T' L, Stand p l e R (s.setVm T'.vm) m args below meth c T' (locs ++ L) (cells + rm.cells) (slots + rm.slots) → s.Since T'.vm T'.heap.size → Z.Warmed39 T'.vm → T'.vm.findClass own = some m.cls → (s.setVm vm0).Warmed39 T'.vm → Qc v T'.heap L T'.vm → Run p e below s Q kc ks (T'.setTop { g with pc := g.pc + 5, stack := v.toList ++ rest })) : Run p e below s Q kc ks (T.setTop g) := by
  obtain ⟨cB, kB, qa, qb, qc⟩ := isOf (s := s.setVm vm0) hZ eT E
  obtain ⟨v, vm₁, ⟨T', L', c', n'⟩, -, X', hS2, hg2, ⟨L, hQ, l1, l2, l3⟩, st⟩ := X.interfaceBackS hx hown (mvT (s := s.setVm vm0) hZ w1) (mvT (s := s.setVm vm0) hZ w2) w7 (mvT (s := s.setVm vm0) hZ w5) (mvT (s := s.setVm vm0) hZ w6) (mvT (s := s.setVm vm0) hZ w8) (mvT (s := s.setVm vm0) hZ w9) (mvT (s := s.setVm vm0) hZ w10) hy (hM.back (s := s.setVm vm0) (W := W) hZ w4 w3 hfr hlo) qa qb qc hg hsize (Steps.refl _) hlen hstack hW hdg (fun _ q => ⟨rfl, eT, hce, hsl, hPc _ q⟩)
  dsimp only [Pt.U, Pt.locs, Pt.cells, Pt.slots] at X' l1 l2 l3 st hQ hS2 hg2
  subst l1 l2 l3
  exact Run.pre (fun _ q => st.trans q) (k v T' L X' (foldS hS hk hS2 hg2) (State.Warmed39.trans (t := s.setVm vm0) hZ hS2.1) (by rw [hS2.1.alike.findClass]; exact hown) hS2.1 hQ)
end Calls
/-! from the case's words to facts on the heap -/
theorem own_fldInt {args : Array Value} {t : Term} {C n d : String} {k : Int32} {a : Addr} (ht : t.eval args Z none [] Z = some (.ref a)) (h : (Jvm.Cond.eq (Term.field t C n d) (Term.int k)).value args Z none Z [] = some true) : Fld Z Z.heap a C n d (.int k) := by
  obtain ⟨x, y, e1, e2, -, k2⟩ := cmp_v (Or.inl h)
  have e3 : y = .int k := (Option.some.inj ((Term.int_eval k).symm.trans e2)).symm
  subst e3
  obtain ⟨z, rfl⟩ := k2
  have e4 := fld_at (C := C) (n := n) (dd := d) ht
  rw [e4] at e1
  have q : z = k := by
    have hh : (Jvm.Cond.eq (Term.field t C n d) (Term.int k)).value args Z none Z [] = some (decide (z = k)) := by simp [Jvm.Cond.value, e4, e1, e2]
    exact gotT hh h
  subst q
  exact Fld.start e1
theorem own_fldLong {args : Array Value} {t : Term} {C n d : String} {k : Int64} {a : Addr} (ht : t.eval args Z none [] Z = some (.ref a)) (h : (Jvm.Cond.eq (Term.field t C n d) (Term.long k)).value args Z none Z [] = some true) : Fld Z Z.heap a C n d (.long k) := by
  obtain ⟨x, y, e1, e2, -, k2⟩ := cmp_v (Or.inl h)
  have e3 : y = .long k := (Option.some.inj (show some (Value.long k) = some y from e2)).symm
  subst e3
  obtain ⟨z, rfl⟩ := k2
  have e4 := fld_at (C := C) (n := n) (dd := d) ht
  have q : z = k := gotT (eq_L e1 e2) h
  rw [e4] at e1
  subst q
  exact Fld.start e1
theorem own_len {args : Array Value} {t : Term} {n : Int32} {a : Addr} {cl : Cell} {ty : FieldType} (ht : t.eval args Z none [] Z = some (.ref a)) (A : Arr Z Z.heap a cl ty) (h : (Jvm.Cond.eq (Term.length t) (Term.int n)).value args Z none Z [] = some true) : cl.slots.size < 2 ^ 31 ∧ cl.slots.size.toInt32 = n := by
  obtain ⟨x, y, e1, e2, -, k2⟩ := cmp_v (Or.inl h)
  have ha : Z.arrayAt? a = some cl := A.fin (Vm.Alike.refl _)
  by_cases hl : cl.slots.size < 2 ^ 31
  · refine ⟨hl, ?_⟩
    have e3 := len_f ht ha hl
    have hh : (Jvm.Cond.eq (Term.length t) (Term.int n)).value args Z none Z [] = some (decide (cl.slots.size.toInt32 = n)) := by
      have e4 : (Term.int n).eval args Z none [] Z = some (.int n) := Term.int_eval n
      simp [Jvm.Cond.value, e3, e4]
    exact gotT hh h
  · exfalso
    simp [Term.eval, ht, ha, hl] at e1
theorem own_elem {args : Array Value} {t u : Term} {j : Int32} {a w : Addr} {cl : Cell} (ht : t.eval args Z none [] Z = some (.ref a)) (hu : u.eval args Z none [] Z = some (.ref w)) (hc : Z.heap[a]? = some cl) (h : (Jvm.Cond.eq (Term.elem t (Term.int j)) u).value args Z none Z [] = some true) : cl.slots[j.toNatClampNeg]? = some (.ref w) := by
  obtain ⟨x, y, e1, e2, k1, k2⟩ := cmp_v (Or.inl h)
  cases hu.symm.trans e2
  have q := gotT (eq_R e1 e2 k2.2 rfl) h
  subst q
  exact (elem_in e1 ht (Term.int_eval j) hc).2
theorem own_fldRef {args : Array Value} {t u : Term} {C n d : String} {a w : Addr} (ht : t.eval args Z none [] Z = some (.ref a)) (hu : u.eval args Z none [] Z = some (.ref w)) (h : (Jvm.Cond.eq (Term.field t C n d) u).value args Z none Z [] = some true) : Fld Z Z.heap a C n d (.ref w) := by
  obtain ⟨x, y, e1, e2, k1, k2⟩ := cmp_v (Or.inl h)
  cases hu.symm.trans e2
  have q := gotT (eq_R e1 e2 k2.2 rfl) h
  subst q
  rw [fld_at ht] at e1
  exact Fld.start e1
theorem own_fldNull {args : Array Value} {t : Term} {C n d : String} {a : Addr} (ht : t.eval args Z none [] Z = some (.ref a)) (h : (Jvm.Cond.eq (Term.field t C n d) Term.null).value args Z none Z [] = some true) : Fld Z Z.heap a C n d .null := by
  have e1 := null_v h
  rw [fld_at ht] at e1
  exact Fld.start e1
theorem own_neArv {a b : Addr} {C : String} {k : ClassId} {ty : FieldType} {z : Int32} {vs : List Value} {d : Value} {n : Nat} (E : Exa Z h a C) (wi : (Jvm.Cond.instantiable C n).before a0 Z = true) (A : Arv Z h b k ty z vs d) : b ≠ a := by
  obtain ⟨c, A', -⟩ := A; exact (ne_arr E wi A').symm
theorem own_ibStays {vm vm' : Vm} {Ts : List String} (h : IB Z vm Ts) (q : (s.setVm vm).WarmedH vm') : IB Z vm' Ts := by
  obtain ⟨more, e, r⟩ := h; exact ⟨more, by rw [q.interned_eq]; exact e, r⟩
theorem own_ne0 {args : Array Value} {t : Term} {z : Int32} (e : t.eval args Z none [] Z = some (.int z)) (h : (Jvm.Cond.not (Jvm.Cond.eq t (Term.int 0))).value args Z none Z [] = some true) : ¬ z = 0 := by
  have h1 := not_v h
  have e0 : (Term.int 0).eval args Z none [] Z = some (.int 0) := Term.int_eval 0
  have hh : (Jvm.Cond.eq t (Term.int 0)).value args Z none Z [] = some (decide (z = 0)) := by simp [Jvm.Cond.value, e, e0]
  exact gotF hh h1
theorem own_staInt {args : Array Value} {C n d : String} {k : Int32} (h : (Jvm.Cond.eq (Term.static C n d) (Term.int k)).value args Z none Z [] = some true) (hi : (Jvm.Cond.initializedFor C n d).before args Z = true ∨ ((Jvm.Cond.initialized C).before args Z = true ∧ (Jvm.Cond.laysStatic C n d).before args Z = true)) : Sta Z Z.heap C n d (.int k) := by
  obtain ⟨x, y, e1, e2, -, k2⟩ := cmp_v (Or.inl h)
  have e3 : y = .int k := (Option.some.inj ((Term.int_eval k).symm.trans e2)).symm
  subst e3
  obtain ⟨z, rfl⟩ := k2
  have hh : (Jvm.Cond.eq (Term.static C n d) (Term.int k)).value args Z none Z [] = some (decide (z = k)) := by simp [Jvm.Cond.value, e1, e2]
  have q := gotT hh h
  subst q
  exact Sta.start e1 hi
theorem own_fit {s : State} (hF : heapFits s = true) : Fit s := fun {y c} hc i hi => by
  obtain ⟨ha, rfl⟩ := Array.getElem?_eq_some_iff.mp hc
  have q := List.all_eq_true.mp ((Array.all_eq_true_iff_forall_mem.mp hF) _ (Array.getElem_mem ha)) i (List.mem_range.mpr hi)
  simpa [Array.getElem?_eq_getElem hi] using q
end Own
theorem own_and3 (x : Int32) : x &&& 3 = 0 ∨ x &&& 3 = 1 ∨ x &&& 3 = 2 ∨ x &&& 3 = 3 := by
  have h : (x &&& 3).toBitVec = x.toBitVec &&& 3#32 := rfl
  have hb : (x.toBitVec &&& 3#32).toNat < 4 := by
    rw [BitVec.toNat_and]
    exact Nat.lt_of_le_of_lt Nat.and_le_right (by decide)
  have hc : ∀ n : Nat, n < 4 → (x.toBitVec &&& 3#32).toNat = n → x &&& 3 = Int32.ofBitVec (BitVec.ofNat 32 n) := fun n hn e => by
    apply Int32.toBitVec_inj.mp
    rw [h]
    apply BitVec.eq_of_toNat_eq
    rw [e]
    show n = (BitVec.ofNat 32 n).toNat
    rw [BitVec.toNat_ofNat, Nat.mod_eq_of_lt (by omega)]
  rcases Nat.lt_or_ge (x.toBitVec &&& 3#32).toNat 1 with h1 | h1
  · exact Or.inl (hc 0 (by decide) (by omega))
  · rcases Nat.lt_or_ge (x.toBitVec &&& 3#32).toNat 2 with h2 | h2
    · exact Or.inr (Or.inl (hc 1 (by decide) (by omega)))
    · rcases Nat.lt_or_ge (x.toBitVec &&& 3#32).toNat 3 with h3 | h3
      · exact Or.inr (Or.inr (Or.inl (hc 2 (by decide) (by omega))))
      · exact Or.inr (Or.inr (Or.inr (hc 3 (by decide) (by omega))))
theorem own_narc (x : Int32) : nar .char (nar .char x) = nar .char x := by simp only [nar, UInt32.toUInt32_toInt32, UInt16.toUInt16_toUInt32]
theorem own_nari (x : Int32) : nar .char (x.toUInt32.toUInt16.toUInt32.toInt32) = x.toUInt32.toUInt16.toUInt32.toInt32 := by simp only [nar, UInt32.toUInt32_toInt32, UInt16.toUInt16_toUInt32]
def own_gcv (b0 b1 : Int32) : Int32 := nar .char (((((b0 &&& (255 : Int32)) <<< ((0 : Int32) &&& 31)) ||| ((b1 &&& (255 : Int32)) <<< ((8 : Int32) &&& 31)))).toUInt32.toUInt16.toUInt32.toInt32)
def own_b0 (c : Int32) : Int32 := nar .byte ((c >>> ((0 : Int32) &&& 31)).toInt8.toInt32)
def own_b1 (c : Int32) : Int32 := nar .byte ((c >>> ((8 : Int32) &&& 31)).toInt8.toInt32)
theorem own_bits (x : BitVec 16) : ((((((x.setWidth 32).sshiftRight 0).setWidth 8).signExtend 32 &&& 255#32) <<< 0) ||| (((((x.setWidth 32).sshiftRight 8).setWidth 8).signExtend 32 &&& 255#32) <<< 8)).setWidth 16 = x := by
  apply BitVec.eq_of_getLsbD_eq
  intro i hi
  have h255 : ∀ j : Nat, (255#32).getLsbD j = decide (j < 8) := by
    intro j
    by_cases hj : j < 32
    · have : ∀ k : Fin 32, (255#32).getLsbD k.1 = decide (k.1 < 8) := by decide
      exact this ⟨j, hj⟩
    · rw [BitVec.getLsbD_of_ge _ _ (by omega)]; simp; omega
  simp only [BitVec.getLsbD_setWidth, BitVec.getLsbD_or, BitVec.getLsbD_and, BitVec.getLsbD_shiftLeft, BitVec.getLsbD_signExtend, h255]
  rcases Nat.lt_or_ge i 8 with h | h
  · have h1 : ¬ 8 ≤ i := by omega
    have h3 : i < 16 := by omega
    simp [h, h1, h3, BitVec.getLsbD_sshiftRight, show i < 32 by omega]
  · have h1 : ¬ i < 8 := by omega
    have h2 : i - 8 < 8 := by omega
    have h3 : 8 + (i - 8) = i := by omega
    simp [h, h1, h2, h3, BitVec.getLsbD_sshiftRight, show i < 32 by omega, show i < 16 by omega, show i - 8 < 32 by omega, BitVec.getElem_sshiftRight]
theorem own_w (c : Int32) : (c.toUInt32.toUInt16.toUInt32.toInt32).toBitVec = (c.toBitVec.setWidth 16).setWidth 32 := by
  first | rfl | (simp [-BitVec.setWidth_setWidth]; done) | skip
theorem own_v (c : Int32) : (c.toInt8.toInt32).toBitVec = (c.toBitVec.setWidth 8).signExtend 32 := by
  rw [← BitVec.signExtend_eq_setWidth_of_le c.toBitVec (show 8 ≤ 32 by decide)]
  rfl
theorem own_gc (c : Int32) (h : nar .char c = c) : own_gcv (own_b0 c) (own_b1 c) = c := by
  have e : c.toBitVec = (c.toBitVec.setWidth 16).setWidth 32 := (own_w c).symm.trans (congrArg Int32.toBitVec h) |>.symm
  have k := own_bits (c.toBitVec.setWidth 16)
  rw [← e] at k
  have k2 : (own_gcv (own_b0 c) (own_b1 c)).toBitVec = (c.toBitVec.setWidth 16).setWidth 32 := by
    conv => rhs; rw [← k]
    simp only [own_gcv, own_b0, own_b1, nar, own_w, own_v, Int32.toBitVec_or, Int32.toBitVec_and, Int32.toBitVec_shiftLeft, Int32.toBitVec_shiftRight]
    have f0 : (Int32.toBitVec 0 &&& Int32.toBitVec 31).smod 32 = 0#32 := by decide
    have f8 : (Int32.toBitVec 8 &&& Int32.toBitVec 31).smod 32 = 8#32 := by decide
    have f255 : Int32.toBitVec 255 = 255#32 := by decide
    have g : ∀ y : BitVec 8, (y.signExtend 32).setWidth 8 = y := fun y => by
      apply BitVec.eq_of_getLsbD_eq; intro i hi; simp [BitVec.getLsbD_setWidth, BitVec.getElem_signExtend, hi, show i < 32 by omega]
    have g2 : ∀ z : BitVec 16, (z.setWidth 32).setWidth 16 = z := fun z => by
      apply BitVec.eq_of_getLsbD_eq; intro i hi; simp [BitVec.getLsbD_setWidth, hi, show i < 32 by omega]
    rw [f0, f8, f255, g, g, g2]
    rfl
  exact Int32.toBitVec_inj.mp (k2.trans e.symm)

theorem d8_0 : decode jdk_52_method_21_code 0 = .ok (.iconst 0, 1) := by decide +kernel
theorem d8_1 : decode jdk_52_method_21_code 1 = .ok (.istore 5, 2) := by decide +kernel
theorem d8_3 : decode jdk_52_method_21_code 3 = .ok (.iload 5, 2) := by decide +kernel
theorem d8_5 : decode jdk_52_method_21_code 5 = .ok (.iload 4, 2) := by decide +kernel
theorem d8_7 : decode jdk_52_method_21_code 7 = .ok (.if_icmp .ge 37, 3) := by decide +kernel
theorem d8_10 : decode jdk_52_method_21_code 10 = .ok (.aload_n 0, 1) := by decide +kernel
theorem d8_11 : decode jdk_52_method_21_code 11 = .ok (.iload_n 1, 1) := by decide +kernel
theorem d8_12 : decode jdk_52_method_21_code 12 = .ok (.caload, 1) := by decide +kernel
theorem d8_13 : decode jdk_52_method_21_code 13 = .ok (.istore 6, 2) := by decide +kernel
theorem d8_15 : decode jdk_52_method_21_code 15 = .ok (.iload 6, 2) := by decide +kernel
theorem d8_17 : decode jdk_52_method_21_code 17 = .ok (.sipush 255, 3) := by decide +kernel
theorem d8_20 : decode jdk_52_method_21_code 20 = .ok (.if_icmp .le 6, 3) := by decide +kernel
theorem d8_23 : decode jdk_52_method_21_code 23 = .ok (.iload 5, 2) := by decide +kernel
theorem d8_25 : decode jdk_52_method_21_code 25 = .ok (.ireturn, 1) := by decide +kernel
theorem pn_8 : plainName "java/lang/StringUTF16" = true := by first | (simp [plainName, overriddenIn]; done) | decide +kernel
set_option maxRecDepth 65536 in
set_option maxHeartbeats 40000000 in
theorem rmC2_1_0 (l : Launch) (Z : State) (a0 : Array Value) (hw : ∀ d ∈ tables_1, d.before a0 Z = true) (ar : Addr) (ds : Addr) (kc : ClassId) (kb : ClassId) (c0 : Int32) (h0 : Heap) (n0 : Nat) (Z0 : n0 ≤ h0.size) (AC : Arv Z h0 ar kc .char 1 [(.int c0)] (.int 0)) (AB : Arv Z h0 ds kb .byte 1 [(.int (0 : Int32))] (.int 0)) (nad : ar ≠ ds) (g_ds : n0 ≤ ds) (q0 : (255 : Int32) < c0) :
    Con l (⟨"java/lang/StringUTF16", "compress", "([CI[BII)I"⟩ : MethodName) jdk_52_method_21_code 7 (some .int) ({ frames := 0, cells := 0, slots := 0, locals := 0 } : Room) Z #[(.ref ar), (.int (0 : Int32)), (.ref ds), (.int (0 : Int32)), (.int (1 : Int32))] h0 (fun _ => True) (fun v h L vm => v = some (.int 0) ∧ Fr n0 L ∧ Keep h0 h [ds]) := by
  refine Con.mk (plainFor_of_name pn_8) (fun m => show entryFrame m #[(.ref ar), (.int (0 : Int32)), (.ref ds), (.int (0 : Int32)), (.int (1 : Int32))] 7 = mkF m 0 #[.val (.ref ar), .val (.int (0 : Int32)), .val (.ref ds), .val (.int (0 : Int32)), .val (.int (1 : Int32)), .unset, .unset] [] by first | (simp [entryFrame, mkF, argsToLocals, Value.category]; done) | rfl) ?_
  intro p e s m below meth c s₁ vm0 hx hby hml hown hnm hret hlk hZ X0 e0 hS hs0 hP0
  have N0 := Fr.nil n0
  show Run p e below s _ _ _ (s₁.setTop (mkF m 0 #[.val (.ref ar), .val (.int (0 : Int32)), .val (.ref ds), .val (.int (0 : Int32)), .val (.int (1 : Int32)), .unset, .unset] []))
  refine Run.pre (fun _ k => XS.iconst X0.here hx rfl (hb hby d8_0) k) ?_
  show Run p e below s _ _ _ (s₁.setTop (mkF m 1 #[.val (.ref ar), .val (.int (0 : Int32)), .val (.ref ds), .val (.int (0 : Int32)), .val (.int (1 : Int32)), .unset, .unset] [(.int (0 : Int32))]))
  refine Run.pre (fun _ k => XS.istore X0.here hx rfl (hb hby d8_1) rfl (l' := #[.val (.ref ar), .val (.int (0 : Int32)), .val (.ref ds), .val (.int (0 : Int32)), .val (.int (1 : Int32)), .val (.int (0 : Int32)), .unset]) rfl k) ?_
  show Run p e below s _ _ _ (s₁.setTop (mkF m 3 #[.val (.ref ar), .val (.int (0 : Int32)), .val (.ref ds), .val (.int (0 : Int32)), .val (.int (1 : Int32)), .val (.int (0 : Int32)), .unset] []))
  refine Run.pre (fun _ k => XS.iload X0.here hx rfl (hb hby d8_3) rfl  k) ?_
  show Run p e below s _ _ _ (s₁.setTop (mkF m 5 #[.val (.ref ar), .val (.int (0 : Int32)), .val (.ref ds), .val (.int (0 : Int32)), .val (.int (1 : Int32)), .val (.int (0 : Int32)), .unset] [(.int (0 : Int32))]))
  refine Run.pre (fun _ k => XS.iload X0.here hx rfl (hb hby d8_5) rfl  k) ?_
  show Run p e below s _ _ _ (s₁.setTop (mkF m 7 #[.val (.ref ar), .val (.int (0 : Int32)), .val (.ref ds), .val (.int (0 : Int32)), .val (.int (1 : Int32)), .val (.int (0 : Int32)), .unset] [(.int (1 : Int32)), (.int (0 : Int32))]))
  refine Run.pre (fun _ k => XS.icmpNo X0.here hx rfl (hb hby d8_7) rfl (tlt ((by decide) : (0 : Int32) < (1 : Int32))).2.1 k) ?_
  show Run p e below s _ _ _ (s₁.setTop (mkF m 10 #[.val (.ref ar), .val (.int (0 : Int32)), .val (.ref ds), .val (.int (0 : Int32)), .val (.int (1 : Int32)), .val (.int (0 : Int32)), .unset] []))
  refine Run.pre (fun _ k => XS.aloadN X0.here hx rfl (hb hby d8_10) rfl rfl k) ?_
  show Run p e below s _ _ _ (s₁.setTop (mkF m 11 #[.val (.ref ar), .val (.int (0 : Int32)), .val (.ref ds), .val (.int (0 : Int32)), .val (.int (1 : Int32)), .val (.int (0 : Int32)), .unset] [(.ref ar)]))
  refine Run.pre (fun _ k => XS.iloadN X0.here hx rfl (hb hby d8_11) rfl  k) ?_
  show Run p e below s _ _ _ (s₁.setTop (mkF m 12 #[.val (.ref ar), .val (.int (0 : Int32)), .val (.ref ds), .val (.int (0 : Int32)), .val (.int (1 : Int32)), .val (.int (0 : Int32)), .unset] [(.int (0 : Int32)), (.ref ar)]))
  obtain ⟨c1, Ar1, -, S1, N1, H1, -⟩ := id AC
  have hin1 : ¬ ((0 : Int32) < 0 ∨ c1.slots.size ≤ ((0 : Int32)).toNatClampNeg) := inb_of S1 ⟨by decide, by decide⟩
  refine Run.pre (X0.caload hx (j := (0 : Int32)) (v := (.int c0)) (by rw [e0]; exact Ar1.1) (State.isArrayOf_alike hZ.alike Ar1.2.1) Ar1.2.2 hin1 (H1.at hin1 rfl) (g := (mkF m 12 #[.val (.ref ar), .val (.int (0 : Int32)), .val (.ref ds), .val (.int (0 : Int32)), .val (.int (1 : Int32)), .val (.int (0 : Int32)), .unset] [(.int (0 : Int32)), (.ref ar)])) rfl rfl (hb hby d8_12)) ?_
  show Run p e below s _ _ _ (s₁.setTop (mkF m 13 #[.val (.ref ar), .val (.int (0 : Int32)), .val (.ref ds), .val (.int (0 : Int32)), .val (.int (1 : Int32)), .val (.int (0 : Int32)), .unset] [(.int c0)]))
  refine Run.pre (fun _ k => XS.istore X0.here hx rfl (hb hby d8_13) rfl (l' := #[.val (.ref ar), .val (.int (0 : Int32)), .val (.ref ds), .val (.int (0 : Int32)), .val (.int (1 : Int32)), .val (.int (0 : Int32)), .val (.int c0)]) rfl k) ?_
  show Run p e below s _ _ _ (s₁.setTop (mkF m 15 #[.val (.ref ar), .val (.int (0 : Int32)), .val (.ref ds), .val (.int (0 : Int32)), .val (.int (1 : Int32)), .val (.int (0 : Int32)), .val (.int c0)] []))
  refine Run.pre (fun _ k => XS.iload X0.here hx rfl (hb hby d8_15) rfl  k) ?_
  show Run p e below s _ _ _ (s₁.setTop (mkF m 17 #[.val (.ref ar), .val (.int (0 : Int32)), .val (.ref ds), .val (.int (0 : Int32)), .val (.int (1 : Int32)), .val (.int (0 : Int32)), .val (.int c0)] [(.int c0)]))
  refine Run.pre (fun _ k => XS.sipush X0.here hx rfl (hb hby d8_17) k) ?_
  show Run p e below s _ _ _ (s₁.setTop (mkF m 20 #[.val (.ref ar), .val (.int (0 : Int32)), .val (.ref ds), .val (.int (0 : Int32)), .val (.int (1 : Int32)), .val (.int (0 : Int32)), .val (.int c0)] [(.int (255 : Int32)), (.int c0)]))
  refine Run.pre (fun _ k => XS.icmpNo X0.here hx rfl (hb hby d8_20) rfl (tlt (q0 : (255 : Int32) < c0)).2.2.2 k) ?_
  show Run p e below s _ _ _ (s₁.setTop (mkF m 23 #[.val (.ref ar), .val (.int (0 : Int32)), .val (.ref ds), .val (.int (0 : Int32)), .val (.int (1 : Int32)), .val (.int (0 : Int32)), .val (.int c0)] []))
  refine Run.pre (fun _ k => XS.iload X0.here hx rfl (hb hby d8_23) rfl  k) ?_
  show Run p e below s _ _ _ (s₁.setTop (mkF m 25 #[.val (.ref ar), .val (.int (0 : Int32)), .val (.ref ds), .val (.int (0 : Int32)), .val (.int (1 : Int32)), .val (.int (0 : Int32)), .val (.int c0)] [(.int (0 : Int32))]))
  exact Run.retI hS (by first | exact Nat.le_refl _ | (rw [e0]; exact (Nat.zero_le _))) X0 hx hret hlk (hb hby d8_25) (by first | (rw [e0]; exact ⟨rfl, N0, (Keep.refl h0 [ds])⟩) | exact ⟨rfl, N0, (Keep.refl h0 [ds])⟩) (by decide) (by decide)
theorem d8_26 : decode jdk_52_method_21_code 26 = .ok (.aload_n 2, 1) := by decide +kernel
theorem d8_27 : decode jdk_52_method_21_code 27 = .ok (.iload_n 3, 1) := by decide +kernel
theorem d8_28 : decode jdk_52_method_21_code 28 = .ok (.iload 6, 2) := by decide +kernel
theorem d8_30 : decode jdk_52_method_21_code 30 = .ok (.i2b, 1) := by decide +kernel
theorem d8_31 : decode jdk_52_method_21_code 31 = .ok (.bastore, 1) := by decide +kernel
theorem d8_32 : decode jdk_52_method_21_code 32 = .ok (.iinc 1 1, 3) := by decide +kernel
theorem d8_35 : decode jdk_52_method_21_code 35 = .ok (.iinc 3 1, 3) := by decide +kernel
theorem d8_38 : decode jdk_52_method_21_code 38 = .ok (.iinc 5 1, 3) := by decide +kernel
theorem d8_41 : decode jdk_52_method_21_code 41 = .ok (.goto (-38), 3) := by decide +kernel
theorem d8_44 : decode jdk_52_method_21_code 44 = .ok (.iload 4, 2) := by decide +kernel
theorem d8_46 : decode jdk_52_method_21_code 46 = .ok (.ireturn, 1) := by decide +kernel
set_option maxRecDepth 65536 in
set_option maxHeartbeats 40000000 in
theorem rmC2_1_1 (l : Launch) (Z : State) (a0 : Array Value) (hw : ∀ d ∈ tables_1, d.before a0 Z = true) (ar : Addr) (ds : Addr) (kc : ClassId) (kb : ClassId) (c0 : Int32) (h0 : Heap) (n0 : Nat) (Z0 : n0 ≤ h0.size) (AC : Arv Z h0 ar kc .char 1 [(.int c0)] (.int 0)) (AB : Arv Z h0 ds kb .byte 1 [(.int (0 : Int32))] (.int 0)) (nad : ar ≠ ds) (g_ds : n0 ≤ ds) (q0 : ¬ (255 : Int32) < c0) :
    Con l (⟨"java/lang/StringUTF16", "compress", "([CI[BII)I"⟩ : MethodName) jdk_52_method_21_code 7 (some .int) ({ frames := 0, cells := 0, slots := 0, locals := 0 } : Room) Z #[(.ref ar), (.int (0 : Int32)), (.ref ds), (.int (0 : Int32)), (.int (1 : Int32))] h0 (fun _ => True) (fun v h L vm => v = some (.int 1) ∧ Fr n0 L ∧ Keep h0 h [ds] ∧ Arv Z h ds kb .byte 1 [(.int (nar .byte (c0.toInt8.toInt32)))] (.int 0)) := by
  refine Con.mk (plainFor_of_name pn_8) (fun m => show entryFrame m #[(.ref ar), (.int (0 : Int32)), (.ref ds), (.int (0 : Int32)), (.int (1 : Int32))] 7 = mkF m 0 #[.val (.ref ar), .val (.int (0 : Int32)), .val (.ref ds), .val (.int (0 : Int32)), .val (.int (1 : Int32)), .unset, .unset] [] by first | (simp [entryFrame, mkF, argsToLocals, Value.category]; done) | rfl) ?_
  intro p e s m below meth c s₁ vm0 hx hby hml hown hnm hret hlk hZ X0 e0 hS hs0 hP0
  have N0 := Fr.nil n0
  show Run p e below s _ _ _ (s₁.setTop (mkF m 0 #[.val (.ref ar), .val (.int (0 : Int32)), .val (.ref ds), .val (.int (0 : Int32)), .val (.int (1 : Int32)), .unset, .unset] []))
  refine Run.pre (fun _ k => XS.iconst X0.here hx rfl (hb hby d8_0) k) ?_
  show Run p e below s _ _ _ (s₁.setTop (mkF m 1 #[.val (.ref ar), .val (.int (0 : Int32)), .val (.ref ds), .val (.int (0 : Int32)), .val (.int (1 : Int32)), .unset, .unset] [(.int (0 : Int32))]))
  refine Run.pre (fun _ k => XS.istore X0.here hx rfl (hb hby d8_1) rfl (l' := #[.val (.ref ar), .val (.int (0 : Int32)), .val (.ref ds), .val (.int (0 : Int32)), .val (.int (1 : Int32)), .val (.int (0 : Int32)), .unset]) rfl k) ?_
  show Run p e below s _ _ _ (s₁.setTop (mkF m 3 #[.val (.ref ar), .val (.int (0 : Int32)), .val (.ref ds), .val (.int (0 : Int32)), .val (.int (1 : Int32)), .val (.int (0 : Int32)), .unset] []))
  refine Run.pre (fun _ k => XS.iload X0.here hx rfl (hb hby d8_3) rfl  k) ?_
  show Run p e below s _ _ _ (s₁.setTop (mkF m 5 #[.val (.ref ar), .val (.int (0 : Int32)), .val (.ref ds), .val (.int (0 : Int32)), .val (.int (1 : Int32)), .val (.int (0 : Int32)), .unset] [(.int (0 : Int32))]))
  refine Run.pre (fun _ k => XS.iload X0.here hx rfl (hb hby d8_5) rfl  k) ?_
  show Run p e below s _ _ _ (s₁.setTop (mkF m 7 #[.val (.ref ar), .val (.int (0 : Int32)), .val (.ref ds), .val (.int (0 : Int32)), .val (.int (1 : Int32)), .val (.int (0 : Int32)), .unset] [(.int (1 : Int32)), (.int (0 : Int32))]))
  refine Run.pre (fun _ k => XS.icmpNo X0.here hx rfl (hb hby d8_7) rfl (tlt ((by decide) : (0 : Int32) < (1 : Int32))).2.1 k) ?_
  show Run p e below s _ _ _ (s₁.setTop (mkF m 10 #[.val (.ref ar), .val (.int (0 : Int32)), .val (.ref ds), .val (.int (0 : Int32)), .val (.int (1 : Int32)), .val (.int (0 : Int32)), .unset] []))
  refine Run.pre (fun _ k => XS.aloadN X0.here hx rfl (hb hby d8_10) rfl rfl k) ?_
  show Run p e below s _ _ _ (s₁.setTop (mkF m 11 #[.val (.ref ar), .val (.int (0 : Int32)), .val (.ref ds), .val (.int (0 : Int32)), .val (.int (1 : Int32)), .val (.int (0 : Int32)), .unset] [(.ref ar)]))
  refine Run.pre (fun _ k => XS.iloadN X0.here hx rfl (hb hby d8_11) rfl  k) ?_
  show Run p e below s _ _ _ (s₁.setTop (mkF m 12 #[.val (.ref ar), .val (.int (0 : Int32)), .val (.ref ds), .val (.int (0 : Int32)), .val (.int (1 : Int32)), .val (.int (0 : Int32)), .unset] [(.int (0 : Int32)), (.ref ar)]))
  obtain ⟨c2, Ar2, -, S2, N2, H2, -⟩ := id AC
  have hin2 : ¬ ((0 : Int32) < 0 ∨ c2.slots.size ≤ ((0 : Int32)).toNatClampNeg) := inb_of S2 ⟨by decide, by decide⟩
  refine Run.pre (X0.caload hx (j := (0 : Int32)) (v := (.int c0)) (by rw [e0]; exact Ar2.1) (State.isArrayOf_alike hZ.alike Ar2.2.1) Ar2.2.2 hin2 (H2.at hin2 rfl) (g := (mkF m 12 #[.val (.ref ar), .val (.int (0 : Int32)), .val (.ref ds), .val (.int (0 : Int32)), .val (.int (1 : Int32)), .val (.int (0 : Int32)), .unset] [(.int (0 : Int32)), (.ref ar)])) rfl rfl (hb hby d8_12)) ?_
  show Run p e below s _ _ _ (s₁.setTop (mkF m 13 #[.val (.ref ar), .val (.int (0 : Int32)), .val (.ref ds), .val (.int (0 : Int32)), .val (.int (1 : Int32)), .val (.int (0 : Int32)), .unset] [(.int c0)]))
  refine Run.pre (fun _ k => XS.istore X0.here hx rfl (hb hby d8_13) rfl (l' := #[.val (.ref ar), .val (.int (0 : Int32)), .val (.ref ds), .val (.int (0 : Int32)), .val (.int (1 : Int32)), .val (.int (0 : Int32)), .val (.int c0)]) rfl k) ?_
  show Run p e below s _ _ _ (s₁.setTop (mkF m 15 #[.val (.ref ar), .val (.int (0 : Int32)), .val (.ref ds), .val (.int (0 : Int32)), .val (.int (1 : Int32)), .val (.int (0 : Int32)), .val (.int c0)] []))
  refine Run.pre (fun _ k => XS.iload X0.here hx rfl (hb hby d8_15) rfl  k) ?_
  show Run p e below s _ _ _ (s₁.setTop (mkF m 17 #[.val (.ref ar), .val (.int (0 : Int32)), .val (.ref ds), .val (.int (0 : Int32)), .val (.int (1 : Int32)), .val (.int (0 : Int32)), .val (.int c0)] [(.int c0)]))
  refine Run.pre (fun _ k => XS.sipush X0.here hx rfl (hb hby d8_17) k) ?_
  show Run p e below s _ _ _ (s₁.setTop (mkF m 20 #[.val (.ref ar), .val (.int (0 : Int32)), .val (.ref ds), .val (.int (0 : Int32)), .val (.int (1 : Int32)), .val (.int (0 : Int32)), .val (.int c0)] [(.int (255 : Int32)), (.int c0)]))
  refine Run.pre (fun _ k => XS.icmpYes X0.here hx rfl (pc0 := 20) (pc' := 26) rfl (hb hby d8_20) rfl (flt (q0 : ¬ ((255 : Int32) < c0))).2.2.2 (by decide) (by decide) k) ?_
  show Run p e below s _ _ _ (s₁.setTop (mkF m 26 #[.val (.ref ar), .val (.int (0 : Int32)), .val (.ref ds), .val (.int (0 : Int32)), .val (.int (1 : Int32)), .val (.int (0 : Int32)), .val (.int c0)] []))
  refine Run.pre (fun _ k => XS.aloadN X0.here hx rfl (hb hby d8_26) rfl rfl k) ?_
  show Run p e below s _ _ _ (s₁.setTop (mkF m 27 #[.val (.ref ar), .val (.int (0 : Int32)), .val (.ref ds), .val (.int (0 : Int32)), .val (.int (1 : Int32)), .val (.int (0 : Int32)), .val (.int c0)] [(.ref ds)]))
  refine Run.pre (fun _ k => XS.iloadN X0.here hx rfl (hb hby d8_27) rfl  k) ?_
  show Run p e below s _ _ _ (s₁.setTop (mkF m 28 #[.val (.ref ar), .val (.int (0 : Int32)), .val (.ref ds), .val (.int (0 : Int32)), .val (.int (1 : Int32)), .val (.int (0 : Int32)), .val (.int c0)] [(.int (0 : Int32)), (.ref ds)]))
  refine Run.pre (fun _ k => XS.iload X0.here hx rfl (hb hby d8_28) rfl  k) ?_
  show Run p e below s _ _ _ (s₁.setTop (mkF m 30 #[.val (.ref ar), .val (.int (0 : Int32)), .val (.ref ds), .val (.int (0 : Int32)), .val (.int (1 : Int32)), .val (.int (0 : Int32)), .val (.int c0)] [(.int c0), (.int (0 : Int32)), (.ref ds)]))
  refine Run.pre (fun _ k => XS.i2b X0.here hx rfl (hb hby d8_30) rfl k) ?_
  show Run p e below s _ _ _ (s₁.setTop (mkF m 31 #[.val (.ref ar), .val (.int (0 : Int32)), .val (.ref ds), .val (.int (0 : Int32)), .val (.int (1 : Int32)), .val (.int (0 : Int32)), .val (.int c0)] [(.int (c0.toInt8.toInt32)), (.int (0 : Int32)), (.ref ds)]))
  obtain ⟨c3, Ar3, q3, S3, N3, H3, G3⟩ := id AB
  have hin3 : ¬ ((0 : Int32) < 0 ∨ c3.slots.size ≤ ((0 : Int32)).toNatClampNeg) := inb_of S3 ⟨by decide, by decide⟩
  obtain ⟨T4, h4, X4, e4, W4, st4⟩ := stB X0 hx hZ e0 Ar3 (j := (0 : Int32)) hin3 (g := (mkF m 31 #[.val (.ref ar), .val (.int (0 : Int32)), .val (.ref ds), .val (.int (0 : Int32)), .val (.int (1 : Int32)), .val (.int (0 : Int32)), .val (.int c0)] [(.int (c0.toInt8.toInt32)), (.int (0 : Int32)), (.ref ds)])) rfl rfl (hb hby d8_31)
  refine Run.pre st4 ?_
  have V_ds_4 : Arv Z h4 ds kb .byte (1 : Int32) [(.int (nar .byte (c0.toInt8.toInt32)))] (.int (0 : Int32)) := Arv.set Ar3 q3 S3 N3 H3 G3 (fits_nar_byte _) W4 0 rfl (Nat.le_of_ble_eq_true rfl)
  have K4 : Keep h0 h4 [ds] := (Keep.refl h0 [ds]).wr W4 (Or.inl (by simp))
  have N4 := Fr.snoc X4 N0 g_ds
  show Run p e below s _ _ _ (T4.setTop (mkF m 32 #[.val (.ref ar), .val (.int (0 : Int32)), .val (.ref ds), .val (.int (0 : Int32)), .val (.int (1 : Int32)), .val (.int (0 : Int32)), .val (.int c0)] []))
  refine Run.pre (fun _ k => XS.iinc X4.here hx rfl (hb hby d8_32) rfl (l' := #[.val (.ref ar), .val (.int (1 : Int32)), .val (.ref ds), .val (.int (0 : Int32)), .val (.int (1 : Int32)), .val (.int (0 : Int32)), .val (.int c0)]) rfl k) ?_
  show Run p e below s _ _ _ (T4.setTop (mkF m 35 #[.val (.ref ar), .val (.int (1 : Int32)), .val (.ref ds), .val (.int (0 : Int32)), .val (.int (1 : Int32)), .val (.int (0 : Int32)), .val (.int c0)] []))
  refine Run.pre (fun _ k => XS.iinc X4.here hx rfl (hb hby d8_35) rfl (l' := #[.val (.ref ar), .val (.int (1 : Int32)), .val (.ref ds), .val (.int (1 : Int32)), .val (.int (1 : Int32)), .val (.int (0 : Int32)), .val (.int c0)]) rfl k) ?_
  show Run p e below s _ _ _ (T4.setTop (mkF m 38 #[.val (.ref ar), .val (.int (1 : Int32)), .val (.ref ds), .val (.int (1 : Int32)), .val (.int (1 : Int32)), .val (.int (0 : Int32)), .val (.int c0)] []))
  refine Run.pre (fun _ k => XS.iinc X4.here hx rfl (hb hby d8_38) rfl (l' := #[.val (.ref ar), .val (.int (1 : Int32)), .val (.ref ds), .val (.int (1 : Int32)), .val (.int (1 : Int32)), .val (.int (1 : Int32)), .val (.int c0)]) rfl k) ?_
  show Run p e below s _ _ _ (T4.setTop (mkF m 41 #[.val (.ref ar), .val (.int (1 : Int32)), .val (.ref ds), .val (.int (1 : Int32)), .val (.int (1 : Int32)), .val (.int (1 : Int32)), .val (.int c0)] []))
  refine Run.pre (fun _ k => XS.goto X4.here hx rfl (pc0 := 41) (pc' := 3) rfl (hb hby d8_41) (by decide) (by decide) k) ?_
  show Run p e below s _ _ _ (T4.setTop (mkF m 3 #[.val (.ref ar), .val (.int (1 : Int32)), .val (.ref ds), .val (.int (1 : Int32)), .val (.int (1 : Int32)), .val (.int (1 : Int32)), .val (.int c0)] []))
  refine Run.pre (fun _ k => XS.iload X4.here hx rfl (hb hby d8_3) rfl  k) ?_
  show Run p e below s _ _ _ (T4.setTop (mkF m 5 #[.val (.ref ar), .val (.int (1 : Int32)), .val (.ref ds), .val (.int (1 : Int32)), .val (.int (1 : Int32)), .val (.int (1 : Int32)), .val (.int c0)] [(.int (1 : Int32))]))
  refine Run.pre (fun _ k => XS.iload X4.here hx rfl (hb hby d8_5) rfl  k) ?_
  show Run p e below s _ _ _ (T4.setTop (mkF m 7 #[.val (.ref ar), .val (.int (1 : Int32)), .val (.ref ds), .val (.int (1 : Int32)), .val (.int (1 : Int32)), .val (.int (1 : Int32)), .val (.int c0)] [(.int (1 : Int32)), (.int (1 : Int32))]))
  refine Run.pre (fun _ k => XS.icmpYes X4.here hx rfl (pc0 := 7) (pc' := 44) rfl (hb hby d8_7) rfl (flt ((by decide) : ¬ ((1 : Int32) < (1 : Int32)))).2.1 (by decide) (by decide) k) ?_
  show Run p e below s _ _ _ (T4.setTop (mkF m 44 #[.val (.ref ar), .val (.int (1 : Int32)), .val (.ref ds), .val (.int (1 : Int32)), .val (.int (1 : Int32)), .val (.int (1 : Int32)), .val (.int c0)] []))
  refine Run.pre (fun _ k => XS.iload X4.here hx rfl (hb hby d8_44) rfl  k) ?_
  show Run p e below s _ _ _ (T4.setTop (mkF m 46 #[.val (.ref ar), .val (.int (1 : Int32)), .val (.ref ds), .val (.int (1 : Int32)), .val (.int (1 : Int32)), .val (.int (1 : Int32)), .val (.int c0)] [(.int (1 : Int32))]))
  exact Run.retI hS (by first | exact Nat.le_refl _ | (rw [e4]; exact (Nat.le_trans (Nat.zero_le _) (Keep.of_wr W4).1))) X4 hx hret hlk (hb hby d8_46) (by first | (rw [e4]; exact ⟨rfl, N4, K4, V_ds_4⟩) | exact ⟨rfl, N4, K4, V_ds_4⟩) (by decide) (by decide)
theorem d11_0 : decode jdk_52_method_3_code 0 = .ok (.iload_n 0, 1) := by decide +kernel
theorem d11_1 : decode jdk_52_method_3_code 1 = .ok (.ifCond .ge 11, 3) := by decide +kernel
theorem d11_12 : decode jdk_52_method_3_code 12 = .ok (.iload_n 0, 1) := by decide +kernel
theorem d11_13 : decode jdk_52_method_3_code 13 = .ok (.ldc 20, 2) := by decide +kernel
theorem d11_15 : decode jdk_52_method_3_code 15 = .ok (.if_icmp .lt 40, 3) := by decide +kernel
theorem d11_55 : decode jdk_52_method_3_code 55 = .ok (.iload_n 0, 1) := by decide +kernel
theorem d11_56 : decode jdk_52_method_3_code 56 = .ok (.iconst 1, 1) := by decide +kernel
theorem d11_57 : decode jdk_52_method_3_code 57 = .ok (.ishl, 1) := by decide +kernel
theorem d11_58 : decode jdk_52_method_3_code 58 = .ok (.ireturn, 1) := by decide +kernel
theorem pn_11 : plainName "java/lang/StringUTF16" = true := by first | (simp [plainName, overriddenIn]; done) | decide +kernel
set_option maxRecDepth 65536 in
set_option maxHeartbeats 40000000 in
theorem rmNL_1 (l : Launch) (Z : State) (a0 : Array Value) (hw : ∀ d ∈ tables_1, d.before a0 Z = true)  (h0 : Heap) (n0 : Nat) (Z0 : n0 ≤ h0.size) :
    Con l (⟨"java/lang/StringUTF16", "newBytesLength", "(I)I"⟩ : MethodName) jdk_52_method_3_code 1 (some .int) ({ frames := 0, cells := 0, slots := 0, locals := 0 } : Room) Z #[(.int (1 : Int32))] h0 (fun _ => True) (fun v h L vm => v = some (.int 2) ∧ Fr n0 L ∧ h = h0) := by
  refine Con.mk (plainFor_of_name pn_11) (fun m => show entryFrame m #[(.int (1 : Int32))] 1 = mkF m 0 #[.val (.int (1 : Int32))] [] by first | (simp [entryFrame, mkF, argsToLocals, Value.category]; done) | rfl) ?_
  intro p e s m below meth c s₁ vm0 hx hby hml hown hnm hret hlk hZ X0 e0 hS hs0 hP0
  have N0 := Fr.nil n0
  show Run p e below s _ _ _ (s₁.setTop (mkF m 0 #[.val (.int (1 : Int32))] []))
  refine Run.pre (fun _ k => XS.iloadN X0.here hx rfl (hb hby d11_0) rfl  k) ?_
  show Run p e below s _ _ _ (s₁.setTop (mkF m 1 #[.val (.int (1 : Int32))] [(.int (1 : Int32))]))
  refine Run.pre (fun _ k => XS.ifYes X0.here hx rfl (pc0 := 1) (pc' := 12) rfl (hb hby d11_1) rfl ((if0 _ _).trans (flt ((by decide) : ¬ ((1 : Int32) < (0 : Int32)))).2.1) (by decide) (by decide) k) ?_
  show Run p e below s _ _ _ (s₁.setTop (mkF m 12 #[.val (.int (1 : Int32))] []))
  refine Run.pre (fun _ k => XS.iloadN X0.here hx rfl (hb hby d11_12) rfl  k) ?_
  show Run p e below s _ _ _ (s₁.setTop (mkF m 13 #[.val (.int (1 : Int32))] [(.int (1 : Int32))]))
  refine Run.pre (X0.ldcInt hx hown (mvT hZ (hw _ (List.mem_of_getElem? (i := 53) rfl))) (g := (mkF m 13 #[.val (.int (1 : Int32))] [(.int (1 : Int32))])) rfl (hb hby d11_13)) ?_
  show Run p e below s _ _ _ (s₁.setTop (mkF m 15 #[.val (.int (1 : Int32))] [(.int (1073741823 : Int32)), (.int (1 : Int32))]))
  refine Run.pre (fun _ k => XS.icmpYes X0.here hx rfl (pc0 := 15) (pc' := 55) rfl (hb hby d11_15) rfl (tlt ((by decide) : (1 : Int32) < (1073741823 : Int32))).1 (by decide) (by decide) k) ?_
  show Run p e below s _ _ _ (s₁.setTop (mkF m 55 #[.val (.int (1 : Int32))] []))
  refine Run.pre (fun _ k => XS.iloadN X0.here hx rfl (hb hby d11_55) rfl  k) ?_
  show Run p e below s _ _ _ (s₁.setTop (mkF m 56 #[.val (.int (1 : Int32))] [(.int (1 : Int32))]))
  refine Run.pre (fun _ k => XS.iconst X0.here hx rfl (hb hby d11_56) k) ?_
  show Run p e below s _ _ _ (s₁.setTop (mkF m 57 #[.val (.int (1 : Int32))] [(.int (1 : Int32)), (.int (1 : Int32))]))
  refine Run.pre (fun _ k => XS.ishl X0.here hx rfl (hb hby d11_57) rfl k) ?_
  show Run p e below s _ _ _ (s₁.setTop (mkF m 58 #[.val (.int (1 : Int32))] [(.int (2 : Int32))]))
  exact Run.retI hS (by first | exact Nat.le_refl _ | (rw [e0]; exact (Nat.zero_le _))) X0 hx hret hlk (hb hby d11_58) (by first | (rw [e0]; exact ⟨rfl, N0, rfl⟩) | exact ⟨rfl, N0, rfl⟩) (by decide) (by decide)
theorem d10_0 : decode jdk_52_method_2_code 0 = .ok (.iload_n 0, 1) := by decide +kernel
theorem pd_0 : parseMethodDescriptor "(I)I" = some ⟨[.int], some .int⟩ := by decide +kernel
theorem d10_1 : decode jdk_52_method_2_code 1 = .ok (.invokestatic 11, 3) := by decide +kernel
theorem d10_4 : decode jdk_52_method_2_code 4 = .ok (.newarray .byte, 2) := by decide +kernel
theorem d10_6 : decode jdk_52_method_2_code 6 = .ok (.areturn, 1) := by decide +kernel
theorem pn_10 : plainName "java/lang/StringUTF16" = true := by first | (simp [plainName, overriddenIn]; done) | decide +kernel
set_option maxRecDepth 65536 in
set_option maxHeartbeats 40000000 in
theorem rmNF_1 (l : Launch) (Z : State) (a0 : Array Value) (hw : ∀ d ∈ tables_1, d.before a0 Z = true)  (h0 : Heap) (n0 : Nat) (Z0 : n0 ≤ h0.size) :
    Con l (⟨"java/lang/StringUTF16", "newBytesFor", "(I)[B"⟩ : MethodName) jdk_52_method_2_code 1 (some (.array .byte)) ({ frames := 1, cells := 1, slots := 2, locals := 12 } : Room) Z #[(.int (1 : Int32))] h0 (fun _ => True) (fun v h L vm => ∃ b : Addr, ∃ k : ClassId, v = some (.ref b) ∧ Fr n0 L ∧ Keep h0 h [] ∧ h0.size ≤ b ∧ Arv Z h b k .byte 2 [(.int (0 : Int32)), (.int (0 : Int32))] (.int 0)) := by
  refine Con.mk (plainFor_of_name pn_10) (fun m => show entryFrame m #[(.int (1 : Int32))] 1 = mkF m 0 #[.val (.int (1 : Int32))] [] by first | (simp [entryFrame, mkF, argsToLocals, Value.category]; done) | rfl) ?_
  intro p e s m below meth c s₁ vm0 hx hby hml hown hnm hret hlk hZ X0 e0 hS hs0 hP0
  have N0 := Fr.nil n0
  show Run p e below s _ _ _ (s₁.setTop (mkF m 0 #[.val (.int (1 : Int32))] []))
  refine Run.pre (fun _ k => XS.iloadN X0.here hx rfl (hb hby d10_0) rfl  k) ?_
  show Run p e below s _ _ _ (s₁.setTop (mkF m 1 #[.val (.int (1 : Int32))] [(.int (1 : Int32))]))
  refine Run.callS hS (by first | exact Nat.le_refl _ | (rw [e0]; exact (Nat.zero_le _))) X0 hx hZ (y := (⟨"java/lang/StringUTF16", "newBytesLength", "(I)I"⟩ : MethodName)) hown (hw _ (List.mem_of_getElem? (i := 50) rfl)) (hw _ (List.mem_of_getElem? (i := 51) rfl)) (hw _ (List.mem_of_getElem? (i := 39) rfl)) (hw _ (List.mem_of_getElem? (i := 52) rfl)) (by decide) (W := 0) (rmNL_1 l Z a0 hw h0 n0 (Nat.le_trans Z0 (Keep.refl h0 []).1)) e0 (by decide) (by decide) (by decide) (by decide) (fun _ _ => trivial) (g := (mkF m 1 #[.val (.int (1 : Int32))] [(.int (1 : Int32))])) rfl (by rw [hml]; rfl) (argsL := [(.int (1 : Int32))]) (rest := []) (lenOf pd_0 rfl) rfl (by show 2 * 0 + _ ≤ _; exact Nat.le_of_eq rfl) (hb hby d10_1) ?_
  intro v5 T5 L5 X5 hS hZ hown hV5 hQ5
  obtain ⟨rfl, Nq5, he5⟩ := hQ5
  have N5 := Fr.app N0 Nq5
  have e5 : T5.heap = h0 := he5
  show Run p e below s _ _ _ (T5.setTop (mkF m 4 #[.val (.int (1 : Int32))] [(.int (2 : Int32))]))
  obtain ⟨T6, h6, k6, X6, e6, E6, A6, st6⟩ := newP X5 hx hZ (hw _ (List.mem_of_getElem? (i := 20) rfl)) e5 (g := (mkF m 4 #[.val (.int (1 : Int32))] [(.int (2 : Int32))])) rfl (hb hby d10_4) rfl (by decide) (cap := 2) (by decide) (by decide) (by decide) (by decide)
  obtain ⟨b6, g6⟩ : ∃ z, z = h0.size := ⟨_, rfl⟩
  rw [← g6] at A6 st6
  refine Run.pre st6 ?_
  have V_b6 : Arv Z h6 b6 k6 .byte (2 : Int32) [(.int (0 : Int32)), (.int (0 : Int32))] (.int (0 : Int32)) := (Arv.new A6 (by decide)).pad (pad_rep [] (.int (0 : Int32)) 2)
  have gn_b6 : n0 ≤ b6 := Nat.le_trans (Nat.le_trans Z0 (Keep.refl h0 []).1) (Nat.le_of_eq g6.symm)
  have sz_b6 : h0.size ≤ b6 := Nat.le_trans (Keep.refl h0 []).1 (Nat.le_of_eq g6.symm)
  have K6 : Keep h0 h6 [] := (Keep.refl h0 []).ext E6
  show Run p e below s _ _ _ (T6.setTop (mkF m 6 #[.val (.int (1 : Int32))] [(.ref b6)]))
  exact Run.retA hS (by first | exact Nat.le_refl _ | (rw [e6]; exact (Nat.le_trans (Nat.le_of_eq (congrArg Array.size e5)) E6.1))) X6 hx hret rfl rfl hlk (hb hby d10_6) (by first | (rw [e6]; exact ⟨b6, k6, rfl, N5, K6, sz_b6, V_b6⟩) | exact ⟨b6, k6, rfl, N5, K6, sz_b6, V_b6⟩) (by decide) (by decide)
theorem d12_0 : decode jdk_52_method_4_code 0 = .ok (.getstatic 44, 3) := by decide +kernel
theorem d12_3 : decode jdk_52_method_4_code 3 = .ok (.ifCond .ne 25, 3) := by decide +kernel
theorem d12_28 : decode jdk_52_method_4_code 28 = .ok (.iload_n 1, 1) := by decide +kernel
theorem d12_29 : decode jdk_52_method_4_code 29 = .ok (.iconst 1, 1) := by decide +kernel
theorem d12_30 : decode jdk_52_method_4_code 30 = .ok (.ishl, 1) := by decide +kernel
theorem d12_31 : decode jdk_52_method_4_code 31 = .ok (.istore_n 1, 1) := by decide +kernel
theorem d12_32 : decode jdk_52_method_4_code 32 = .ok (.aload_n 0, 1) := by decide +kernel
theorem d12_33 : decode jdk_52_method_4_code 33 = .ok (.iload_n 1, 1) := by decide +kernel
theorem d12_34 : decode jdk_52_method_4_code 34 = .ok (.iinc 1 1, 3) := by decide +kernel
theorem d12_37 : decode jdk_52_method_4_code 37 = .ok (.iload_n 2, 1) := by decide +kernel
theorem d12_38 : decode jdk_52_method_4_code 38 = .ok (.getstatic 59, 3) := by decide +kernel
theorem d12_41 : decode jdk_52_method_4_code 41 = .ok (.ishr, 1) := by decide +kernel
theorem d12_42 : decode jdk_52_method_4_code 42 = .ok (.i2b, 1) := by decide +kernel
theorem d12_43 : decode jdk_52_method_4_code 43 = .ok (.bastore, 1) := by decide +kernel
theorem d12_44 : decode jdk_52_method_4_code 44 = .ok (.aload_n 0, 1) := by decide +kernel
theorem d12_45 : decode jdk_52_method_4_code 45 = .ok (.iload_n 1, 1) := by decide +kernel
theorem d12_46 : decode jdk_52_method_4_code 46 = .ok (.iload_n 2, 1) := by decide +kernel
theorem d12_47 : decode jdk_52_method_4_code 47 = .ok (.getstatic 63, 3) := by decide +kernel
theorem d12_50 : decode jdk_52_method_4_code 50 = .ok (.ishr, 1) := by decide +kernel
theorem d12_51 : decode jdk_52_method_4_code 51 = .ok (.i2b, 1) := by decide +kernel
theorem d12_52 : decode jdk_52_method_4_code 52 = .ok (.bastore, 1) := by decide +kernel
theorem d12_53 : decode jdk_52_method_4_code 53 = .ok (.return_, 1) := by decide +kernel
theorem pn_12 : plainName "java/lang/StringUTF16" = true := by first | (simp [plainName, overriddenIn]; done) | decide +kernel
set_option maxRecDepth 65536 in
set_option maxHeartbeats 40000000 in
theorem rmPC_1_0 (l : Launch) (Z : State) (a0 : Array Value) (hw : ∀ d ∈ tables_1, d.before a0 Z = true) (b : Addr) (kb : ClassId) (cj : Int32) (y0 : Int32) (y1 : Int32) (h0 : Heap) (n0 : Nat) (Z0 : n0 ≤ h0.size) (OL : Old Z n0 h0) (SA : Sta Z Z.heap "java/lang/StringUTF16" "$assertionsDisabled" "Z" (.int 1)) (SH : Sta Z Z.heap "java/lang/StringUTF16" "HI_BYTE_SHIFT" "I" (.int 0)) (SL : Sta Z Z.heap "java/lang/StringUTF16" "LO_BYTE_SHIFT" "I" (.int 8)) (AB : Arv Z h0 b kb .byte 2 [(.int y0), (.int y1)] (.int 0)) (g_b : n0 ≤ b) :
    Con l (⟨"java/lang/StringUTF16", "putChar", "([BII)V"⟩ : MethodName) jdk_52_method_4_code 3 none ({ frames := 0, cells := 0, slots := 0, locals := 0 } : Room) Z #[(.ref b), (.int (0 : Int32)), (.int cj)] h0 (fun _ => True) (fun v h L vm => v = none ∧ Fr n0 L ∧ Keep h0 h [b] ∧ Arv Z h b kb .byte 2 [(.int (own_b0 cj)), (.int (own_b1 cj))] (.int 0)) := by
  refine Con.mk (plainFor_of_name pn_12) (fun m => show entryFrame m #[(.ref b), (.int (0 : Int32)), (.int cj)] 3 = mkF m 0 #[.val (.ref b), .val (.int (0 : Int32)), .val (.int cj)] [] by first | (simp [entryFrame, mkF, argsToLocals, Value.category]; done) | rfl) ?_
  intro p e s m below meth c s₁ vm0 hx hby hml hown hnm hret hlk hZ X0 e0 hS hs0 hP0
  have N0 := Fr.nil n0
  show Run p e below s _ _ _ (s₁.setTop (mkF m 0 #[.val (.ref b), .val (.int (0 : Int32)), .val (.int cj)] []))
  obtain ⟨T7, X7, e7, st7⟩ := getS2 X0 hx hZ hown (host := "") (Or.inl (hw _ (List.mem_of_getElem? (i := 57) rfl))) Via.refl e0 (SA.ext OL.2) (g := (mkF m 0 #[.val (.ref b), .val (.int (0 : Int32)), .val (.int cj)] [])) rfl (hb hby d12_0)
  refine Run.pre st7 ?_
  show Run p e below s _ _ _ (T7.setTop (mkF m 3 #[.val (.ref b), .val (.int (0 : Int32)), .val (.int cj)] [(.int (1 : Int32))]))
  refine Run.pre (fun _ k => XS.ifYes X7.here hx rfl (pc0 := 3) (pc' := 28) rfl (hb hby d12_3) rfl ((if0 _ _).trans (feq ((by decide) : ¬ ((1 : Int32) = (0 : Int32)))).2) (by decide) (by decide) k) ?_
  show Run p e below s _ _ _ (T7.setTop (mkF m 28 #[.val (.ref b), .val (.int (0 : Int32)), .val (.int cj)] []))
  refine Run.pre (fun _ k => XS.iloadN X7.here hx rfl (hb hby d12_28) rfl  k) ?_
  show Run p e below s _ _ _ (T7.setTop (mkF m 29 #[.val (.ref b), .val (.int (0 : Int32)), .val (.int cj)] [(.int (0 : Int32))]))
  refine Run.pre (fun _ k => XS.iconst X7.here hx rfl (hb hby d12_29) k) ?_
  show Run p e below s _ _ _ (T7.setTop (mkF m 30 #[.val (.ref b), .val (.int (0 : Int32)), .val (.int cj)] [(.int (1 : Int32)), (.int (0 : Int32))]))
  refine Run.pre (fun _ k => XS.ishl X7.here hx rfl (hb hby d12_30) rfl k) ?_
  show Run p e below s _ _ _ (T7.setTop (mkF m 31 #[.val (.ref b), .val (.int (0 : Int32)), .val (.int cj)] [(.int (0 : Int32))]))
  refine Run.pre (fun _ k => XS.istoreN X7.here hx rfl (hb hby d12_31) rfl (l' := #[.val (.ref b), .val (.int (0 : Int32)), .val (.int cj)]) rfl k) ?_
  show Run p e below s _ _ _ (T7.setTop (mkF m 32 #[.val (.ref b), .val (.int (0 : Int32)), .val (.int cj)] []))
  refine Run.pre (fun _ k => XS.aloadN X7.here hx rfl (hb hby d12_32) rfl rfl k) ?_
  show Run p e below s _ _ _ (T7.setTop (mkF m 33 #[.val (.ref b), .val (.int (0 : Int32)), .val (.int cj)] [(.ref b)]))
  refine Run.pre (fun _ k => XS.iloadN X7.here hx rfl (hb hby d12_33) rfl  k) ?_
  show Run p e below s _ _ _ (T7.setTop (mkF m 34 #[.val (.ref b), .val (.int (0 : Int32)), .val (.int cj)] [(.int (0 : Int32)), (.ref b)]))
  refine Run.pre (fun _ k => XS.iinc X7.here hx rfl (hb hby d12_34) rfl (l' := #[.val (.ref b), .val (.int (1 : Int32)), .val (.int cj)]) rfl k) ?_
  show Run p e below s _ _ _ (T7.setTop (mkF m 37 #[.val (.ref b), .val (.int (1 : Int32)), .val (.int cj)] [(.int (0 : Int32)), (.ref b)]))
  refine Run.pre (fun _ k => XS.iloadN X7.here hx rfl (hb hby d12_37) rfl  k) ?_
  show Run p e below s _ _ _ (T7.setTop (mkF m 38 #[.val (.ref b), .val (.int (1 : Int32)), .val (.int cj)] [(.int cj), (.int (0 : Int32)), (.ref b)]))
  obtain ⟨T8, X8, e8, st8⟩ := getS2 X7 hx hZ hown (host := "") (Or.inl (hw _ (List.mem_of_getElem? (i := 58) rfl))) Via.refl e7 (SH.ext OL.2) (g := (mkF m 38 #[.val (.ref b), .val (.int (1 : Int32)), .val (.int cj)] [(.int cj), (.int (0 : Int32)), (.ref b)])) rfl (hb hby d12_38)
  refine Run.pre st8 ?_
  show Run p e below s _ _ _ (T8.setTop (mkF m 41 #[.val (.ref b), .val (.int (1 : Int32)), .val (.int cj)] [(.int (0 : Int32)), (.int cj), (.int (0 : Int32)), (.ref b)]))
  refine Run.pre (fun _ k => XS.ishr X8.here hx rfl (hb hby d12_41) rfl k) ?_
  show Run p e below s _ _ _ (T8.setTop (mkF m 42 #[.val (.ref b), .val (.int (1 : Int32)), .val (.int cj)] [(.int (cj >>> ((0 : Int32) &&& 31))), (.int (0 : Int32)), (.ref b)]))
  refine Run.pre (fun _ k => XS.i2b X8.here hx rfl (hb hby d12_42) rfl k) ?_
  show Run p e below s _ _ _ (T8.setTop (mkF m 43 #[.val (.ref b), .val (.int (1 : Int32)), .val (.int cj)] [(.int ((cj >>> ((0 : Int32) &&& 31)).toInt8.toInt32)), (.int (0 : Int32)), (.ref b)]))
  obtain ⟨c9, Ar9, q9, S9, N9, H9, G9⟩ := id AB
  have hin9 : ¬ ((0 : Int32) < 0 ∨ c9.slots.size ≤ ((0 : Int32)).toNatClampNeg) := inb_of S9 ⟨by decide, by decide⟩
  obtain ⟨T10, h10, X10, e10, W10, st10⟩ := stB X8 hx hZ e8 Ar9 (j := (0 : Int32)) hin9 (g := (mkF m 43 #[.val (.ref b), .val (.int (1 : Int32)), .val (.int cj)] [(.int ((cj >>> ((0 : Int32) &&& 31)).toInt8.toInt32)), (.int (0 : Int32)), (.ref b)])) rfl rfl (hb hby d12_43)
  refine Run.pre st10 ?_
  have V_b_10 : Arv Z h10 b kb .byte (2 : Int32) [(.int (nar .byte ((cj >>> ((0 : Int32) &&& 31)).toInt8.toInt32))), (.int y1)] (.int (0 : Int32)) := Arv.set Ar9 q9 S9 N9 H9 G9 (fits_nar_byte _) W10 0 rfl (Nat.le_of_ble_eq_true rfl)
  have K10 : Keep h0 h10 [b] := (Keep.refl h0 [b]).wr W10 (Or.inl (by simp))
  have N10 := Fr.snoc X10 N0 g_b
  show Run p e below s _ _ _ (T10.setTop (mkF m 44 #[.val (.ref b), .val (.int (1 : Int32)), .val (.int cj)] []))
  refine Run.pre (fun _ k => XS.aloadN X10.here hx rfl (hb hby d12_44) rfl rfl k) ?_
  show Run p e below s _ _ _ (T10.setTop (mkF m 45 #[.val (.ref b), .val (.int (1 : Int32)), .val (.int cj)] [(.ref b)]))
  refine Run.pre (fun _ k => XS.iloadN X10.here hx rfl (hb hby d12_45) rfl  k) ?_
  show Run p e below s _ _ _ (T10.setTop (mkF m 46 #[.val (.ref b), .val (.int (1 : Int32)), .val (.int cj)] [(.int (1 : Int32)), (.ref b)]))
  refine Run.pre (fun _ k => XS.iloadN X10.here hx rfl (hb hby d12_46) rfl  k) ?_
  show Run p e below s _ _ _ (T10.setTop (mkF m 47 #[.val (.ref b), .val (.int (1 : Int32)), .val (.int cj)] [(.int cj), (.int (1 : Int32)), (.ref b)]))
  have f11 := (OL.wr W10 g_b)
  obtain ⟨T12, X12, e12, st12⟩ := getS2 X10 hx hZ hown (host := "") (Or.inl (hw _ (List.mem_of_getElem? (i := 59) rfl))) Via.refl e10 (SL.ext f11.2) (g := (mkF m 47 #[.val (.ref b), .val (.int (1 : Int32)), .val (.int cj)] [(.int cj), (.int (1 : Int32)), (.ref b)])) rfl (hb hby d12_47)
  refine Run.pre st12 ?_
  show Run p e below s _ _ _ (T12.setTop (mkF m 50 #[.val (.ref b), .val (.int (1 : Int32)), .val (.int cj)] [(.int (8 : Int32)), (.int cj), (.int (1 : Int32)), (.ref b)]))
  refine Run.pre (fun _ k => XS.ishr X12.here hx rfl (hb hby d12_50) rfl k) ?_
  show Run p e below s _ _ _ (T12.setTop (mkF m 51 #[.val (.ref b), .val (.int (1 : Int32)), .val (.int cj)] [(.int (cj >>> ((8 : Int32) &&& 31))), (.int (1 : Int32)), (.ref b)]))
  refine Run.pre (fun _ k => XS.i2b X12.here hx rfl (hb hby d12_51) rfl k) ?_
  show Run p e below s _ _ _ (T12.setTop (mkF m 52 #[.val (.ref b), .val (.int (1 : Int32)), .val (.int cj)] [(.int ((cj >>> ((8 : Int32) &&& 31)).toInt8.toInt32)), (.int (1 : Int32)), (.ref b)]))
  obtain ⟨c13, Ar13, q13, S13, N13, H13, G13⟩ := id V_b_10
  have hin13 : ¬ ((1 : Int32) < 0 ∨ c13.slots.size ≤ ((1 : Int32)).toNatClampNeg) := inb_of S13 ⟨by decide, by decide⟩
  obtain ⟨T14, h14, X14, e14, W14, st14⟩ := stB X12 hx hZ e12 Ar13 (j := (1 : Int32)) hin13 (g := (mkF m 52 #[.val (.ref b), .val (.int (1 : Int32)), .val (.int cj)] [(.int ((cj >>> ((8 : Int32) &&& 31)).toInt8.toInt32)), (.int (1 : Int32)), (.ref b)])) rfl rfl (hb hby d12_52)
  refine Run.pre st14 ?_
  have V_b_14 : Arv Z h14 b kb .byte (2 : Int32) [(.int (nar .byte ((cj >>> ((0 : Int32) &&& 31)).toInt8.toInt32))), (.int (nar .byte ((cj >>> ((8 : Int32) &&& 31)).toInt8.toInt32)))] (.int (0 : Int32)) := Arv.set Ar13 q13 S13 N13 H13 G13 (fits_nar_byte _) W14 1 rfl (Nat.le_of_ble_eq_true rfl)
  have K14 : Keep h0 h14 [b] := K10.wr W14 (Or.inl (by simp))
  have N14 := Fr.snoc X14 N10 g_b
  show Run p e below s _ _ _ (T14.setTop (mkF m 53 #[.val (.ref b), .val (.int (1 : Int32)), .val (.int cj)] []))
  exact Run.retV hS (by first | exact Nat.le_refl _ | (rw [e14]; exact (Nat.le_trans (Nat.le_trans (Nat.zero_le _) (Keep.of_wr W10).1) (Keep.of_wr W14).1))) X14 hx hret hlk (hb hby d12_53) (by first | (rw [e14]; exact ⟨rfl, N14, K14, V_b_14⟩) | exact ⟨rfl, N14, K14, V_b_14⟩) (by decide) (by decide)
theorem d13_0 : decode jdk_52_method_5_code 0 = .ok (.getstatic 44, 3) := by decide +kernel
theorem d13_3 : decode jdk_52_method_5_code 3 = .ok (.ifCond .ne 25, 3) := by decide +kernel
theorem d13_28 : decode jdk_52_method_5_code 28 = .ok (.iload_n 1, 1) := by decide +kernel
theorem d13_29 : decode jdk_52_method_5_code 29 = .ok (.iconst 1, 1) := by decide +kernel
theorem d13_30 : decode jdk_52_method_5_code 30 = .ok (.ishl, 1) := by decide +kernel
theorem d13_31 : decode jdk_52_method_5_code 31 = .ok (.istore_n 1, 1) := by decide +kernel
theorem d13_32 : decode jdk_52_method_5_code 32 = .ok (.aload_n 0, 1) := by decide +kernel
theorem d13_33 : decode jdk_52_method_5_code 33 = .ok (.iload_n 1, 1) := by decide +kernel
theorem d13_34 : decode jdk_52_method_5_code 34 = .ok (.iinc 1 1, 3) := by decide +kernel
theorem d13_37 : decode jdk_52_method_5_code 37 = .ok (.baload, 1) := by decide +kernel
theorem d13_38 : decode jdk_52_method_5_code 38 = .ok (.sipush 255, 3) := by decide +kernel
theorem d13_41 : decode jdk_52_method_5_code 41 = .ok (.iand, 1) := by decide +kernel
theorem d13_42 : decode jdk_52_method_5_code 42 = .ok (.getstatic 59, 3) := by decide +kernel
theorem d13_45 : decode jdk_52_method_5_code 45 = .ok (.ishl, 1) := by decide +kernel
theorem d13_46 : decode jdk_52_method_5_code 46 = .ok (.aload_n 0, 1) := by decide +kernel
theorem d13_47 : decode jdk_52_method_5_code 47 = .ok (.iload_n 1, 1) := by decide +kernel
theorem d13_48 : decode jdk_52_method_5_code 48 = .ok (.baload, 1) := by decide +kernel
theorem d13_49 : decode jdk_52_method_5_code 49 = .ok (.sipush 255, 3) := by decide +kernel
theorem d13_52 : decode jdk_52_method_5_code 52 = .ok (.iand, 1) := by decide +kernel
theorem d13_53 : decode jdk_52_method_5_code 53 = .ok (.getstatic 63, 3) := by decide +kernel
theorem d13_56 : decode jdk_52_method_5_code 56 = .ok (.ishl, 1) := by decide +kernel
theorem d13_57 : decode jdk_52_method_5_code 57 = .ok (.ior, 1) := by decide +kernel
theorem d13_58 : decode jdk_52_method_5_code 58 = .ok (.i2c, 1) := by decide +kernel
theorem d13_59 : decode jdk_52_method_5_code 59 = .ok (.ireturn, 1) := by decide +kernel
theorem pn_13 : plainName "java/lang/StringUTF16" = true := by first | (simp [plainName, overriddenIn]; done) | decide +kernel
set_option maxRecDepth 65536 in
set_option maxHeartbeats 40000000 in
theorem rmGC_1_0 (l : Launch) (Z : State) (a0 : Array Value) (hw : ∀ d ∈ tables_1, d.before a0 Z = true) (b : Addr) (kb : ClassId) (y0 : Int32) (y1 : Int32) (h0 : Heap) (n0 : Nat) (Z0 : n0 ≤ h0.size) (OL : Old Z n0 h0) (SA : Sta Z Z.heap "java/lang/StringUTF16" "$assertionsDisabled" "Z" (.int 1)) (SH : Sta Z Z.heap "java/lang/StringUTF16" "HI_BYTE_SHIFT" "I" (.int 0)) (SL : Sta Z Z.heap "java/lang/StringUTF16" "LO_BYTE_SHIFT" "I" (.int 8)) (AB : Arv Z h0 b kb .byte 2 [(.int y0), (.int y1)] (.int 0)) :
    Con l (⟨"java/lang/StringUTF16", "getChar", "([BI)C"⟩ : MethodName) jdk_52_method_5_code 2 (some .char) ({ frames := 0, cells := 0, slots := 0, locals := 0 } : Room) Z #[(.ref b), (.int (0 : Int32))] h0 (fun _ => True) (fun v h L vm => v = some (.int (own_gcv y0 y1)) ∧ Fr n0 L ∧ h = h0) := by
  refine Con.mk (plainFor_of_name pn_13) (fun m => show entryFrame m #[(.ref b), (.int (0 : Int32))] 2 = mkF m 0 #[.val (.ref b), .val (.int (0 : Int32))] [] by first | (simp [entryFrame, mkF, argsToLocals, Value.category]; done) | rfl) ?_
  intro p e s m below meth c s₁ vm0 hx hby hml hown hnm hret hlk hZ X0 e0 hS hs0 hP0
  have N0 := Fr.nil n0
  show Run p e below s _ _ _ (s₁.setTop (mkF m 0 #[.val (.ref b), .val (.int (0 : Int32))] []))
  obtain ⟨T15, X15, e15, st15⟩ := getS2 X0 hx hZ hown (host := "") (Or.inl (hw _ (List.mem_of_getElem? (i := 57) rfl))) Via.refl e0 (SA.ext OL.2) (g := (mkF m 0 #[.val (.ref b), .val (.int (0 : Int32))] [])) rfl (hb hby d13_0)
  refine Run.pre st15 ?_
  show Run p e below s _ _ _ (T15.setTop (mkF m 3 #[.val (.ref b), .val (.int (0 : Int32))] [(.int (1 : Int32))]))
  refine Run.pre (fun _ k => XS.ifYes X15.here hx rfl (pc0 := 3) (pc' := 28) rfl (hb hby d13_3) rfl ((if0 _ _).trans (feq ((by decide) : ¬ ((1 : Int32) = (0 : Int32)))).2) (by decide) (by decide) k) ?_
  show Run p e below s _ _ _ (T15.setTop (mkF m 28 #[.val (.ref b), .val (.int (0 : Int32))] []))
  refine Run.pre (fun _ k => XS.iloadN X15.here hx rfl (hb hby d13_28) rfl  k) ?_
  show Run p e below s _ _ _ (T15.setTop (mkF m 29 #[.val (.ref b), .val (.int (0 : Int32))] [(.int (0 : Int32))]))
  refine Run.pre (fun _ k => XS.iconst X15.here hx rfl (hb hby d13_29) k) ?_
  show Run p e below s _ _ _ (T15.setTop (mkF m 30 #[.val (.ref b), .val (.int (0 : Int32))] [(.int (1 : Int32)), (.int (0 : Int32))]))
  refine Run.pre (fun _ k => XS.ishl X15.here hx rfl (hb hby d13_30) rfl k) ?_
  show Run p e below s _ _ _ (T15.setTop (mkF m 31 #[.val (.ref b), .val (.int (0 : Int32))] [(.int (0 : Int32))]))
  refine Run.pre (fun _ k => XS.istoreN X15.here hx rfl (hb hby d13_31) rfl (l' := #[.val (.ref b), .val (.int (0 : Int32))]) rfl k) ?_
  show Run p e below s _ _ _ (T15.setTop (mkF m 32 #[.val (.ref b), .val (.int (0 : Int32))] []))
  refine Run.pre (fun _ k => XS.aloadN X15.here hx rfl (hb hby d13_32) rfl rfl k) ?_
  show Run p e below s _ _ _ (T15.setTop (mkF m 33 #[.val (.ref b), .val (.int (0 : Int32))] [(.ref b)]))
  refine Run.pre (fun _ k => XS.iloadN X15.here hx rfl (hb hby d13_33) rfl  k) ?_
  show Run p e below s _ _ _ (T15.setTop (mkF m 34 #[.val (.ref b), .val (.int (0 : Int32))] [(.int (0 : Int32)), (.ref b)]))
  refine Run.pre (fun _ k => XS.iinc X15.here hx rfl (hb hby d13_34) rfl (l' := #[.val (.ref b), .val (.int (1 : Int32))]) rfl k) ?_
  show Run p e below s _ _ _ (T15.setTop (mkF m 37 #[.val (.ref b), .val (.int (1 : Int32))] [(.int (0 : Int32)), (.ref b)]))
  obtain ⟨c16, Ar16, -, S16, N16, H16, -⟩ := id AB
  have hin16 : ¬ ((0 : Int32) < 0 ∨ c16.slots.size ≤ ((0 : Int32)).toNatClampNeg) := inb_of S16 ⟨by decide, by decide⟩
  refine Run.pre (X15.baloadBytes hx (j := (0 : Int32)) (v := (.int y0)) (by rw [e15]; exact Ar16.1) (State.isArrayOf_alike hZ.alike Ar16.2.1) Ar16.2.2 hin16 (H16.at hin16 rfl) (g := (mkF m 37 #[.val (.ref b), .val (.int (1 : Int32))] [(.int (0 : Int32)), (.ref b)])) rfl rfl (hb hby d13_37)) ?_
  show Run p e below s _ _ _ (T15.setTop (mkF m 38 #[.val (.ref b), .val (.int (1 : Int32))] [(.int y0)]))
  refine Run.pre (fun _ k => XS.sipush X15.here hx rfl (hb hby d13_38) k) ?_
  show Run p e below s _ _ _ (T15.setTop (mkF m 41 #[.val (.ref b), .val (.int (1 : Int32))] [(.int (255 : Int32)), (.int y0)]))
  refine Run.pre (fun _ k => XS.iand X15.here hx rfl (hb hby d13_41) rfl k) ?_
  show Run p e below s _ _ _ (T15.setTop (mkF m 42 #[.val (.ref b), .val (.int (1 : Int32))] [(.int (y0 &&& (255 : Int32)))]))
  obtain ⟨T17, X17, e17, st17⟩ := getS2 X15 hx hZ hown (host := "") (Or.inl (hw _ (List.mem_of_getElem? (i := 58) rfl))) Via.refl e15 (SH.ext OL.2) (g := (mkF m 42 #[.val (.ref b), .val (.int (1 : Int32))] [(.int (y0 &&& (255 : Int32)))])) rfl (hb hby d13_42)
  refine Run.pre st17 ?_
  show Run p e below s _ _ _ (T17.setTop (mkF m 45 #[.val (.ref b), .val (.int (1 : Int32))] [(.int (0 : Int32)), (.int (y0 &&& (255 : Int32)))]))
  refine Run.pre (fun _ k => XS.ishl X17.here hx rfl (hb hby d13_45) rfl k) ?_
  show Run p e below s _ _ _ (T17.setTop (mkF m 46 #[.val (.ref b), .val (.int (1 : Int32))] [(.int ((y0 &&& (255 : Int32)) <<< ((0 : Int32) &&& 31)))]))
  refine Run.pre (fun _ k => XS.aloadN X17.here hx rfl (hb hby d13_46) rfl rfl k) ?_
  show Run p e below s _ _ _ (T17.setTop (mkF m 47 #[.val (.ref b), .val (.int (1 : Int32))] [(.ref b), (.int ((y0 &&& (255 : Int32)) <<< ((0 : Int32) &&& 31)))]))
  refine Run.pre (fun _ k => XS.iloadN X17.here hx rfl (hb hby d13_47) rfl  k) ?_
  show Run p e below s _ _ _ (T17.setTop (mkF m 48 #[.val (.ref b), .val (.int (1 : Int32))] [(.int (1 : Int32)), (.ref b), (.int ((y0 &&& (255 : Int32)) <<< ((0 : Int32) &&& 31)))]))
  obtain ⟨c18, Ar18, -, S18, N18, H18, -⟩ := id AB
  have hin18 : ¬ ((1 : Int32) < 0 ∨ c18.slots.size ≤ ((1 : Int32)).toNatClampNeg) := inb_of S18 ⟨by decide, by decide⟩
  refine Run.pre (X17.baloadBytes hx (j := (1 : Int32)) (v := (.int y1)) (by rw [e17]; exact Ar18.1) (State.isArrayOf_alike hZ.alike Ar18.2.1) Ar18.2.2 hin18 (H18.at hin18 rfl) (g := (mkF m 48 #[.val (.ref b), .val (.int (1 : Int32))] [(.int (1 : Int32)), (.ref b), (.int ((y0 &&& (255 : Int32)) <<< ((0 : Int32) &&& 31)))])) rfl rfl (hb hby d13_48)) ?_
  show Run p e below s _ _ _ (T17.setTop (mkF m 49 #[.val (.ref b), .val (.int (1 : Int32))] [(.int y1), (.int ((y0 &&& (255 : Int32)) <<< ((0 : Int32) &&& 31)))]))
  refine Run.pre (fun _ k => XS.sipush X17.here hx rfl (hb hby d13_49) k) ?_
  show Run p e below s _ _ _ (T17.setTop (mkF m 52 #[.val (.ref b), .val (.int (1 : Int32))] [(.int (255 : Int32)), (.int y1), (.int ((y0 &&& (255 : Int32)) <<< ((0 : Int32) &&& 31)))]))
  refine Run.pre (fun _ k => XS.iand X17.here hx rfl (hb hby d13_52) rfl k) ?_
  show Run p e below s _ _ _ (T17.setTop (mkF m 53 #[.val (.ref b), .val (.int (1 : Int32))] [(.int (y1 &&& (255 : Int32))), (.int ((y0 &&& (255 : Int32)) <<< ((0 : Int32) &&& 31)))]))
  obtain ⟨T19, X19, e19, st19⟩ := getS2 X17 hx hZ hown (host := "") (Or.inl (hw _ (List.mem_of_getElem? (i := 59) rfl))) Via.refl e17 (SL.ext OL.2) (g := (mkF m 53 #[.val (.ref b), .val (.int (1 : Int32))] [(.int (y1 &&& (255 : Int32))), (.int ((y0 &&& (255 : Int32)) <<< ((0 : Int32) &&& 31)))])) rfl (hb hby d13_53)
  refine Run.pre st19 ?_
  show Run p e below s _ _ _ (T19.setTop (mkF m 56 #[.val (.ref b), .val (.int (1 : Int32))] [(.int (8 : Int32)), (.int (y1 &&& (255 : Int32))), (.int ((y0 &&& (255 : Int32)) <<< ((0 : Int32) &&& 31)))]))
  refine Run.pre (fun _ k => XS.ishl X19.here hx rfl (hb hby d13_56) rfl k) ?_
  show Run p e below s _ _ _ (T19.setTop (mkF m 57 #[.val (.ref b), .val (.int (1 : Int32))] [(.int ((y1 &&& (255 : Int32)) <<< ((8 : Int32) &&& 31))), (.int ((y0 &&& (255 : Int32)) <<< ((0 : Int32) &&& 31)))]))
  refine Run.pre (fun _ k => XS.ior X19.here hx rfl (hb hby d13_57) rfl k) ?_
  show Run p e below s _ _ _ (T19.setTop (mkF m 58 #[.val (.ref b), .val (.int (1 : Int32))] [(.int (((y0 &&& (255 : Int32)) <<< ((0 : Int32) &&& 31)) ||| ((y1 &&& (255 : Int32)) <<< ((8 : Int32) &&& 31))))]))
  refine Run.pre (fun _ k => XS.i2c X19.here hx rfl (hb hby d13_58) rfl k) ?_
  show Run p e below s _ _ _ (T19.setTop (mkF m 59 #[.val (.ref b), .val (.int (1 : Int32))] [(.int ((((y0 &&& (255 : Int32)) <<< ((0 : Int32) &&& 31)) ||| ((y1 &&& (255 : Int32)) <<< ((8 : Int32) &&& 31))).toUInt32.toUInt16.toUInt32.toInt32))]))
  exact Run.retN hS (by first | exact Nat.le_refl _ | (rw [e19]; exact (Nat.zero_le _))) X19 hx hret (t := .char) (by simp) hlk (hb hby d13_59) (by first | (rw [e19]; exact ⟨rfl, N0, rfl⟩) | exact ⟨rfl, N0, rfl⟩) (by decide) (by decide)
theorem d9_0 : decode jdk_52_method_14_code 0 = .ok (.iload_n 2, 1) := by decide +kernel
theorem pd_1 : parseMethodDescriptor "(I)[B" = some ⟨[.int], some (.array .byte)⟩ := by decide +kernel
theorem d9_1 : decode jdk_52_method_14_code 1 = .ok (.invokestatic 107, 3) := by decide +kernel
theorem d9_4 : decode jdk_52_method_14_code 4 = .ok (.astore_n 3, 1) := by decide +kernel
theorem d9_5 : decode jdk_52_method_14_code 5 = .ok (.iconst 0, 1) := by decide +kernel
theorem d9_6 : decode jdk_52_method_14_code 6 = .ok (.istore 4, 2) := by decide +kernel
theorem d9_8 : decode jdk_52_method_14_code 8 = .ok (.iload 4, 2) := by decide +kernel
theorem d9_10 : decode jdk_52_method_14_code 10 = .ok (.iload_n 2, 1) := by decide +kernel
theorem d9_11 : decode jdk_52_method_14_code 11 = .ok (.if_icmp .ge 21, 3) := by decide +kernel
theorem d9_14 : decode jdk_52_method_14_code 14 = .ok (.aload_n 3, 1) := by decide +kernel
theorem d9_15 : decode jdk_52_method_14_code 15 = .ok (.iload 4, 2) := by decide +kernel
theorem d9_17 : decode jdk_52_method_14_code 17 = .ok (.aload_n 0, 1) := by decide +kernel
theorem d9_18 : decode jdk_52_method_14_code 18 = .ok (.iload_n 1, 1) := by decide +kernel
theorem d9_19 : decode jdk_52_method_14_code 19 = .ok (.caload, 1) := by decide +kernel
theorem pd_2 : parseMethodDescriptor "([BII)V" = some ⟨[(.array .byte), .int, .int], none⟩ := by decide +kernel
theorem d9_20 : decode jdk_52_method_14_code 20 = .ok (.invokestatic 111, 3) := by decide +kernel
theorem d9_23 : decode jdk_52_method_14_code 23 = .ok (.iinc 1 1, 3) := by decide +kernel
theorem d9_26 : decode jdk_52_method_14_code 26 = .ok (.iinc 4 1, 3) := by decide +kernel
theorem d9_29 : decode jdk_52_method_14_code 29 = .ok (.goto (-21), 3) := by decide +kernel
theorem d9_32 : decode jdk_52_method_14_code 32 = .ok (.aload_n 3, 1) := by decide +kernel
theorem d9_33 : decode jdk_52_method_14_code 33 = .ok (.areturn, 1) := by decide +kernel
theorem pn_9 : plainName "java/lang/StringUTF16" = true := by first | (simp [plainName, overriddenIn]; done) | decide +kernel
set_option maxRecDepth 65536 in
set_option maxHeartbeats 40000000 in
theorem rmTB_1 (l : Launch) (Z : State) (a0 : Array Value) (hw : ∀ d ∈ tables_1, d.before a0 Z = true) (ar : Addr) (kc : ClassId) (c0 : Int32) (h0 : Heap) (n0 : Nat) (Z0 : n0 ≤ h0.size) (OL : Old Z n0 h0) (SA : Sta Z Z.heap "java/lang/StringUTF16" "$assertionsDisabled" "Z" (.int 1)) (SH : Sta Z Z.heap "java/lang/StringUTF16" "HI_BYTE_SHIFT" "I" (.int 0)) (SL : Sta Z Z.heap "java/lang/StringUTF16" "LO_BYTE_SHIFT" "I" (.int 8)) (AC : Arv Z h0 ar kc .char 1 [(.int c0)] (.int 0)) :
    Con l (⟨"java/lang/StringUTF16", "toBytes", "([CII)[B"⟩ : MethodName) jdk_52_method_14_code 5 (some (.array .byte)) ({ frames := 2, cells := 1, slots := 2, locals := 24 } : Room) Z #[(.ref ar), (.int (0 : Int32)), (.int (1 : Int32))] h0 (fun _ => True) (fun v h L vm => ∃ b : Addr, ∃ k : ClassId, v = some (.ref b) ∧ Fr n0 L ∧ Keep h0 h [] ∧ h0.size ≤ b ∧ Arv Z h b k .byte 2 [(.int (own_b0 c0)), (.int (own_b1 c0))] (.int 0)) := by
  refine Con.mk (plainFor_of_name pn_9) (fun m => show entryFrame m #[(.ref ar), (.int (0 : Int32)), (.int (1 : Int32))] 5 = mkF m 0 #[.val (.ref ar), .val (.int (0 : Int32)), .val (.int (1 : Int32)), .unset, .unset] [] by first | (simp [entryFrame, mkF, argsToLocals, Value.category]; done) | rfl) ?_
  intro p e s m below meth c s₁ vm0 hx hby hml hown hnm hret hlk hZ X0 e0 hS hs0 hP0
  have N0 := Fr.nil n0
  show Run p e below s _ _ _ (s₁.setTop (mkF m 0 #[.val (.ref ar), .val (.int (0 : Int32)), .val (.int (1 : Int32)), .unset, .unset] []))
  refine Run.pre (fun _ k => XS.iloadN X0.here hx rfl (hb hby d9_0) rfl  k) ?_
  show Run p e below s _ _ _ (s₁.setTop (mkF m 1 #[.val (.ref ar), .val (.int (0 : Int32)), .val (.int (1 : Int32)), .unset, .unset] [(.int (1 : Int32))]))
  refine Run.callS hS (by first | exact Nat.le_refl _ | (rw [e0]; exact (Nat.zero_le _))) X0 hx hZ (y := (⟨"java/lang/StringUTF16", "newBytesFor", "(I)[B"⟩ : MethodName)) hown (hw _ (List.mem_of_getElem? (i := 47) rfl)) (hw _ (List.mem_of_getElem? (i := 48) rfl)) (hw _ (List.mem_of_getElem? (i := 39) rfl)) (hw _ (List.mem_of_getElem? (i := 49) rfl)) (by decide) (W := 0) (rmNF_1 l Z a0 hw h0 n0 (Nat.le_trans Z0 (Keep.refl h0 []).1)) e0 (by decide) (by decide) (by decide) (by decide) (fun _ _ => trivial) (g := (mkF m 1 #[.val (.ref ar), .val (.int (0 : Int32)), .val (.int (1 : Int32)), .unset, .unset] [(.int (1 : Int32))])) rfl (by rw [hml]; rfl) (argsL := [(.int (1 : Int32))]) (rest := []) (lenOf pd_1 rfl) rfl (by show 2 * 0 + _ ≤ _; exact Nat.le_of_eq rfl) (hb hby d9_1) ?_
  intro v20 T20 L20 X20 hS hZ hown hV20 hQ20
  obtain ⟨b20, k20, rfl, Nq20, Kc20, sz20, vb20⟩ := hQ20
  have N20 := Fr.app N0 Nq20
  have K20 : Keep h0 T20.heap [] := (Keep.refl h0 []).trans Kc20 all0
  have sz_b20 : h0.size ≤ b20 := Nat.le_trans (Keep.refl h0 []).1 sz20
  have gn_b20 : n0 ≤ b20 := Nat.le_trans Z0 sz_b20
  show Run p e below s _ _ _ (T20.setTop (mkF m 4 #[.val (.ref ar), .val (.int (0 : Int32)), .val (.int (1 : Int32)), .unset, .unset] [(.ref b20)]))
  refine Run.pre (fun _ k => XS.astoreN X20.here hx rfl (hb hby d9_4) rfl rfl (l' := #[.val (.ref ar), .val (.int (0 : Int32)), .val (.int (1 : Int32)), .val (.ref b20), .unset]) rfl k) ?_
  show Run p e below s _ _ _ (T20.setTop (mkF m 5 #[.val (.ref ar), .val (.int (0 : Int32)), .val (.int (1 : Int32)), .val (.ref b20), .unset] []))
  refine Run.pre (fun _ k => XS.iconst X20.here hx rfl (hb hby d9_5) k) ?_
  show Run p e below s _ _ _ (T20.setTop (mkF m 6 #[.val (.ref ar), .val (.int (0 : Int32)), .val (.int (1 : Int32)), .val (.ref b20), .unset] [(.int (0 : Int32))]))
  refine Run.pre (fun _ k => XS.istore X20.here hx rfl (hb hby d9_6) rfl (l' := #[.val (.ref ar), .val (.int (0 : Int32)), .val (.int (1 : Int32)), .val (.ref b20), .val (.int (0 : Int32))]) rfl k) ?_
  show Run p e below s _ _ _ (T20.setTop (mkF m 8 #[.val (.ref ar), .val (.int (0 : Int32)), .val (.int (1 : Int32)), .val (.ref b20), .val (.int (0 : Int32))] []))
  refine Run.pre (fun _ k => XS.iload X20.here hx rfl (hb hby d9_8) rfl  k) ?_
  show Run p e below s _ _ _ (T20.setTop (mkF m 10 #[.val (.ref ar), .val (.int (0 : Int32)), .val (.int (1 : Int32)), .val (.ref b20), .val (.int (0 : Int32))] [(.int (0 : Int32))]))
  refine Run.pre (fun _ k => XS.iloadN X20.here hx rfl (hb hby d9_10) rfl  k) ?_
  show Run p e below s _ _ _ (T20.setTop (mkF m 11 #[.val (.ref ar), .val (.int (0 : Int32)), .val (.int (1 : Int32)), .val (.ref b20), .val (.int (0 : Int32))] [(.int (1 : Int32)), (.int (0 : Int32))]))
  refine Run.pre (fun _ k => XS.icmpNo X20.here hx rfl (hb hby d9_11) rfl (tlt ((by decide) : (0 : Int32) < (1 : Int32))).2.1 k) ?_
  show Run p e below s _ _ _ (T20.setTop (mkF m 14 #[.val (.ref ar), .val (.int (0 : Int32)), .val (.int (1 : Int32)), .val (.ref b20), .val (.int (0 : Int32))] []))
  refine Run.pre (fun _ k => XS.aloadN X20.here hx rfl (hb hby d9_14) rfl rfl k) ?_
  show Run p e below s _ _ _ (T20.setTop (mkF m 15 #[.val (.ref ar), .val (.int (0 : Int32)), .val (.int (1 : Int32)), .val (.ref b20), .val (.int (0 : Int32))] [(.ref b20)]))
  refine Run.pre (fun _ k => XS.iload X20.here hx rfl (hb hby d9_15) rfl  k) ?_
  show Run p e below s _ _ _ (T20.setTop (mkF m 17 #[.val (.ref ar), .val (.int (0 : Int32)), .val (.int (1 : Int32)), .val (.ref b20), .val (.int (0 : Int32))] [(.int (0 : Int32)), (.ref b20)]))
  refine Run.pre (fun _ k => XS.aloadN X20.here hx rfl (hb hby d9_17) rfl rfl k) ?_
  show Run p e below s _ _ _ (T20.setTop (mkF m 18 #[.val (.ref ar), .val (.int (0 : Int32)), .val (.int (1 : Int32)), .val (.ref b20), .val (.int (0 : Int32))] [(.ref ar), (.int (0 : Int32)), (.ref b20)]))
  refine Run.pre (fun _ k => XS.iloadN X20.here hx rfl (hb hby d9_18) rfl  k) ?_
  show Run p e below s _ _ _ (T20.setTop (mkF m 19 #[.val (.ref ar), .val (.int (0 : Int32)), .val (.int (1 : Int32)), .val (.ref b20), .val (.int (0 : Int32))] [(.int (0 : Int32)), (.ref ar), (.int (0 : Int32)), (.ref b20)]))
  have f21 := (AC.keep Kc20 nin0)
  obtain ⟨c22, Ar22, -, S22, N22, H22, -⟩ := id f21
  have hin22 : ¬ ((0 : Int32) < 0 ∨ c22.slots.size ≤ ((0 : Int32)).toNatClampNeg) := inb_of S22 ⟨by decide, by decide⟩
  refine Run.pre (X20.caload hx (j := (0 : Int32)) (v := (.int c0)) Ar22.1 (State.isArrayOf_alike hZ.alike Ar22.2.1) Ar22.2.2 hin22 (H22.at hin22 rfl) (g := (mkF m 19 #[.val (.ref ar), .val (.int (0 : Int32)), .val (.int (1 : Int32)), .val (.ref b20), .val (.int (0 : Int32))] [(.int (0 : Int32)), (.ref ar), (.int (0 : Int32)), (.ref b20)])) rfl rfl (hb hby d9_19)) ?_
  show Run p e below s _ _ _ (T20.setTop (mkF m 20 #[.val (.ref ar), .val (.int (0 : Int32)), .val (.int (1 : Int32)), .val (.ref b20), .val (.int (0 : Int32))] [(.int c0), (.int (0 : Int32)), (.ref b20)]))
  have f23 := (OL.keep Kc20 all0)
  refine Run.callS hS (Nat.le_refl _) X20 hx hZ (y := (⟨"java/lang/StringUTF16", "putChar", "([BII)V"⟩ : MethodName)) hown (hw _ (List.mem_of_getElem? (i := 54) rfl)) (hw _ (List.mem_of_getElem? (i := 55) rfl)) (hw _ (List.mem_of_getElem? (i := 39) rfl)) (hw _ (List.mem_of_getElem? (i := 56) rfl)) (by decide) (W := 0) (rmPC_1_0 l Z a0 hw b20 k20 c0 (0 : Int32) (0 : Int32) T20.heap n0 (Nat.le_trans Z0 K20.1) f23 SA SH SL vb20 gn_b20) rfl (by decide) (by decide) (by decide) (by decide) (fun _ _ => trivial) (g := (mkF m 20 #[.val (.ref ar), .val (.int (0 : Int32)), .val (.int (1 : Int32)), .val (.ref b20), .val (.int (0 : Int32))] [(.int c0), (.int (0 : Int32)), (.ref b20)])) rfl (by rw [hml]; rfl) (argsL := [(.ref b20), (.int (0 : Int32)), (.int c0)]) (rest := []) (lenOf pd_2 rfl) rfl (by show 2 * 0 + _ ≤ _; exact Nat.le_of_eq rfl) (hb hby d9_20) ?_
  intro v24 T24 L24 X24 hS hZ hown hV24 hQ24
  obtain ⟨rfl, Nq24, Kc24, vb24⟩ := hQ24
  have N24 := Fr.app N20 Nq24
  have K24 : Keep h0 T24.heap [] := K20.trans Kc24 (allS (Or.inr sz_b20) all0)
  show Run p e below s _ _ _ (T24.setTop (mkF m 23 #[.val (.ref ar), .val (.int (0 : Int32)), .val (.int (1 : Int32)), .val (.ref b20), .val (.int (0 : Int32))] []))
  refine Run.pre (fun _ k => XS.iinc X24.here hx rfl (hb hby d9_23) rfl (l' := #[.val (.ref ar), .val (.int (1 : Int32)), .val (.int (1 : Int32)), .val (.ref b20), .val (.int (0 : Int32))]) rfl k) ?_
  show Run p e below s _ _ _ (T24.setTop (mkF m 26 #[.val (.ref ar), .val (.int (1 : Int32)), .val (.int (1 : Int32)), .val (.ref b20), .val (.int (0 : Int32))] []))
  refine Run.pre (fun _ k => XS.iinc X24.here hx rfl (hb hby d9_26) rfl (l' := #[.val (.ref ar), .val (.int (1 : Int32)), .val (.int (1 : Int32)), .val (.ref b20), .val (.int (1 : Int32))]) rfl k) ?_
  show Run p e below s _ _ _ (T24.setTop (mkF m 29 #[.val (.ref ar), .val (.int (1 : Int32)), .val (.int (1 : Int32)), .val (.ref b20), .val (.int (1 : Int32))] []))
  refine Run.pre (fun _ k => XS.goto X24.here hx rfl (pc0 := 29) (pc' := 8) rfl (hb hby d9_29) (by decide) (by decide) k) ?_
  show Run p e below s _ _ _ (T24.setTop (mkF m 8 #[.val (.ref ar), .val (.int (1 : Int32)), .val (.int (1 : Int32)), .val (.ref b20), .val (.int (1 : Int32))] []))
  refine Run.pre (fun _ k => XS.iload X24.here hx rfl (hb hby d9_8) rfl  k) ?_
  show Run p e below s _ _ _ (T24.setTop (mkF m 10 #[.val (.ref ar), .val (.int (1 : Int32)), .val (.int (1 : Int32)), .val (.ref b20), .val (.int (1 : Int32))] [(.int (1 : Int32))]))
  refine Run.pre (fun _ k => XS.iloadN X24.here hx rfl (hb hby d9_10) rfl  k) ?_
  show Run p e below s _ _ _ (T24.setTop (mkF m 11 #[.val (.ref ar), .val (.int (1 : Int32)), .val (.int (1 : Int32)), .val (.ref b20), .val (.int (1 : Int32))] [(.int (1 : Int32)), (.int (1 : Int32))]))
  refine Run.pre (fun _ k => XS.icmpYes X24.here hx rfl (pc0 := 11) (pc' := 32) rfl (hb hby d9_11) rfl (flt ((by decide) : ¬ ((1 : Int32) < (1 : Int32)))).2.1 (by decide) (by decide) k) ?_
  show Run p e below s _ _ _ (T24.setTop (mkF m 32 #[.val (.ref ar), .val (.int (1 : Int32)), .val (.int (1 : Int32)), .val (.ref b20), .val (.int (1 : Int32))] []))
  refine Run.pre (fun _ k => XS.aloadN X24.here hx rfl (hb hby d9_32) rfl rfl k) ?_
  show Run p e below s _ _ _ (T24.setTop (mkF m 33 #[.val (.ref ar), .val (.int (1 : Int32)), .val (.int (1 : Int32)), .val (.ref b20), .val (.int (1 : Int32))] [(.ref b20)]))
  exact Run.retA hS (Nat.le_refl _) X24 hx hret rfl rfl hlk (hb hby d9_33) ⟨b20, k20, rfl, N24, K24, sz_b20, vb24⟩ (by decide) (by decide)
theorem d7_0 : decode jdk_52_method_16_code 0 = .ok (.iload_n 2, 1) := by decide +kernel
theorem d7_1 : decode jdk_52_method_16_code 1 = .ok (.newarray .byte, 2) := by decide +kernel
theorem d7_3 : decode jdk_52_method_16_code 3 = .ok (.astore_n 3, 1) := by decide +kernel
theorem d7_4 : decode jdk_52_method_16_code 4 = .ok (.aload_n 0, 1) := by decide +kernel
theorem d7_5 : decode jdk_52_method_16_code 5 = .ok (.iload_n 1, 1) := by decide +kernel
theorem d7_6 : decode jdk_52_method_16_code 6 = .ok (.aload_n 3, 1) := by decide +kernel
theorem d7_7 : decode jdk_52_method_16_code 7 = .ok (.iconst 0, 1) := by decide +kernel
theorem d7_8 : decode jdk_52_method_16_code 8 = .ok (.iload_n 2, 1) := by decide +kernel
theorem pd_3 : parseMethodDescriptor "([CI[BII)I" = some ⟨[(.array .char), .int, (.array .byte), .int, .int], some .int⟩ := by decide +kernel
theorem d7_9 : decode jdk_52_method_16_code 9 = .ok (.invokestatic 115, 3) := by decide +kernel
theorem d7_12 : decode jdk_52_method_16_code 12 = .ok (.istore 4, 2) := by decide +kernel
theorem d7_14 : decode jdk_52_method_16_code 14 = .ok (.iload 4, 2) := by decide +kernel
theorem d7_16 : decode jdk_52_method_16_code 16 = .ok (.iload_n 2, 1) := by decide +kernel
theorem d7_17 : decode jdk_52_method_16_code 17 = .ok (.if_icmp .eq 40, 3) := by decide +kernel
theorem d7_20 : decode jdk_52_method_16_code 20 = .ok (.aload_n 0, 1) := by decide +kernel
theorem d7_21 : decode jdk_52_method_16_code 21 = .ok (.iload_n 1, 1) := by decide +kernel
theorem d7_22 : decode jdk_52_method_16_code 22 = .ok (.iload_n 2, 1) := by decide +kernel
theorem pd_4 : parseMethodDescriptor "([CII)[B" = some ⟨[(.array .char), .int, .int], some (.array .byte)⟩ := by decide +kernel
theorem d7_23 : decode jdk_52_method_16_code 23 = .ok (.invokestatic 119, 3) := by decide +kernel
theorem d7_26 : decode jdk_52_method_16_code 26 = .ok (.astore 5, 2) := by decide +kernel
theorem d7_28 : decode jdk_52_method_16_code 28 = .ok (.aload 5, 2) := by decide +kernel
theorem d7_30 : decode jdk_52_method_16_code 30 = .ok (.iload 4, 2) := by decide +kernel
theorem pd_5 : parseMethodDescriptor "([BI)C" = some ⟨[(.array .byte), .int], some .char⟩ := by decide +kernel
theorem d7_32 : decode jdk_52_method_16_code 32 = .ok (.invokestatic 71, 3) := by decide +kernel
theorem d7_35 : decode jdk_52_method_16_code 35 = .ok (.sipush 255, 3) := by decide +kernel
theorem d7_38 : decode jdk_52_method_16_code 38 = .ok (.if_icmp .gt 16, 3) := by decide +kernel
theorem d7_54 : decode jdk_52_method_16_code 54 = .ok (.aload 5, 2) := by decide +kernel
theorem d7_56 : decode jdk_52_method_16_code 56 = .ok (.areturn, 1) := by decide +kernel
theorem d7_57 : decode jdk_52_method_16_code 57 = .ok (.aload_n 3, 1) := by decide +kernel
theorem d7_58 : decode jdk_52_method_16_code 58 = .ok (.areturn, 1) := by decide +kernel
theorem pn_7 : plainName "java/lang/StringUTF16" = true := by first | (simp [plainName, overriddenIn]; done) | decide +kernel
set_option maxRecDepth 65536 in
set_option maxHeartbeats 40000000 in
theorem rmC1_1 (l : Launch) (Z : State) (a0 : Array Value) (hw : ∀ d ∈ tables_1, d.before a0 Z = true) (ar : Addr) (kc : ClassId) (c0 : Int32) (h0 : Heap) (n0 : Nat) (Z0 : n0 ≤ h0.size) (OL : Old Z n0 h0) (SA : Sta Z Z.heap "java/lang/StringUTF16" "$assertionsDisabled" "Z" (.int 1)) (SH : Sta Z Z.heap "java/lang/StringUTF16" "HI_BYTE_SHIFT" "I" (.int 0)) (SL : Sta Z Z.heap "java/lang/StringUTF16" "LO_BYTE_SHIFT" "I" (.int 8)) (AC : Arv Z h0 ar kc .char 1 [(.int c0)] (.int 0)) (w0 : nar .char c0 = c0) :
    Con l (⟨"java/lang/StringUTF16", "compress", "([CII)[B"⟩ : MethodName) jdk_52_method_16_code 6 (some (.array .byte)) ({ frames := 3, cells := 2, slots := 3, locals := 40 } : Room) Z #[(.ref ar), (.int (0 : Int32)), (.int (1 : Int32))] h0 (fun _ => True) (fun v h L vm => ∃ b : Addr, ∃ k : ClassId, v = some (.ref b) ∧ Fr n0 L ∧ Keep h0 h [] ∧ h0.size ≤ b ∧ ((¬ (255 : Int32) < c0) ∧ Arv Z h b k .byte 1 [(.int (nar .byte (c0.toInt8.toInt32)))] (.int 0) ∨ (¬ (¬ (255 : Int32) < c0)) ∧ Arv Z h b k .byte 2 [(.int (own_b0 c0)), (.int (own_b1 c0))] (.int 0))) := by
  refine Con.mk (plainFor_of_name pn_7) (fun m => show entryFrame m #[(.ref ar), (.int (0 : Int32)), (.int (1 : Int32))] 6 = mkF m 0 #[.val (.ref ar), .val (.int (0 : Int32)), .val (.int (1 : Int32)), .unset, .unset, .unset] [] by first | (simp [entryFrame, mkF, argsToLocals, Value.category]; done) | rfl) ?_
  intro p e s m below meth c s₁ vm0 hx hby hml hown hnm hret hlk hZ X0 e0 hS hs0 hP0
  have N0 := Fr.nil n0
  show Run p e below s _ _ _ (s₁.setTop (mkF m 0 #[.val (.ref ar), .val (.int (0 : Int32)), .val (.int (1 : Int32)), .unset, .unset, .unset] []))
  refine Run.pre (fun _ k => XS.iloadN X0.here hx rfl (hb hby d7_0) rfl  k) ?_
  show Run p e below s _ _ _ (s₁.setTop (mkF m 1 #[.val (.ref ar), .val (.int (0 : Int32)), .val (.int (1 : Int32)), .unset, .unset, .unset] [(.int (1 : Int32))]))
  obtain ⟨T25, h25, k25, X25, e25, E25, A25, st25⟩ := newP X0 hx hZ (hw _ (List.mem_of_getElem? (i := 20) rfl)) e0 (g := (mkF m 1 #[.val (.ref ar), .val (.int (0 : Int32)), .val (.int (1 : Int32)), .unset, .unset, .unset] [(.int (1 : Int32))])) rfl (hb hby d7_1) rfl (by decide) (cap := 1) (by decide) (by decide) (by decide) (by decide)
  obtain ⟨b25, g25⟩ : ∃ z, z = h0.size := ⟨_, rfl⟩
  rw [← g25] at A25 st25
  refine Run.pre st25 ?_
  have V_b25 : Arv Z h25 b25 k25 .byte (1 : Int32) [(.int (0 : Int32))] (.int (0 : Int32)) := (Arv.new A25 (by decide)).pad (pad_rep [] (.int (0 : Int32)) 1)
  have gn_b25 : n0 ≤ b25 := Nat.le_trans (Nat.le_trans Z0 (Keep.refl h0 []).1) (Nat.le_of_eq g25.symm)
  have sz_b25 : h0.size ≤ b25 := Nat.le_trans (Keep.refl h0 []).1 (Nat.le_of_eq g25.symm)
  have K25 : Keep h0 h25 [] := (Keep.refl h0 []).ext E25
  show Run p e below s _ _ _ (T25.setTop (mkF m 3 #[.val (.ref ar), .val (.int (0 : Int32)), .val (.int (1 : Int32)), .unset, .unset, .unset] [(.ref b25)]))
  refine Run.pre (fun _ k => XS.astoreN X25.here hx rfl (hb hby d7_3) rfl rfl (l' := #[.val (.ref ar), .val (.int (0 : Int32)), .val (.int (1 : Int32)), .val (.ref b25), .unset, .unset]) rfl k) ?_
  show Run p e below s _ _ _ (T25.setTop (mkF m 4 #[.val (.ref ar), .val (.int (0 : Int32)), .val (.int (1 : Int32)), .val (.ref b25), .unset, .unset] []))
  refine Run.pre (fun _ k => XS.aloadN X25.here hx rfl (hb hby d7_4) rfl rfl k) ?_
  show Run p e below s _ _ _ (T25.setTop (mkF m 5 #[.val (.ref ar), .val (.int (0 : Int32)), .val (.int (1 : Int32)), .val (.ref b25), .unset, .unset] [(.ref ar)]))
  refine Run.pre (fun _ k => XS.iloadN X25.here hx rfl (hb hby d7_5) rfl  k) ?_
  show Run p e below s _ _ _ (T25.setTop (mkF m 6 #[.val (.ref ar), .val (.int (0 : Int32)), .val (.int (1 : Int32)), .val (.ref b25), .unset, .unset] [(.int (0 : Int32)), (.ref ar)]))
  refine Run.pre (fun _ k => XS.aloadN X25.here hx rfl (hb hby d7_6) rfl rfl k) ?_
  show Run p e below s _ _ _ (T25.setTop (mkF m 7 #[.val (.ref ar), .val (.int (0 : Int32)), .val (.int (1 : Int32)), .val (.ref b25), .unset, .unset] [(.ref b25), (.int (0 : Int32)), (.ref ar)]))
  refine Run.pre (fun _ k => XS.iconst X25.here hx rfl (hb hby d7_7) k) ?_
  show Run p e below s _ _ _ (T25.setTop (mkF m 8 #[.val (.ref ar), .val (.int (0 : Int32)), .val (.int (1 : Int32)), .val (.ref b25), .unset, .unset] [(.int (0 : Int32)), (.ref b25), (.int (0 : Int32)), (.ref ar)]))
  refine Run.pre (fun _ k => XS.iloadN X25.here hx rfl (hb hby d7_8) rfl  k) ?_
  show Run p e below s _ _ _ (T25.setTop (mkF m 9 #[.val (.ref ar), .val (.int (0 : Int32)), .val (.int (1 : Int32)), .val (.ref b25), .unset, .unset] [(.int (1 : Int32)), (.int (0 : Int32)), (.ref b25), (.int (0 : Int32)), (.ref ar)]))
  by_cases q0 : (255 : Int32) < c0
  · skip
    show Run p e below s _ _ _ (T25.setTop (mkF m 9 #[.val (.ref ar), .val (.int (0 : Int32)), .val (.int (1 : Int32)), .val (.ref b25), .unset, .unset] [(.int (1 : Int32)), (.int (0 : Int32)), (.ref b25), (.int (0 : Int32)), (.ref ar)]))
    have f26 := (AC.ext E25)
    refine Run.callS hS (by first | exact Nat.le_refl _ | (rw [e25]; exact (Nat.le_trans (Nat.zero_le _) E25.1))) X25 hx hZ (y := (⟨"java/lang/StringUTF16", "compress", "([CI[BII)I"⟩ : MethodName)) hown (hw _ (List.mem_of_getElem? (i := 41) rfl)) (hw _ (List.mem_of_getElem? (i := 42) rfl)) (hw _ (List.mem_of_getElem? (i := 39) rfl)) (hw _ (List.mem_of_getElem? (i := 43) rfl)) (by decide) (W := 0) (rmC2_1_0 l Z a0 hw ar b25 kc k25 c0 h25 n0 (Nat.le_trans Z0 K25.1) f26 V_b25 (Nat.ne_of_lt (Nat.lt_of_lt_of_le AC.lt (Nat.le_of_eq g25.symm))) gn_b25 q0) e25 (by decide) (by decide) (by decide) (by decide) (fun _ _ => trivial) (g := (mkF m 9 #[.val (.ref ar), .val (.int (0 : Int32)), .val (.int (1 : Int32)), .val (.ref b25), .unset, .unset] [(.int (1 : Int32)), (.int (0 : Int32)), (.ref b25), (.int (0 : Int32)), (.ref ar)])) rfl (by rw [hml]; rfl) (argsL := [(.ref ar), (.int (0 : Int32)), (.ref b25), (.int (0 : Int32)), (.int (1 : Int32))]) (rest := []) (lenOf pd_3 rfl) rfl (by show 2 * 0 + _ ≤ _; exact Nat.le_of_eq rfl) (hb hby d7_9) ?_
    intro v27 T27 L27 X27 hS hZ hown hV27 hQ27
    obtain ⟨rfl, Nq27, Kc27⟩ := hQ27
    have N27 := Fr.app N0 Nq27
    have K27 : Keep h0 T27.heap [] := K25.trans Kc27 (allS (Or.inr sz_b25) all0)
    show Run p e below s _ _ _ (T27.setTop (mkF m 12 #[.val (.ref ar), .val (.int (0 : Int32)), .val (.int (1 : Int32)), .val (.ref b25), .unset, .unset] [(.int (0 : Int32))]))
    refine Run.pre (fun _ k => XS.istore X27.here hx rfl (hb hby d7_12) rfl (l' := #[.val (.ref ar), .val (.int (0 : Int32)), .val (.int (1 : Int32)), .val (.ref b25), .val (.int (0 : Int32)), .unset]) rfl k) ?_
    show Run p e below s _ _ _ (T27.setTop (mkF m 14 #[.val (.ref ar), .val (.int (0 : Int32)), .val (.int (1 : Int32)), .val (.ref b25), .val (.int (0 : Int32)), .unset] []))
    refine Run.pre (fun _ k => XS.iload X27.here hx rfl (hb hby d7_14) rfl  k) ?_
    show Run p e below s _ _ _ (T27.setTop (mkF m 16 #[.val (.ref ar), .val (.int (0 : Int32)), .val (.int (1 : Int32)), .val (.ref b25), .val (.int (0 : Int32)), .unset] [(.int (0 : Int32))]))
    refine Run.pre (fun _ k => XS.iloadN X27.here hx rfl (hb hby d7_16) rfl  k) ?_
    show Run p e below s _ _ _ (T27.setTop (mkF m 17 #[.val (.ref ar), .val (.int (0 : Int32)), .val (.int (1 : Int32)), .val (.ref b25), .val (.int (0 : Int32)), .unset] [(.int (1 : Int32)), (.int (0 : Int32))]))
    refine Run.pre (fun _ k => XS.icmpNo X27.here hx rfl (hb hby d7_17) rfl (feq ((by decide) : ¬ ((0 : Int32) = (1 : Int32)))).1 k) ?_
    show Run p e below s _ _ _ (T27.setTop (mkF m 20 #[.val (.ref ar), .val (.int (0 : Int32)), .val (.int (1 : Int32)), .val (.ref b25), .val (.int (0 : Int32)), .unset] []))
    refine Run.pre (fun _ k => XS.aloadN X27.here hx rfl (hb hby d7_20) rfl rfl k) ?_
    show Run p e below s _ _ _ (T27.setTop (mkF m 21 #[.val (.ref ar), .val (.int (0 : Int32)), .val (.int (1 : Int32)), .val (.ref b25), .val (.int (0 : Int32)), .unset] [(.ref ar)]))
    refine Run.pre (fun _ k => XS.iloadN X27.here hx rfl (hb hby d7_21) rfl  k) ?_
    show Run p e below s _ _ _ (T27.setTop (mkF m 22 #[.val (.ref ar), .val (.int (0 : Int32)), .val (.int (1 : Int32)), .val (.ref b25), .val (.int (0 : Int32)), .unset] [(.int (0 : Int32)), (.ref ar)]))
    refine Run.pre (fun _ k => XS.iloadN X27.here hx rfl (hb hby d7_22) rfl  k) ?_
    show Run p e below s _ _ _ (T27.setTop (mkF m 23 #[.val (.ref ar), .val (.int (0 : Int32)), .val (.int (1 : Int32)), .val (.ref b25), .val (.int (0 : Int32)), .unset] [(.int (1 : Int32)), (.int (0 : Int32)), (.ref ar)]))
    have f28 := ((OL.ext E25).keep Kc27 (allS gn_b25 all0))
    have f29 := (f26.keep Kc27 (ninS (Nat.ne_of_lt (Nat.lt_of_lt_of_le AC.lt (Nat.le_of_eq g25.symm))) nin0))
    refine Run.callS hS (Nat.le_refl _) X27 hx hZ (y := (⟨"java/lang/StringUTF16", "toBytes", "([CII)[B"⟩ : MethodName)) hown (hw _ (List.mem_of_getElem? (i := 44) rfl)) (hw _ (List.mem_of_getElem? (i := 45) rfl)) (hw _ (List.mem_of_getElem? (i := 39) rfl)) (hw _ (List.mem_of_getElem? (i := 46) rfl)) (by decide) (W := 0) (rmTB_1 l Z a0 hw ar kc c0 T27.heap n0 (Nat.le_trans Z0 K27.1) f28 SA SH SL f29) rfl (by decide) (by decide) (by decide) (by decide) (fun _ _ => trivial) (g := (mkF m 23 #[.val (.ref ar), .val (.int (0 : Int32)), .val (.int (1 : Int32)), .val (.ref b25), .val (.int (0 : Int32)), .unset] [(.int (1 : Int32)), (.int (0 : Int32)), (.ref ar)])) rfl (by rw [hml]; rfl) (argsL := [(.ref ar), (.int (0 : Int32)), (.int (1 : Int32))]) (rest := []) (lenOf pd_4 rfl) rfl (by show 2 * 0 + _ ≤ _; exact Nat.le_of_eq rfl) (hb hby d7_23) ?_
    intro v30 T30 L30 X30 hS hZ hown hV30 hQ30
    obtain ⟨b30, k30, rfl, Nq30, Kc30, sz30, vb30⟩ := hQ30
    have N30 := Fr.app N27 Nq30
    have K30 : Keep h0 T30.heap [] := K27.trans Kc30 all0
    have sz_b30 : h0.size ≤ b30 := Nat.le_trans K27.1 sz30
    have gn_b30 : n0 ≤ b30 := Nat.le_trans Z0 sz_b30
    show Run p e below s _ _ _ (T30.setTop (mkF m 26 #[.val (.ref ar), .val (.int (0 : Int32)), .val (.int (1 : Int32)), .val (.ref b25), .val (.int (0 : Int32)), .unset] [(.ref b30)]))
    refine Run.pre (fun _ k => XS.astore X30.here hx rfl (hb hby d7_26) rfl rfl (l' := #[.val (.ref ar), .val (.int (0 : Int32)), .val (.int (1 : Int32)), .val (.ref b25), .val (.int (0 : Int32)), .val (.ref b30)]) rfl k) ?_
    show Run p e below s _ _ _ (T30.setTop (mkF m 28 #[.val (.ref ar), .val (.int (0 : Int32)), .val (.int (1 : Int32)), .val (.ref b25), .val (.int (0 : Int32)), .val (.ref b30)] []))
    refine Run.pre (fun _ k => XS.aload X30.here hx rfl (hb hby d7_28) rfl rfl k) ?_
    show Run p e below s _ _ _ (T30.setTop (mkF m 30 #[.val (.ref ar), .val (.int (0 : Int32)), .val (.int (1 : Int32)), .val (.ref b25), .val (.int (0 : Int32)), .val (.ref b30)] [(.ref b30)]))
    refine Run.pre (fun _ k => XS.iload X30.here hx rfl (hb hby d7_30) rfl  k) ?_
    show Run p e below s _ _ _ (T30.setTop (mkF m 32 #[.val (.ref ar), .val (.int (0 : Int32)), .val (.int (1 : Int32)), .val (.ref b25), .val (.int (0 : Int32)), .val (.ref b30)] [(.int (0 : Int32)), (.ref b30)]))
    have f31 := (f28.keep Kc30 all0)
    refine Run.callS hS (Nat.le_refl _) X30 hx hZ (y := (⟨"java/lang/StringUTF16", "getChar", "([BI)C"⟩ : MethodName)) hown (hw _ (List.mem_of_getElem? (i := 60) rfl)) (hw _ (List.mem_of_getElem? (i := 61) rfl)) (hw _ (List.mem_of_getElem? (i := 39) rfl)) (hw _ (List.mem_of_getElem? (i := 62) rfl)) (by decide) (W := 0) (rmGC_1_0 l Z a0 hw b30 k30 (own_b0 c0) (own_b1 c0) T30.heap n0 (Nat.le_trans Z0 K30.1) f31 SA SH SL vb30) rfl (by decide) (by decide) (by decide) (by decide) (fun _ _ => trivial) (g := (mkF m 32 #[.val (.ref ar), .val (.int (0 : Int32)), .val (.int (1 : Int32)), .val (.ref b25), .val (.int (0 : Int32)), .val (.ref b30)] [(.int (0 : Int32)), (.ref b30)])) rfl (by rw [hml]; rfl) (argsL := [(.ref b30), (.int (0 : Int32))]) (rest := []) (lenOf pd_5 rfl) rfl (by show 2 * 0 + _ ≤ _; exact Nat.le_of_eq rfl) (hb hby d7_32) ?_
    intro v32 T32 L32 X32 hS hZ hown hV32 hQ32
    obtain ⟨rfl, Nq32, he32⟩ := hQ32
    have N32 := Fr.app N30 Nq32
    have e32 : T32.heap = T30.heap := he32
    show Run p e below s _ _ _ (T32.setTop (mkF m 35 #[.val (.ref ar), .val (.int (0 : Int32)), .val (.int (1 : Int32)), .val (.ref b25), .val (.int (0 : Int32)), .val (.ref b30)] [(.int (own_gcv (own_b0 c0) (own_b1 c0)))]))
    refine Run.pre (fun _ k => XS.sipush X32.here hx rfl (hb hby d7_35) k) ?_
    show Run p e below s _ _ _ (T32.setTop (mkF m 38 #[.val (.ref ar), .val (.int (0 : Int32)), .val (.int (1 : Int32)), .val (.ref b25), .val (.int (0 : Int32)), .val (.ref b30)] [(.int (255 : Int32)), (.int (own_gcv (own_b0 c0) (own_b1 c0)))]))
    refine Run.pre (fun _ k => XS.icmpYes X32.here hx rfl (pc0 := 38) (pc' := 54) rfl (hb hby d7_38) rfl (tlt ((by rw [own_gc c0 w0]; exact q0) : (255 : Int32) < (own_gcv (own_b0 c0) (own_b1 c0)))).2.2.1 (by decide) (by decide) k) ?_
    show Run p e below s _ _ _ (T32.setTop (mkF m 54 #[.val (.ref ar), .val (.int (0 : Int32)), .val (.int (1 : Int32)), .val (.ref b25), .val (.int (0 : Int32)), .val (.ref b30)] []))
    refine Run.pre (fun _ k => XS.aload X32.here hx rfl (hb hby d7_54) rfl rfl k) ?_
    show Run p e below s _ _ _ (T32.setTop (mkF m 56 #[.val (.ref ar), .val (.int (0 : Int32)), .val (.int (1 : Int32)), .val (.ref b25), .val (.int (0 : Int32)), .val (.ref b30)] [(.ref b30)]))
    exact Run.retA hS (by first | exact Nat.le_refl _ | (rw [e32]; exact (Nat.le_of_eq (congrArg Array.size e32)))) X32 hx hret rfl rfl hlk (hb hby d7_56) (by first | (rw [e32]; exact ⟨b30, k30, rfl, N32, K30, sz_b30, Or.inr ⟨fun q => q q0, vb30⟩⟩) | exact ⟨b30, k30, rfl, N32, K30, sz_b30, Or.inr ⟨fun q => q q0, vb30⟩⟩) (by decide) (by decide)
  · skip
    show Run p e below s _ _ _ (T25.setTop (mkF m 9 #[.val (.ref ar), .val (.int (0 : Int32)), .val (.int (1 : Int32)), .val (.ref b25), .unset, .unset] [(.int (1 : Int32)), (.int (0 : Int32)), (.ref b25), (.int (0 : Int32)), (.ref ar)]))
    have f33 := (AC.ext E25)
    refine Run.callS hS (by first | exact Nat.le_refl _ | (rw [e25]; exact (Nat.le_trans (Nat.zero_le _) E25.1))) X25 hx hZ (y := (⟨"java/lang/StringUTF16", "compress", "([CI[BII)I"⟩ : MethodName)) hown (hw _ (List.mem_of_getElem? (i := 41) rfl)) (hw _ (List.mem_of_getElem? (i := 42) rfl)) (hw _ (List.mem_of_getElem? (i := 39) rfl)) (hw _ (List.mem_of_getElem? (i := 43) rfl)) (by decide) (W := 0) (rmC2_1_1 l Z a0 hw ar b25 kc k25 c0 h25 n0 (Nat.le_trans Z0 K25.1) f33 V_b25 (Nat.ne_of_lt (Nat.lt_of_lt_of_le AC.lt (Nat.le_of_eq g25.symm))) gn_b25 q0) e25 (by decide) (by decide) (by decide) (by decide) (fun _ _ => trivial) (g := (mkF m 9 #[.val (.ref ar), .val (.int (0 : Int32)), .val (.int (1 : Int32)), .val (.ref b25), .unset, .unset] [(.int (1 : Int32)), (.int (0 : Int32)), (.ref b25), (.int (0 : Int32)), (.ref ar)])) rfl (by rw [hml]; rfl) (argsL := [(.ref ar), (.int (0 : Int32)), (.ref b25), (.int (0 : Int32)), (.int (1 : Int32))]) (rest := []) (lenOf pd_3 rfl) rfl (by show 2 * 0 + _ ≤ _; exact Nat.le_of_eq rfl) (hb hby d7_9) ?_
    intro v34 T34 L34 X34 hS hZ hown hV34 hQ34
    obtain ⟨rfl, Nq34, Kc34, vb34⟩ := hQ34
    have N34 := Fr.app N0 Nq34
    have K34 : Keep h0 T34.heap [] := K25.trans Kc34 (allS (Or.inr sz_b25) all0)
    show Run p e below s _ _ _ (T34.setTop (mkF m 12 #[.val (.ref ar), .val (.int (0 : Int32)), .val (.int (1 : Int32)), .val (.ref b25), .unset, .unset] [(.int (1 : Int32))]))
    refine Run.pre (fun _ k => XS.istore X34.here hx rfl (hb hby d7_12) rfl (l' := #[.val (.ref ar), .val (.int (0 : Int32)), .val (.int (1 : Int32)), .val (.ref b25), .val (.int (1 : Int32)), .unset]) rfl k) ?_
    show Run p e below s _ _ _ (T34.setTop (mkF m 14 #[.val (.ref ar), .val (.int (0 : Int32)), .val (.int (1 : Int32)), .val (.ref b25), .val (.int (1 : Int32)), .unset] []))
    refine Run.pre (fun _ k => XS.iload X34.here hx rfl (hb hby d7_14) rfl  k) ?_
    show Run p e below s _ _ _ (T34.setTop (mkF m 16 #[.val (.ref ar), .val (.int (0 : Int32)), .val (.int (1 : Int32)), .val (.ref b25), .val (.int (1 : Int32)), .unset] [(.int (1 : Int32))]))
    refine Run.pre (fun _ k => XS.iloadN X34.here hx rfl (hb hby d7_16) rfl  k) ?_
    show Run p e below s _ _ _ (T34.setTop (mkF m 17 #[.val (.ref ar), .val (.int (0 : Int32)), .val (.int (1 : Int32)), .val (.ref b25), .val (.int (1 : Int32)), .unset] [(.int (1 : Int32)), (.int (1 : Int32))]))
    refine Run.pre (fun _ k => XS.icmpYes X34.here hx rfl (pc0 := 17) (pc' := 57) rfl (hb hby d7_17) rfl (teq ((by decide) : (1 : Int32) = (1 : Int32))).1 (by decide) (by decide) k) ?_
    show Run p e below s _ _ _ (T34.setTop (mkF m 57 #[.val (.ref ar), .val (.int (0 : Int32)), .val (.int (1 : Int32)), .val (.ref b25), .val (.int (1 : Int32)), .unset] []))
    refine Run.pre (fun _ k => XS.aloadN X34.here hx rfl (hb hby d7_57) rfl rfl k) ?_
    show Run p e below s _ _ _ (T34.setTop (mkF m 58 #[.val (.ref ar), .val (.int (0 : Int32)), .val (.int (1 : Int32)), .val (.ref b25), .val (.int (1 : Int32)), .unset] [(.ref b25)]))
    exact Run.retA hS (Nat.le_refl _) X34 hx hret rfl rfl hlk (hb hby d7_58) ⟨b25, k25, rfl, N34, K34, sz_b25, Or.inl ⟨q0, vb34⟩⟩ (by decide) (by decide)
theorem d14_0 : decode jdk_52_method_15_code 0 = .ok (.iload_n 1, 1) := by decide +kernel
theorem d14_1 : decode jdk_52_method_15_code 1 = .ok (.aload_n 0, 1) := by decide +kernel
theorem d14_2 : decode jdk_52_method_15_code 2 = .ok (.arraylength, 1) := by decide +kernel
theorem d14_3 : decode jdk_52_method_15_code 3 = .ok (.isub, 1) := by decide +kernel
theorem d14_4 : decode jdk_52_method_15_code 4 = .ok (.bipush 31, 2) := by decide +kernel
theorem d14_6 : decode jdk_52_method_15_code 6 = .ok (.iushr, 1) := by decide +kernel
theorem d14_7 : decode jdk_52_method_15_code 7 = .ok (.i2b, 1) := by decide +kernel
theorem d14_8 : decode jdk_52_method_15_code 8 = .ok (.ireturn, 1) := by decide +kernel
theorem pn_14 : plainName "java/lang/StringUTF16" = true := by first | (simp [plainName, overriddenIn]; done) | decide +kernel
set_option maxRecDepth 65536 in
set_option maxHeartbeats 40000000 in
theorem rmCo_1L (l : Launch) (Z : State) (a0 : Array Value) (hw : ∀ d ∈ tables_1, d.before a0 Z = true) (b : Addr) (kb : ClassId) (c0 : Int32) (h0 : Heap) (n0 : Nat) (Z0 : n0 ≤ h0.size) (AB : Arv Z h0 b kb .byte 1 [(.int (nar .byte (c0.toInt8.toInt32)))] (.int 0)) :
    Con l (⟨"java/lang/StringUTF16", "coderFromArrayLen", "([BI)B"⟩ : MethodName) jdk_52_method_15_code 2 (some .byte) ({ frames := 0, cells := 0, slots := 0, locals := 0 } : Room) Z #[(.ref b), (.int (1 : Int32))] h0 (fun _ => True) (fun v h L vm => v = some (.int 0) ∧ Fr n0 L ∧ h = h0) := by
  refine Con.mk (plainFor_of_name pn_14) (fun m => show entryFrame m #[(.ref b), (.int (1 : Int32))] 2 = mkF m 0 #[.val (.ref b), .val (.int (1 : Int32))] [] by first | (simp [entryFrame, mkF, argsToLocals, Value.category]; done) | rfl) ?_
  intro p e s m below meth c s₁ vm0 hx hby hml hown hnm hret hlk hZ X0 e0 hS hs0 hP0
  have N0 := Fr.nil n0
  show Run p e below s _ _ _ (s₁.setTop (mkF m 0 #[.val (.ref b), .val (.int (1 : Int32))] []))
  refine Run.pre (fun _ k => XS.iloadN X0.here hx rfl (hb hby d14_0) rfl  k) ?_
  show Run p e below s _ _ _ (s₁.setTop (mkF m 1 #[.val (.ref b), .val (.int (1 : Int32))] [(.int (1 : Int32))]))
  refine Run.pre (fun _ k => XS.aloadN X0.here hx rfl (hb hby d14_1) rfl rfl k) ?_
  show Run p e below s _ _ _ (s₁.setTop (mkF m 2 #[.val (.ref b), .val (.int (1 : Int32))] [(.ref b), (.int (1 : Int32))]))
  obtain ⟨c35, Ar35, -, S35, N35, -, -⟩ := id AB
  refine Run.pre (X0.arraylength hx (by rw [e0]; exact Ar35.1) (State.isArrayOf_alike hZ.alike Ar35.2.1) (g := (mkF m 2 #[.val (.ref b), .val (.int (1 : Int32))] [(.ref b), (.int (1 : Int32))])) rfl rfl (hb hby d14_2)) ?_
  rw [len_of S35 N35]
  show Run p e below s _ _ _ (s₁.setTop (mkF m 3 #[.val (.ref b), .val (.int (1 : Int32))] [(.int (1 : Int32)), (.int (1 : Int32))]))
  refine Run.pre (fun _ k => XS.isub X0.here hx rfl (hb hby d14_3) rfl k) ?_
  show Run p e below s _ _ _ (s₁.setTop (mkF m 4 #[.val (.ref b), .val (.int (1 : Int32))] [(.int (0 : Int32))]))
  refine Run.pre (fun _ k => XS.bipush X0.here hx rfl (hb hby d14_4) k) ?_
  show Run p e below s _ _ _ (s₁.setTop (mkF m 6 #[.val (.ref b), .val (.int (1 : Int32))] [(.int (31 : Int32)), (.int (0 : Int32))]))
  refine Run.pre (fun _ k => XS.iushr X0.here hx rfl (hb hby d14_6) rfl k) ?_
  show Run p e below s _ _ _ (s₁.setTop (mkF m 7 #[.val (.ref b), .val (.int (1 : Int32))] [(.int (0 : Int32))]))
  refine Run.pre (fun _ k => XS.i2b X0.here hx rfl (hb hby d14_7) rfl k) ?_
  show Run p e below s _ _ _ (s₁.setTop (mkF m 8 #[.val (.ref b), .val (.int (1 : Int32))] [(.int ((0 : Int32).toInt8.toInt32))]))
  exact Run.retN hS (by first | exact Nat.le_refl _ | (rw [e0]; exact (Nat.zero_le _))) X0 hx hret (t := .byte) (by simp) hlk (hb hby d14_8) (by first | (rw [e0]; exact ⟨by decide, N0, rfl⟩) | exact ⟨by decide, N0, rfl⟩) (by decide) (by decide)
set_option maxRecDepth 65536 in
set_option maxHeartbeats 40000000 in
theorem rmCo_1U (l : Launch) (Z : State) (a0 : Array Value) (hw : ∀ d ∈ tables_1, d.before a0 Z = true) (b : Addr) (kb : ClassId) (c0 : Int32) (h0 : Heap) (n0 : Nat) (Z0 : n0 ≤ h0.size) (AB : Arv Z h0 b kb .byte 2 [(.int (own_b0 c0)), (.int (own_b1 c0))] (.int 0)) :
    Con l (⟨"java/lang/StringUTF16", "coderFromArrayLen", "([BI)B"⟩ : MethodName) jdk_52_method_15_code 2 (some .byte) ({ frames := 0, cells := 0, slots := 0, locals := 0 } : Room) Z #[(.ref b), (.int (1 : Int32))] h0 (fun _ => True) (fun v h L vm => v = some (.int 1) ∧ Fr n0 L ∧ h = h0) := by
  refine Con.mk (plainFor_of_name pn_14) (fun m => show entryFrame m #[(.ref b), (.int (1 : Int32))] 2 = mkF m 0 #[.val (.ref b), .val (.int (1 : Int32))] [] by first | (simp [entryFrame, mkF, argsToLocals, Value.category]; done) | rfl) ?_
  intro p e s m below meth c s₁ vm0 hx hby hml hown hnm hret hlk hZ X0 e0 hS hs0 hP0
  have N0 := Fr.nil n0
  show Run p e below s _ _ _ (s₁.setTop (mkF m 0 #[.val (.ref b), .val (.int (1 : Int32))] []))
  refine Run.pre (fun _ k => XS.iloadN X0.here hx rfl (hb hby d14_0) rfl  k) ?_
  show Run p e below s _ _ _ (s₁.setTop (mkF m 1 #[.val (.ref b), .val (.int (1 : Int32))] [(.int (1 : Int32))]))
  refine Run.pre (fun _ k => XS.aloadN X0.here hx rfl (hb hby d14_1) rfl rfl k) ?_
  show Run p e below s _ _ _ (s₁.setTop (mkF m 2 #[.val (.ref b), .val (.int (1 : Int32))] [(.ref b), (.int (1 : Int32))]))
  obtain ⟨c36, Ar36, -, S36, N36, -, -⟩ := id AB
  refine Run.pre (X0.arraylength hx (by rw [e0]; exact Ar36.1) (State.isArrayOf_alike hZ.alike Ar36.2.1) (g := (mkF m 2 #[.val (.ref b), .val (.int (1 : Int32))] [(.ref b), (.int (1 : Int32))])) rfl rfl (hb hby d14_2)) ?_
  rw [len_of S36 N36]
  show Run p e below s _ _ _ (s₁.setTop (mkF m 3 #[.val (.ref b), .val (.int (1 : Int32))] [(.int (2 : Int32)), (.int (1 : Int32))]))
  refine Run.pre (fun _ k => XS.isub X0.here hx rfl (hb hby d14_3) rfl k) ?_
  show Run p e below s _ _ _ (s₁.setTop (mkF m 4 #[.val (.ref b), .val (.int (1 : Int32))] [(.int (-1 : Int32))]))
  refine Run.pre (fun _ k => XS.bipush X0.here hx rfl (hb hby d14_4) k) ?_
  show Run p e below s _ _ _ (s₁.setTop (mkF m 6 #[.val (.ref b), .val (.int (1 : Int32))] [(.int (31 : Int32)), (.int (-1 : Int32))]))
  refine Run.pre (fun _ k => XS.iushr X0.here hx rfl (hb hby d14_6) rfl k) ?_
  show Run p e below s _ _ _ (s₁.setTop (mkF m 7 #[.val (.ref b), .val (.int (1 : Int32))] [(.int (1 : Int32))]))
  refine Run.pre (fun _ k => XS.i2b X0.here hx rfl (hb hby d14_7) rfl k) ?_
  show Run p e below s _ _ _ (s₁.setTop (mkF m 8 #[.val (.ref b), .val (.int (1 : Int32))] [(.int ((1 : Int32).toInt8.toInt32))]))
  exact Run.retN hS (by first | exact Nat.le_refl _ | (rw [e0]; exact (Nat.zero_le _))) X0 hx hret (t := .byte) (by simp) hlk (hb hby d14_8) (by first | (rw [e0]; exact ⟨by decide, N0, rfl⟩) | exact ⟨by decide, N0, rfl⟩) (by decide) (by decide)
theorem d3_0 : decode jdk_42_method_149_code 0 = .ok (.aload_n 0, 1) := by decide +kernel
theorem d3_1 : decode jdk_42_method_149_code 1 = .ok (.invokespecial 1, 3) := by decide +kernel
theorem d3_4 : decode jdk_42_method_149_code 4 = .ok (.iload_n 3, 1) := by decide +kernel
theorem d3_5 : decode jdk_42_method_149_code 5 = .ok (.ifCond .ne 22, 3) := by decide +kernel
theorem d3_27 : decode jdk_42_method_149_code 27 = .ok (.getstatic 38, 3) := by decide +kernel
theorem d3_30 : decode jdk_42_method_149_code 30 = .ok (.ifCond .eq 28, 3) := by decide +kernel
theorem d3_33 : decode jdk_42_method_149_code 33 = .ok (.aload_n 1, 1) := by decide +kernel
theorem d3_34 : decode jdk_42_method_149_code 34 = .ok (.iload_n 2, 1) := by decide +kernel
theorem d3_35 : decode jdk_42_method_149_code 35 = .ok (.iload_n 3, 1) := by decide +kernel
theorem d3_36 : decode jdk_42_method_149_code 36 = .ok (.invokestatic 177, 3) := by decide +kernel
theorem d3_39 : decode jdk_42_method_149_code 39 = .ok (.astore 5, 2) := by decide +kernel
theorem d3_41 : decode jdk_42_method_149_code 41 = .ok (.aload_n 0, 1) := by decide +kernel
theorem d3_42 : decode jdk_42_method_149_code 42 = .ok (.aload 5, 2) := by decide +kernel
theorem d3_44 : decode jdk_42_method_149_code 44 = .ok (.iload_n 3, 1) := by decide +kernel
theorem pd_6 : parseMethodDescriptor "([BI)B" = some ⟨[(.array .byte), .int], some .byte⟩ := by decide +kernel
theorem d3_45 : decode jdk_42_method_149_code 45 = .ok (.invokestatic 47, 3) := by decide +kernel
theorem d3_48 : decode jdk_42_method_149_code 48 = .ok (.putfield 15, 3) := by decide +kernel
theorem d3_51 : decode jdk_42_method_149_code 51 = .ok (.aload_n 0, 1) := by decide +kernel
theorem d3_52 : decode jdk_42_method_149_code 52 = .ok (.aload 5, 2) := by decide +kernel
theorem d3_54 : decode jdk_42_method_149_code 54 = .ok (.putfield 9, 3) := by decide +kernel
theorem d3_57 : decode jdk_42_method_149_code 57 = .ok (.return_, 1) := by decide +kernel
theorem pn_3 : plainName "java/lang/String" = true := by first | (simp [plainName, overriddenIn]; done) | decide +kernel
set_option maxRecDepth 65536 in
set_option maxHeartbeats 40000000 in
theorem rmI4_1 (l : Launch) (Z : State) (a0 : Array Value) (hw : ∀ d ∈ tables_1, d.before a0 Z = true) (a : Addr) (ar : Addr) (kc : ClassId) (c0 : Int32) (cs : Int32) (h0 : Heap) (n0 : Nat) (Z0 : n0 ≤ h0.size) (OL : Old Z n0 h0) (SC : Sta Z Z.heap "java/lang/String" "COMPACT_STRINGS" "Z" (.int cs)) (hcs : ¬ cs = 0) (SA : Sta Z Z.heap "java/lang/StringUTF16" "$assertionsDisabled" "Z" (.int 1)) (SH : Sta Z Z.heap "java/lang/StringUTF16" "HI_BYTE_SHIFT" "I" (.int 0)) (SL : Sta Z Z.heap "java/lang/StringUTF16" "LO_BYTE_SHIFT" "I" (.int 8)) (AC : Arv Z h0 ar kc .char 1 [(.int c0)] (.int 0)) (E_a : Exa Z h0 a "java/lang/String") (FV : Fld Z h0 a "java/lang/String" "value" "[B" .null) (FCo : Fld Z h0 a "java/lang/String" "coder" "B" (.int 0)) (g_a : n0 ≤ a) (nar_ : ar ≠ a) (w0 : nar .char c0 = c0) :
    Con l (⟨"java/lang/String", "<init>", "([CIILjava/lang/Void;)V"⟩ : MethodName) jdk_42_method_149_code 6 none ({ frames := 4, cells := 2, slots := 3, locals := 57 } : Room) Z #[(.ref a), (.ref ar), (.int (0 : Int32)), (.int (1 : Int32)), .null] h0 (fun _ => True) (fun v h L vm => ∃ b : Addr, ∃ k : ClassId, v = none ∧ Fr n0 L ∧ Keep h0 h [a] ∧ h0.size ≤ b ∧ Fld Z h a "java/lang/String" "value" "[B" (.ref b) ∧ (Fld Z h a "java/lang/String" "coder" "B" (.int 0) ∧ (¬ (255 : Int32) < c0) ∧ Arv Z h b k .byte 1 [(.int (nar .byte (c0.toInt8.toInt32)))] (.int 0) ∨ Fld Z h a "java/lang/String" "coder" "B" (.int 1) ∧ (¬ (¬ (255 : Int32) < c0)) ∧ Arv Z h b k .byte 2 [(.int (own_b0 c0)), (.int (own_b1 c0))] (.int 0))) := by
  refine Con.mk (plainFor_of_name pn_3) (fun m => show entryFrame m #[(.ref a), (.ref ar), (.int (0 : Int32)), (.int (1 : Int32)), .null] 6 = mkF m 0 #[.val (.ref a), .val (.ref ar), .val (.int (0 : Int32)), .val (.int (1 : Int32)), .val .null, .unset] [] by first | (simp [entryFrame, mkF, argsToLocals, Value.category]; done) | rfl) ?_
  intro p e s m below meth c s₁ vm0 hx hby hml hown hnm hret hlk hZ X0 e0 hS hs0 hP0
  have N0 := Fr.nil n0
  show Run p e below s _ _ _ (s₁.setTop (mkF m 0 #[.val (.ref a), .val (.ref ar), .val (.int (0 : Int32)), .val (.int (1 : Int32)), .val .null, .unset] []))
  refine Run.pre (fun _ k => XS.aloadN X0.here hx rfl (hb hby d3_0) rfl rfl k) ?_
  show Run p e below s _ _ _ (s₁.setTop (mkF m 1 #[.val (.ref a), .val (.ref ar), .val (.int (0 : Int32)), .val (.int (1 : Int32)), .val .null, .unset] [(.ref a)]))
  obtain ⟨T37, X37, e37, st37⟩ := initO X0 hx hZ hown (hw _ (List.mem_of_getElem? (i := 16) rfl)) (hw _ (List.mem_of_getElem? (i := 17) rfl)) (hw _ (List.mem_of_getElem? (i := 18) rfl)) e0 (g := (mkF m 1 #[.val (.ref a), .val (.ref ar), .val (.int (0 : Int32)), .val (.int (1 : Int32)), .val .null, .unset] [(.ref a)])) rfl (by rw [hml]; rfl) rfl (hb hby d3_1) (by decide) (W := 0) (by show 2 * 0 + _ ≤ _; exact Nat.le_of_eq rfl) (by decide)
  refine Run.pre st37 ?_
  show Run p e below s _ _ _ (T37.setTop (mkF m 4 #[.val (.ref a), .val (.ref ar), .val (.int (0 : Int32)), .val (.int (1 : Int32)), .val .null, .unset] []))
  refine Run.pre (fun _ k => XS.iloadN X37.here hx rfl (hb hby d3_4) rfl  k) ?_
  show Run p e below s _ _ _ (T37.setTop (mkF m 5 #[.val (.ref a), .val (.ref ar), .val (.int (0 : Int32)), .val (.int (1 : Int32)), .val .null, .unset] [(.int (1 : Int32))]))
  refine Run.pre (fun _ k => XS.ifYes X37.here hx rfl (pc0 := 5) (pc' := 27) rfl (hb hby d3_5) rfl ((if0 _ _).trans (feq ((by decide) : ¬ ((1 : Int32) = (0 : Int32)))).2) (by decide) (by decide) k) ?_
  show Run p e below s _ _ _ (T37.setTop (mkF m 27 #[.val (.ref a), .val (.ref ar), .val (.int (0 : Int32)), .val (.int (1 : Int32)), .val .null, .unset] []))
  obtain ⟨T38, X38, e38, st38⟩ := getS2 X37 hx hZ hown (host := "") (Or.inl (hw _ (List.mem_of_getElem? (i := 36) rfl))) Via.refl e37 (SC.ext OL.2) (g := (mkF m 27 #[.val (.ref a), .val (.ref ar), .val (.int (0 : Int32)), .val (.int (1 : Int32)), .val .null, .unset] [])) rfl (hb hby d3_27)
  refine Run.pre st38 ?_
  show Run p e below s _ _ _ (T38.setTop (mkF m 30 #[.val (.ref a), .val (.ref ar), .val (.int (0 : Int32)), .val (.int (1 : Int32)), .val .null, .unset] [(.int cs)]))
  refine Run.pre (fun _ k => XS.ifNo X38.here hx rfl (hb hby d3_30) rfl ((if0 _ _).trans (feq (hcs : ¬ (cs = (0 : Int32)))).1) k) ?_
  show Run p e below s _ _ _ (T38.setTop (mkF m 33 #[.val (.ref a), .val (.ref ar), .val (.int (0 : Int32)), .val (.int (1 : Int32)), .val .null, .unset] []))
  refine Run.pre (fun _ k => XS.aloadN X38.here hx rfl (hb hby d3_33) rfl rfl k) ?_
  show Run p e below s _ _ _ (T38.setTop (mkF m 34 #[.val (.ref a), .val (.ref ar), .val (.int (0 : Int32)), .val (.int (1 : Int32)), .val .null, .unset] [(.ref ar)]))
  refine Run.pre (fun _ k => XS.iloadN X38.here hx rfl (hb hby d3_34) rfl  k) ?_
  show Run p e below s _ _ _ (T38.setTop (mkF m 35 #[.val (.ref a), .val (.ref ar), .val (.int (0 : Int32)), .val (.int (1 : Int32)), .val .null, .unset] [(.int (0 : Int32)), (.ref ar)]))
  refine Run.pre (fun _ k => XS.iloadN X38.here hx rfl (hb hby d3_35) rfl  k) ?_
  show Run p e below s _ _ _ (T38.setTop (mkF m 36 #[.val (.ref a), .val (.ref ar), .val (.int (0 : Int32)), .val (.int (1 : Int32)), .val .null, .unset] [(.int (1 : Int32)), (.int (0 : Int32)), (.ref ar)]))
  refine Run.callS hS (by first | exact Nat.le_refl _ | (rw [e38]; exact (Nat.zero_le _))) X38 hx hZ (y := (⟨"java/lang/StringUTF16", "compress", "([CII)[B"⟩ : MethodName)) hown (hw _ (List.mem_of_getElem? (i := 37) rfl)) (hw _ (List.mem_of_getElem? (i := 38) rfl)) (hw _ (List.mem_of_getElem? (i := 39) rfl)) (hw _ (List.mem_of_getElem? (i := 40) rfl)) (by decide) (W := 0) (rmC1_1 l Z a0 hw ar kc c0 h0 n0 (Nat.le_trans Z0 (Keep.refl h0 [a]).1) OL SA SH SL AC w0) e38 (by decide) (by decide) (by decide) (by decide) (fun _ _ => trivial) (g := (mkF m 36 #[.val (.ref a), .val (.ref ar), .val (.int (0 : Int32)), .val (.int (1 : Int32)), .val .null, .unset] [(.int (1 : Int32)), (.int (0 : Int32)), (.ref ar)])) rfl (by rw [hml]; rfl) (argsL := [(.ref ar), (.int (0 : Int32)), (.int (1 : Int32))]) (rest := []) (lenOf pd_4 rfl) rfl (by show 2 * 0 + _ ≤ _; exact Nat.le_of_eq rfl) (hb hby d3_36) ?_
  intro v39 T39 L39 X39 hS hZ hown hV39 hQ39
  obtain ⟨b39, k39, rfl, Nq39, Kc39, sz39, dj39⟩ := hQ39
  have N39 := Fr.app N0 Nq39
  have K39 : Keep h0 T39.heap [a] := (Keep.refl h0 [a]).trans Kc39 all0
  have sz_b39 : h0.size ≤ b39 := Nat.le_trans (Keep.refl h0 [a]).1 sz39
  have gn_b39 : n0 ≤ b39 := Nat.le_trans Z0 sz_b39
  show Run p e below s _ _ _ (T39.setTop (mkF m 39 #[.val (.ref a), .val (.ref ar), .val (.int (0 : Int32)), .val (.int (1 : Int32)), .val .null, .unset] [(.ref b39)]))
  rcases dj39 with ⟨hl, vv⟩ | ⟨hl, vv⟩
  · skip
    show Run p e below s _ _ _ (T39.setTop (mkF m 39 #[.val (.ref a), .val (.ref ar), .val (.int (0 : Int32)), .val (.int (1 : Int32)), .val .null, .unset] [(.ref b39)]))
    refine Run.pre (fun _ k => XS.astore X39.here hx rfl (hb hby d3_39) rfl rfl (l' := #[.val (.ref a), .val (.ref ar), .val (.int (0 : Int32)), .val (.int (1 : Int32)), .val .null, .val (.ref b39)]) rfl k) ?_
    show Run p e below s _ _ _ (T39.setTop (mkF m 41 #[.val (.ref a), .val (.ref ar), .val (.int (0 : Int32)), .val (.int (1 : Int32)), .val .null, .val (.ref b39)] []))
    refine Run.pre (fun _ k => XS.aloadN X39.here hx rfl (hb hby d3_41) rfl rfl k) ?_
    show Run p e below s _ _ _ (T39.setTop (mkF m 42 #[.val (.ref a), .val (.ref ar), .val (.int (0 : Int32)), .val (.int (1 : Int32)), .val .null, .val (.ref b39)] [(.ref a)]))
    refine Run.pre (fun _ k => XS.aload X39.here hx rfl (hb hby d3_42) rfl rfl k) ?_
    show Run p e below s _ _ _ (T39.setTop (mkF m 44 #[.val (.ref a), .val (.ref ar), .val (.int (0 : Int32)), .val (.int (1 : Int32)), .val .null, .val (.ref b39)] [(.ref b39), (.ref a)]))
    refine Run.pre (fun _ k => XS.iloadN X39.here hx rfl (hb hby d3_44) rfl  k) ?_
    show Run p e below s _ _ _ (T39.setTop (mkF m 45 #[.val (.ref a), .val (.ref ar), .val (.int (0 : Int32)), .val (.int (1 : Int32)), .val .null, .val (.ref b39)] [(.int (1 : Int32)), (.ref b39), (.ref a)]))
    refine Run.callS hS (Nat.le_refl _) X39 hx hZ (y := (⟨"java/lang/StringUTF16", "coderFromArrayLen", "([BI)B"⟩ : MethodName)) hown (hw _ (List.mem_of_getElem? (i := 63) rfl)) (hw _ (List.mem_of_getElem? (i := 64) rfl)) (hw _ (List.mem_of_getElem? (i := 39) rfl)) (hw _ (List.mem_of_getElem? (i := 65) rfl)) (by decide) (W := 1) (rmCo_1L l Z a0 hw b39 k39 c0 T39.heap n0 (Nat.le_trans Z0 K39.1) vv) rfl (by decide) (by decide) (by decide) (by decide) (fun _ _ => trivial) (g := (mkF m 45 #[.val (.ref a), .val (.ref ar), .val (.int (0 : Int32)), .val (.int (1 : Int32)), .val .null, .val (.ref b39)] [(.int (1 : Int32)), (.ref b39), (.ref a)])) rfl (by rw [hml]; rfl) (argsL := [(.ref b39), (.int (1 : Int32))]) (rest := [(.ref a)]) (lenOf pd_6 rfl) rfl (by show 2 * 0 + _ ≤ _; exact Nat.le_of_eq rfl) (hb hby d3_45) ?_
    intro v40 T40 L40 X40 hS hZ hown hV40 hQ40
    obtain ⟨rfl, Nq40, he40⟩ := hQ40
    have N40 := Fr.app N39 Nq40
    have e40 : T40.heap = T39.heap := he40
    show Run p e below s _ _ _ (T40.setTop (mkF m 48 #[.val (.ref a), .val (.ref ar), .val (.int (0 : Int32)), .val (.int (1 : Int32)), .val .null, .val (.ref b39)] [(.int (0 : Int32)), (.ref a)]))
    have f41 := (E_a.keep Kc39)
    have f42 := (FCo.keep Kc39 nin0)
    obtain ⟨T43, h43, X43, e43, W43, st43⟩ := putFN X40 hx hZ hown (hw _ (List.mem_of_getElem? (i := 26) rfl)) Via.refl e40 f42 f41 (Or.inr ⟨(hw _ (List.mem_of_getElem? (i := 22) rfl)), rfl, hnm⟩) (hw _ (List.mem_of_getElem? (i := 6) rfl)) (ty := .byte) (v' := (.int (nar .byte (0 : Int32)))) (by decide) rfl (fits_nar_byte _) (g := (mkF m 48 #[.val (.ref a), .val (.ref ar), .val (.int (0 : Int32)), .val (.int (1 : Int32)), .val .null, .val (.ref b39)] [(.int (0 : Int32)), (.ref a)])) rfl rfl (hb hby d3_48)
    refine Run.pre st43 ?_
    have Fw43 := f42.same W43
    have K43 : Keep h0 h43 [a] := K39.wr W43 (Or.inl (by simp))
    have N43 := Fr.snoc X43 N40 g_a
    show Run p e below s _ _ _ (T43.setTop (mkF m 51 #[.val (.ref a), .val (.ref ar), .val (.int (0 : Int32)), .val (.int (1 : Int32)), .val .null, .val (.ref b39)] []))
    refine Run.pre (fun _ k => XS.aloadN X43.here hx rfl (hb hby d3_51) rfl rfl k) ?_
    show Run p e below s _ _ _ (T43.setTop (mkF m 52 #[.val (.ref a), .val (.ref ar), .val (.int (0 : Int32)), .val (.int (1 : Int32)), .val .null, .val (.ref b39)] [(.ref a)]))
    refine Run.pre (fun _ k => XS.aload X43.here hx rfl (hb hby d3_52) rfl rfl k) ?_
    show Run p e below s _ _ _ (T43.setTop (mkF m 54 #[.val (.ref a), .val (.ref ar), .val (.int (0 : Int32)), .val (.int (1 : Int32)), .val .null, .val (.ref b39)] [(.ref b39), (.ref a)]))
    have f44 := (f41.wr W43)
    have f45 := ((FV.keep Kc39 nin0).other W43 (Or.inr (slot_ne (Or.inr (hw _ (List.mem_of_getElem? (i := 21) rfl))) (Or.inr (hw _ (List.mem_of_getElem? (i := 22) rfl))) (by decide) (t := (.array .byte)) (t' := .byte) (by decide) (by decide))))
    obtain ⟨T46, h46, X46, e46, W46, st46⟩ := putF X43 hx hZ hown (host := "") (Or.inl (hw _ (List.mem_of_getElem? (i := 25) rfl))) Via.refl e43 f45 f44 (Or.inr ⟨(hw _ (List.mem_of_getElem? (i := 21) rfl)), rfl, hnm⟩) (hw _ (List.mem_of_getElem? (i := 6) rfl)) (ty := (.array .byte)) (by decide) rfl rfl (g := (mkF m 54 #[.val (.ref a), .val (.ref ar), .val (.int (0 : Int32)), .val (.int (1 : Int32)), .val .null, .val (.ref b39)] [(.ref b39), (.ref a)])) rfl rfl (hb hby d3_54)
    refine Run.pre st46 ?_
    have Fw46 := f45.same W46
    have K46 : Keep h0 h46 [a] := K43.wr W46 (Or.inl (by simp))
    have N46 := Fr.snoc X46 N43 g_a
    show Run p e below s _ _ _ (T46.setTop (mkF m 57 #[.val (.ref a), .val (.ref ar), .val (.int (0 : Int32)), .val (.int (1 : Int32)), .val .null, .val (.ref b39)] []))
    have f47 := (Fw43.other W46 (Or.inr (slot_ne (Or.inr (hw _ (List.mem_of_getElem? (i := 22) rfl))) (Or.inr (hw _ (List.mem_of_getElem? (i := 21) rfl))) (by decide) (t := .byte) (t' := (.array .byte)) (by decide) (by decide))))
    have f48 := ((vv.other W43 (Ne.symm (Nat.ne_of_lt (Nat.lt_of_lt_of_le E_a.lt sz39)))).other W46 (Ne.symm (Nat.ne_of_lt (Nat.lt_of_lt_of_le E_a.lt sz39))))
    exact Run.retV hS (by first | exact Nat.le_refl _ | (rw [e46]; exact (Nat.le_trans (Nat.le_trans (Nat.le_of_eq (congrArg Array.size e40)) (Keep.of_wr W43).1) (Keep.of_wr W46).1))) X46 hx hret hlk (hb hby d3_57) (by first | (rw [e46]; exact ⟨b39, k39, rfl, N46, K46, sz_b39, Fw46, Or.inl ⟨f47, hl, f48⟩⟩) | exact ⟨b39, k39, rfl, N46, K46, sz_b39, Fw46, Or.inl ⟨f47, hl, f48⟩⟩) (by decide) (by decide)
  · skip
    show Run p e below s _ _ _ (T39.setTop (mkF m 39 #[.val (.ref a), .val (.ref ar), .val (.int (0 : Int32)), .val (.int (1 : Int32)), .val .null, .unset] [(.ref b39)]))
    refine Run.pre (fun _ k => XS.astore X39.here hx rfl (hb hby d3_39) rfl rfl (l' := #[.val (.ref a), .val (.ref ar), .val (.int (0 : Int32)), .val (.int (1 : Int32)), .val .null, .val (.ref b39)]) rfl k) ?_
    show Run p e below s _ _ _ (T39.setTop (mkF m 41 #[.val (.ref a), .val (.ref ar), .val (.int (0 : Int32)), .val (.int (1 : Int32)), .val .null, .val (.ref b39)] []))
    refine Run.pre (fun _ k => XS.aloadN X39.here hx rfl (hb hby d3_41) rfl rfl k) ?_
    show Run p e below s _ _ _ (T39.setTop (mkF m 42 #[.val (.ref a), .val (.ref ar), .val (.int (0 : Int32)), .val (.int (1 : Int32)), .val .null, .val (.ref b39)] [(.ref a)]))
    refine Run.pre (fun _ k => XS.aload X39.here hx rfl (hb hby d3_42) rfl rfl k) ?_
    show Run p e below s _ _ _ (T39.setTop (mkF m 44 #[.val (.ref a), .val (.ref ar), .val (.int (0 : Int32)), .val (.int (1 : Int32)), .val .null, .val (.ref b39)] [(.ref b39), (.ref a)]))
    refine Run.pre (fun _ k => XS.iloadN X39.here hx rfl (hb hby d3_44) rfl  k) ?_
    show Run p e below s _ _ _ (T39.setTop (mkF m 45 #[.val (.ref a), .val (.ref ar), .val (.int (0 : Int32)), .val (.int (1 : Int32)), .val .null, .val (.ref b39)] [(.int (1 : Int32)), (.ref b39), (.ref a)]))
    refine Run.callS hS (Nat.le_refl _) X39 hx hZ (y := (⟨"java/lang/StringUTF16", "coderFromArrayLen", "([BI)B"⟩ : MethodName)) hown (hw _ (List.mem_of_getElem? (i := 63) rfl)) (hw _ (List.mem_of_getElem? (i := 64) rfl)) (hw _ (List.mem_of_getElem? (i := 39) rfl)) (hw _ (List.mem_of_getElem? (i := 65) rfl)) (by decide) (W := 1) (rmCo_1U l Z a0 hw b39 k39 c0 T39.heap n0 (Nat.le_trans Z0 K39.1) vv) rfl (by decide) (by decide) (by decide) (by decide) (fun _ _ => trivial) (g := (mkF m 45 #[.val (.ref a), .val (.ref ar), .val (.int (0 : Int32)), .val (.int (1 : Int32)), .val .null, .val (.ref b39)] [(.int (1 : Int32)), (.ref b39), (.ref a)])) rfl (by rw [hml]; rfl) (argsL := [(.ref b39), (.int (1 : Int32))]) (rest := [(.ref a)]) (lenOf pd_6 rfl) rfl (by show 2 * 0 + _ ≤ _; exact Nat.le_of_eq rfl) (hb hby d3_45) ?_
    intro v49 T49 L49 X49 hS hZ hown hV49 hQ49
    obtain ⟨rfl, Nq49, he49⟩ := hQ49
    have N49 := Fr.app N39 Nq49
    have e49 : T49.heap = T39.heap := he49
    show Run p e below s _ _ _ (T49.setTop (mkF m 48 #[.val (.ref a), .val (.ref ar), .val (.int (0 : Int32)), .val (.int (1 : Int32)), .val .null, .val (.ref b39)] [(.int (1 : Int32)), (.ref a)]))
    have f50 := (E_a.keep Kc39)
    have f51 := (FCo.keep Kc39 nin0)
    obtain ⟨T52, h52, X52, e52, W52, st52⟩ := putFN X49 hx hZ hown (hw _ (List.mem_of_getElem? (i := 26) rfl)) Via.refl e49 f51 f50 (Or.inr ⟨(hw _ (List.mem_of_getElem? (i := 22) rfl)), rfl, hnm⟩) (hw _ (List.mem_of_getElem? (i := 6) rfl)) (ty := .byte) (v' := (.int (nar .byte (1 : Int32)))) (by decide) rfl (fits_nar_byte _) (g := (mkF m 48 #[.val (.ref a), .val (.ref ar), .val (.int (0 : Int32)), .val (.int (1 : Int32)), .val .null, .val (.ref b39)] [(.int (1 : Int32)), (.ref a)])) rfl rfl (hb hby d3_48)
    refine Run.pre st52 ?_
    have Fw52 := f51.same W52
    have K52 : Keep h0 h52 [a] := K39.wr W52 (Or.inl (by simp))
    have N52 := Fr.snoc X52 N49 g_a
    show Run p e below s _ _ _ (T52.setTop (mkF m 51 #[.val (.ref a), .val (.ref ar), .val (.int (0 : Int32)), .val (.int (1 : Int32)), .val .null, .val (.ref b39)] []))
    refine Run.pre (fun _ k => XS.aloadN X52.here hx rfl (hb hby d3_51) rfl rfl k) ?_
    show Run p e below s _ _ _ (T52.setTop (mkF m 52 #[.val (.ref a), .val (.ref ar), .val (.int (0 : Int32)), .val (.int (1 : Int32)), .val .null, .val (.ref b39)] [(.ref a)]))
    refine Run.pre (fun _ k => XS.aload X52.here hx rfl (hb hby d3_52) rfl rfl k) ?_
    show Run p e below s _ _ _ (T52.setTop (mkF m 54 #[.val (.ref a), .val (.ref ar), .val (.int (0 : Int32)), .val (.int (1 : Int32)), .val .null, .val (.ref b39)] [(.ref b39), (.ref a)]))
    have f53 := (f50.wr W52)
    have f54 := ((FV.keep Kc39 nin0).other W52 (Or.inr (slot_ne (Or.inr (hw _ (List.mem_of_getElem? (i := 21) rfl))) (Or.inr (hw _ (List.mem_of_getElem? (i := 22) rfl))) (by decide) (t := (.array .byte)) (t' := .byte) (by decide) (by decide))))
    obtain ⟨T55, h55, X55, e55, W55, st55⟩ := putF X52 hx hZ hown (host := "") (Or.inl (hw _ (List.mem_of_getElem? (i := 25) rfl))) Via.refl e52 f54 f53 (Or.inr ⟨(hw _ (List.mem_of_getElem? (i := 21) rfl)), rfl, hnm⟩) (hw _ (List.mem_of_getElem? (i := 6) rfl)) (ty := (.array .byte)) (by decide) rfl rfl (g := (mkF m 54 #[.val (.ref a), .val (.ref ar), .val (.int (0 : Int32)), .val (.int (1 : Int32)), .val .null, .val (.ref b39)] [(.ref b39), (.ref a)])) rfl rfl (hb hby d3_54)
    refine Run.pre st55 ?_
    have Fw55 := f54.same W55
    have K55 : Keep h0 h55 [a] := K52.wr W55 (Or.inl (by simp))
    have N55 := Fr.snoc X55 N52 g_a
    show Run p e below s _ _ _ (T55.setTop (mkF m 57 #[.val (.ref a), .val (.ref ar), .val (.int (0 : Int32)), .val (.int (1 : Int32)), .val .null, .val (.ref b39)] []))
    have f56 := (Fw52.other W55 (Or.inr (slot_ne (Or.inr (hw _ (List.mem_of_getElem? (i := 22) rfl))) (Or.inr (hw _ (List.mem_of_getElem? (i := 21) rfl))) (by decide) (t := .byte) (t' := (.array .byte)) (by decide) (by decide))))
    have f57 := ((vv.other W52 (Ne.symm (Nat.ne_of_lt (Nat.lt_of_lt_of_le E_a.lt sz39)))).other W55 (Ne.symm (Nat.ne_of_lt (Nat.lt_of_lt_of_le E_a.lt sz39))))
    exact Run.retV hS (by first | exact Nat.le_refl _ | (rw [e55]; exact (Nat.le_trans (Nat.le_trans (Nat.le_of_eq (congrArg Array.size e49)) (Keep.of_wr W52).1) (Keep.of_wr W55).1))) X55 hx hret hlk (hb hby d3_57) (by first | (rw [e55]; exact ⟨b39, k39, rfl, N55, K55, sz_b39, Fw55, Or.inr ⟨f56, hl, f57⟩⟩) | exact ⟨b39, k39, rfl, N55, K55, sz_b39, Fw55, Or.inr ⟨f56, hl, f57⟩⟩) (by decide) (by decide)
theorem d2_0 : decode jdk_42_method_3_code 0 = .ok (.aload_n 0, 1) := by decide +kernel
theorem d2_1 : decode jdk_42_method_3_code 1 = .ok (.aload_n 1, 1) := by decide +kernel
theorem d2_2 : decode jdk_42_method_3_code 2 = .ok (.iconst 0, 1) := by decide +kernel
theorem d2_3 : decode jdk_42_method_3_code 3 = .ok (.aload_n 1, 1) := by decide +kernel
theorem d2_4 : decode jdk_42_method_3_code 4 = .ok (.arraylength, 1) := by decide +kernel
theorem d2_5 : decode jdk_42_method_3_code 5 = .ok (.aconst_null, 1) := by decide +kernel
theorem pd_7 : parseMethodDescriptor "([CIILjava/lang/Void;)V" = some ⟨[(.array .char), .int, .int, (.object "java/lang/Void")], none⟩ := by decide +kernel
theorem d2_6 : decode jdk_42_method_3_code 6 = .ok (.invokespecial 27, 3) := by decide +kernel
theorem d2_9 : decode jdk_42_method_3_code 9 = .ok (.return_, 1) := by decide +kernel
theorem pn_2 : plainName "java/lang/String" = true := by first | (simp [plainName, overriddenIn]; done) | decide +kernel
set_option maxRecDepth 65536 in
set_option maxHeartbeats 40000000 in
theorem rmI_1 (l : Launch) (Z : State) (a0 : Array Value) (hw : ∀ d ∈ tables_1, d.before a0 Z = true) (a : Addr) (ar : Addr) (kc : ClassId) (c0 : Int32) (cs : Int32) (h0 : Heap) (n0 : Nat) (Z0 : n0 ≤ h0.size) (OL : Old Z n0 h0) (SC : Sta Z Z.heap "java/lang/String" "COMPACT_STRINGS" "Z" (.int cs)) (hcs : ¬ cs = 0) (SA : Sta Z Z.heap "java/lang/StringUTF16" "$assertionsDisabled" "Z" (.int 1)) (SH : Sta Z Z.heap "java/lang/StringUTF16" "HI_BYTE_SHIFT" "I" (.int 0)) (SL : Sta Z Z.heap "java/lang/StringUTF16" "LO_BYTE_SHIFT" "I" (.int 8)) (AC : Arv Z h0 ar kc .char 1 [(.int c0)] (.int 0)) (E_a : Exa Z h0 a "java/lang/String") (FV : Fld Z h0 a "java/lang/String" "value" "[B" .null) (FCo : Fld Z h0 a "java/lang/String" "coder" "B" (.int 0)) (g_a : n0 ≤ a) (nar_ : ar ≠ a) (w0 : nar .char c0 = c0) :
    Con l (⟨"java/lang/String", "<init>", "([C)V"⟩ : MethodName) jdk_42_method_3_code 2 none ({ frames := 5, cells := 2, slots := 3, locals := 74 } : Room) Z #[(.ref a), (.ref ar)] h0 (fun _ => True) (fun v h L vm => ∃ b : Addr, ∃ k : ClassId, v = none ∧ Fr n0 L ∧ Keep h0 h [a] ∧ h0.size ≤ b ∧ Fld Z h a "java/lang/String" "value" "[B" (.ref b) ∧ (Fld Z h a "java/lang/String" "coder" "B" (.int 0) ∧ (¬ (255 : Int32) < c0) ∧ Arv Z h b k .byte 1 [(.int (nar .byte (c0.toInt8.toInt32)))] (.int 0) ∨ Fld Z h a "java/lang/String" "coder" "B" (.int 1) ∧ (¬ (¬ (255 : Int32) < c0)) ∧ Arv Z h b k .byte 2 [(.int (own_b0 c0)), (.int (own_b1 c0))] (.int 0))) := by
  refine Con.mk (plainFor_of_name pn_2) (fun m => show entryFrame m #[(.ref a), (.ref ar)] 2 = mkF m 0 #[.val (.ref a), .val (.ref ar)] [] by first | (simp [entryFrame, mkF, argsToLocals, Value.category]; done) | rfl) ?_
  intro p e s m below meth c s₁ vm0 hx hby hml hown hnm hret hlk hZ X0 e0 hS hs0 hP0
  have N0 := Fr.nil n0
  show Run p e below s _ _ _ (s₁.setTop (mkF m 0 #[.val (.ref a), .val (.ref ar)] []))
  refine Run.pre (fun _ k => XS.aloadN X0.here hx rfl (hb hby d2_0) rfl rfl k) ?_
  show Run p e below s _ _ _ (s₁.setTop (mkF m 1 #[.val (.ref a), .val (.ref ar)] [(.ref a)]))
  refine Run.pre (fun _ k => XS.aloadN X0.here hx rfl (hb hby d2_1) rfl rfl k) ?_
  show Run p e below s _ _ _ (s₁.setTop (mkF m 2 #[.val (.ref a), .val (.ref ar)] [(.ref ar), (.ref a)]))
  refine Run.pre (fun _ k => XS.iconst X0.here hx rfl (hb hby d2_2) k) ?_
  show Run p e below s _ _ _ (s₁.setTop (mkF m 3 #[.val (.ref a), .val (.ref ar)] [(.int (0 : Int32)), (.ref ar), (.ref a)]))
  refine Run.pre (fun _ k => XS.aloadN X0.here hx rfl (hb hby d2_3) rfl rfl k) ?_
  show Run p e below s _ _ _ (s₁.setTop (mkF m 4 #[.val (.ref a), .val (.ref ar)] [(.ref ar), (.int (0 : Int32)), (.ref ar), (.ref a)]))
  obtain ⟨c58, Ar58, -, S58, N58, -, -⟩ := id AC
  refine Run.pre (X0.arraylength hx (by rw [e0]; exact Ar58.1) (State.isArrayOf_alike hZ.alike Ar58.2.1) (g := (mkF m 4 #[.val (.ref a), .val (.ref ar)] [(.ref ar), (.int (0 : Int32)), (.ref ar), (.ref a)])) rfl rfl (hb hby d2_4)) ?_
  rw [len_of S58 N58]
  show Run p e below s _ _ _ (s₁.setTop (mkF m 5 #[.val (.ref a), .val (.ref ar)] [(.int (1 : Int32)), (.int (0 : Int32)), (.ref ar), (.ref a)]))
  refine Run.pre (fun _ k => XS.aconstNull X0.here hx rfl (hb hby d2_5) k) ?_
  show Run p e below s _ _ _ (s₁.setTop (mkF m 6 #[.val (.ref a), .val (.ref ar)] [.null, (.int (1 : Int32)), (.int (0 : Int32)), (.ref ar), (.ref a)]))
  refine Run.callI hS (by first | exact Nat.le_refl _ | (rw [e0]; exact (Nat.zero_le _))) X0 hx hZ (y := (⟨"java/lang/String", "<init>", "([CIILjava/lang/Void;)V"⟩ : MethodName)) rfl hown (hw _ (List.mem_of_getElem? (i := 12) rfl)) (hw _ (List.mem_of_getElem? (i := 13) rfl)) (hw _ (List.mem_of_getElem? (i := 15) rfl)) (hw _ (List.mem_of_getElem? (i := 7) rfl)) (by decide) (a := a) (W := 0) (rmI4_1 l Z a0 hw a ar kc c0 cs h0 n0 (Nat.le_trans Z0 (Keep.refl h0 [a]).1) OL SC hcs SA SH SL AC E_a FV FCo g_a nar_ w0) e0 (by decide) (by decide) (by decide) (by decide) (fun _ _ => trivial) (g := (mkF m 6 #[.val (.ref a), .val (.ref ar)] [.null, (.int (1 : Int32)), (.int (0 : Int32)), (.ref ar), (.ref a)])) rfl (by rw [hml]; rfl) (argsL := [(.ref ar), (.int (0 : Int32)), (.int (1 : Int32)), .null]) (rest := []) (lenOf pd_7 rfl) rfl (by show 2 * 0 + _ ≤ _; exact Nat.le_of_eq rfl) (hb hby d2_6) ?_
  intro v59 T59 L59 X59 hS hZ hown hV59 hQ59
  obtain ⟨b59, k59, rfl, Nq59, Kc59, sz59, fv59, dq59⟩ := hQ59
  have N59 := Fr.app N0 Nq59
  have K59 : Keep h0 T59.heap [a] := (Keep.refl h0 [a]).trans Kc59 (allS (Or.inl (by simp)) all0)
  show Run p e below s _ _ _ (T59.setTop (mkF m 9 #[.val (.ref a), .val (.ref ar)] []))
  exact Run.retV hS (Nat.le_refl _) X59 hx hret hlk (hb hby d2_9) ⟨b59, k59, rfl, N59, K59, sz59, fv59, dq59⟩ (by decide) (by decide)
set_option maxRecDepth 65536 in
set_option maxHeartbeats 40000000 in
theorem rmC2_2_0 (l : Launch) (Z : State) (a0 : Array Value) (hw : ∀ d ∈ tables_1, d.before a0 Z = true) (ar : Addr) (ds : Addr) (kc : ClassId) (kb : ClassId) (c0 : Int32) (c1 : Int32) (h0 : Heap) (n0 : Nat) (Z0 : n0 ≤ h0.size) (AC : Arv Z h0 ar kc .char 2 [(.int c0), (.int c1)] (.int 0)) (AB : Arv Z h0 ds kb .byte 2 [(.int (0 : Int32)), (.int (0 : Int32))] (.int 0)) (nad : ar ≠ ds) (g_ds : n0 ≤ ds) (q0 : (255 : Int32) < c0) :
    Con l (⟨"java/lang/StringUTF16", "compress", "([CI[BII)I"⟩ : MethodName) jdk_52_method_21_code 7 (some .int) ({ frames := 0, cells := 0, slots := 0, locals := 0 } : Room) Z #[(.ref ar), (.int (0 : Int32)), (.ref ds), (.int (0 : Int32)), (.int (2 : Int32))] h0 (fun _ => True) (fun v h L vm => v = some (.int 0) ∧ Fr n0 L ∧ Keep h0 h [ds]) := by
  refine Con.mk (plainFor_of_name pn_8) (fun m => show entryFrame m #[(.ref ar), (.int (0 : Int32)), (.ref ds), (.int (0 : Int32)), (.int (2 : Int32))] 7 = mkF m 0 #[.val (.ref ar), .val (.int (0 : Int32)), .val (.ref ds), .val (.int (0 : Int32)), .val (.int (2 : Int32)), .unset, .unset] [] by first | (simp [entryFrame, mkF, argsToLocals, Value.category]; done) | rfl) ?_
  intro p e s m below meth c s₁ vm0 hx hby hml hown hnm hret hlk hZ X0 e0 hS hs0 hP0
  have N0 := Fr.nil n0
  show Run p e below s _ _ _ (s₁.setTop (mkF m 0 #[.val (.ref ar), .val (.int (0 : Int32)), .val (.ref ds), .val (.int (0 : Int32)), .val (.int (2 : Int32)), .unset, .unset] []))
  refine Run.pre (fun _ k => XS.iconst X0.here hx rfl (hb hby d8_0) k) ?_
  show Run p e below s _ _ _ (s₁.setTop (mkF m 1 #[.val (.ref ar), .val (.int (0 : Int32)), .val (.ref ds), .val (.int (0 : Int32)), .val (.int (2 : Int32)), .unset, .unset] [(.int (0 : Int32))]))
  refine Run.pre (fun _ k => XS.istore X0.here hx rfl (hb hby d8_1) rfl (l' := #[.val (.ref ar), .val (.int (0 : Int32)), .val (.ref ds), .val (.int (0 : Int32)), .val (.int (2 : Int32)), .val (.int (0 : Int32)), .unset]) rfl k) ?_
  show Run p e below s _ _ _ (s₁.setTop (mkF m 3 #[.val (.ref ar), .val (.int (0 : Int32)), .val (.ref ds), .val (.int (0 : Int32)), .val (.int (2 : Int32)), .val (.int (0 : Int32)), .unset] []))
  refine Run.pre (fun _ k => XS.iload X0.here hx rfl (hb hby d8_3) rfl  k) ?_
  show Run p e below s _ _ _ (s₁.setTop (mkF m 5 #[.val (.ref ar), .val (.int (0 : Int32)), .val (.ref ds), .val (.int (0 : Int32)), .val (.int (2 : Int32)), .val (.int (0 : Int32)), .unset] [(.int (0 : Int32))]))
  refine Run.pre (fun _ k => XS.iload X0.here hx rfl (hb hby d8_5) rfl  k) ?_
  show Run p e below s _ _ _ (s₁.setTop (mkF m 7 #[.val (.ref ar), .val (.int (0 : Int32)), .val (.ref ds), .val (.int (0 : Int32)), .val (.int (2 : Int32)), .val (.int (0 : Int32)), .unset] [(.int (2 : Int32)), (.int (0 : Int32))]))
  refine Run.pre (fun _ k => XS.icmpNo X0.here hx rfl (hb hby d8_7) rfl (tlt ((by decide) : (0 : Int32) < (2 : Int32))).2.1 k) ?_
  show Run p e below s _ _ _ (s₁.setTop (mkF m 10 #[.val (.ref ar), .val (.int (0 : Int32)), .val (.ref ds), .val (.int (0 : Int32)), .val (.int (2 : Int32)), .val (.int (0 : Int32)), .unset] []))
  refine Run.pre (fun _ k => XS.aloadN X0.here hx rfl (hb hby d8_10) rfl rfl k) ?_
  show Run p e below s _ _ _ (s₁.setTop (mkF m 11 #[.val (.ref ar), .val (.int (0 : Int32)), .val (.ref ds), .val (.int (0 : Int32)), .val (.int (2 : Int32)), .val (.int (0 : Int32)), .unset] [(.ref ar)]))
  refine Run.pre (fun _ k => XS.iloadN X0.here hx rfl (hb hby d8_11) rfl  k) ?_
  show Run p e below s _ _ _ (s₁.setTop (mkF m 12 #[.val (.ref ar), .val (.int (0 : Int32)), .val (.ref ds), .val (.int (0 : Int32)), .val (.int (2 : Int32)), .val (.int (0 : Int32)), .unset] [(.int (0 : Int32)), (.ref ar)]))
  obtain ⟨c60, Ar60, -, S60, N60, H60, -⟩ := id AC
  have hin60 : ¬ ((0 : Int32) < 0 ∨ c60.slots.size ≤ ((0 : Int32)).toNatClampNeg) := inb_of S60 ⟨by decide, by decide⟩
  refine Run.pre (X0.caload hx (j := (0 : Int32)) (v := (.int c0)) (by rw [e0]; exact Ar60.1) (State.isArrayOf_alike hZ.alike Ar60.2.1) Ar60.2.2 hin60 (H60.at hin60 rfl) (g := (mkF m 12 #[.val (.ref ar), .val (.int (0 : Int32)), .val (.ref ds), .val (.int (0 : Int32)), .val (.int (2 : Int32)), .val (.int (0 : Int32)), .unset] [(.int (0 : Int32)), (.ref ar)])) rfl rfl (hb hby d8_12)) ?_
  show Run p e below s _ _ _ (s₁.setTop (mkF m 13 #[.val (.ref ar), .val (.int (0 : Int32)), .val (.ref ds), .val (.int (0 : Int32)), .val (.int (2 : Int32)), .val (.int (0 : Int32)), .unset] [(.int c0)]))
  refine Run.pre (fun _ k => XS.istore X0.here hx rfl (hb hby d8_13) rfl (l' := #[.val (.ref ar), .val (.int (0 : Int32)), .val (.ref ds), .val (.int (0 : Int32)), .val (.int (2 : Int32)), .val (.int (0 : Int32)), .val (.int c0)]) rfl k) ?_
  show Run p e below s _ _ _ (s₁.setTop (mkF m 15 #[.val (.ref ar), .val (.int (0 : Int32)), .val (.ref ds), .val (.int (0 : Int32)), .val (.int (2 : Int32)), .val (.int (0 : Int32)), .val (.int c0)] []))
  refine Run.pre (fun _ k => XS.iload X0.here hx rfl (hb hby d8_15) rfl  k) ?_
  show Run p e below s _ _ _ (s₁.setTop (mkF m 17 #[.val (.ref ar), .val (.int (0 : Int32)), .val (.ref ds), .val (.int (0 : Int32)), .val (.int (2 : Int32)), .val (.int (0 : Int32)), .val (.int c0)] [(.int c0)]))
  refine Run.pre (fun _ k => XS.sipush X0.here hx rfl (hb hby d8_17) k) ?_
  show Run p e below s _ _ _ (s₁.setTop (mkF m 20 #[.val (.ref ar), .val (.int (0 : Int32)), .val (.ref ds), .val (.int (0 : Int32)), .val (.int (2 : Int32)), .val (.int (0 : Int32)), .val (.int c0)] [(.int (255 : Int32)), (.int c0)]))
  refine Run.pre (fun _ k => XS.icmpNo X0.here hx rfl (hb hby d8_20) rfl (tlt (q0 : (255 : Int32) < c0)).2.2.2 k) ?_
  show Run p e below s _ _ _ (s₁.setTop (mkF m 23 #[.val (.ref ar), .val (.int (0 : Int32)), .val (.ref ds), .val (.int (0 : Int32)), .val (.int (2 : Int32)), .val (.int (0 : Int32)), .val (.int c0)] []))
  refine Run.pre (fun _ k => XS.iload X0.here hx rfl (hb hby d8_23) rfl  k) ?_
  show Run p e below s _ _ _ (s₁.setTop (mkF m 25 #[.val (.ref ar), .val (.int (0 : Int32)), .val (.ref ds), .val (.int (0 : Int32)), .val (.int (2 : Int32)), .val (.int (0 : Int32)), .val (.int c0)] [(.int (0 : Int32))]))
  exact Run.retI hS (by first | exact Nat.le_refl _ | (rw [e0]; exact (Nat.zero_le _))) X0 hx hret hlk (hb hby d8_25) (by first | (rw [e0]; exact ⟨rfl, N0, (Keep.refl h0 [ds])⟩) | exact ⟨rfl, N0, (Keep.refl h0 [ds])⟩) (by decide) (by decide)
set_option maxRecDepth 65536 in
set_option maxHeartbeats 40000000 in
theorem rmC2_2_1 (l : Launch) (Z : State) (a0 : Array Value) (hw : ∀ d ∈ tables_1, d.before a0 Z = true) (ar : Addr) (ds : Addr) (kc : ClassId) (kb : ClassId) (c0 : Int32) (c1 : Int32) (h0 : Heap) (n0 : Nat) (Z0 : n0 ≤ h0.size) (AC : Arv Z h0 ar kc .char 2 [(.int c0), (.int c1)] (.int 0)) (AB : Arv Z h0 ds kb .byte 2 [(.int (0 : Int32)), (.int (0 : Int32))] (.int 0)) (nad : ar ≠ ds) (g_ds : n0 ≤ ds) (q0 : ¬ (255 : Int32) < c0) (q1 : (255 : Int32) < c1) :
    Con l (⟨"java/lang/StringUTF16", "compress", "([CI[BII)I"⟩ : MethodName) jdk_52_method_21_code 7 (some .int) ({ frames := 0, cells := 0, slots := 0, locals := 0 } : Room) Z #[(.ref ar), (.int (0 : Int32)), (.ref ds), (.int (0 : Int32)), (.int (2 : Int32))] h0 (fun _ => True) (fun v h L vm => v = some (.int 1) ∧ Fr n0 L ∧ Keep h0 h [ds]) := by
  refine Con.mk (plainFor_of_name pn_8) (fun m => show entryFrame m #[(.ref ar), (.int (0 : Int32)), (.ref ds), (.int (0 : Int32)), (.int (2 : Int32))] 7 = mkF m 0 #[.val (.ref ar), .val (.int (0 : Int32)), .val (.ref ds), .val (.int (0 : Int32)), .val (.int (2 : Int32)), .unset, .unset] [] by first | (simp [entryFrame, mkF, argsToLocals, Value.category]; done) | rfl) ?_
  intro p e s m below meth c s₁ vm0 hx hby hml hown hnm hret hlk hZ X0 e0 hS hs0 hP0
  have N0 := Fr.nil n0
  show Run p e below s _ _ _ (s₁.setTop (mkF m 0 #[.val (.ref ar), .val (.int (0 : Int32)), .val (.ref ds), .val (.int (0 : Int32)), .val (.int (2 : Int32)), .unset, .unset] []))
  refine Run.pre (fun _ k => XS.iconst X0.here hx rfl (hb hby d8_0) k) ?_
  show Run p e below s _ _ _ (s₁.setTop (mkF m 1 #[.val (.ref ar), .val (.int (0 : Int32)), .val (.ref ds), .val (.int (0 : Int32)), .val (.int (2 : Int32)), .unset, .unset] [(.int (0 : Int32))]))
  refine Run.pre (fun _ k => XS.istore X0.here hx rfl (hb hby d8_1) rfl (l' := #[.val (.ref ar), .val (.int (0 : Int32)), .val (.ref ds), .val (.int (0 : Int32)), .val (.int (2 : Int32)), .val (.int (0 : Int32)), .unset]) rfl k) ?_
  show Run p e below s _ _ _ (s₁.setTop (mkF m 3 #[.val (.ref ar), .val (.int (0 : Int32)), .val (.ref ds), .val (.int (0 : Int32)), .val (.int (2 : Int32)), .val (.int (0 : Int32)), .unset] []))
  refine Run.pre (fun _ k => XS.iload X0.here hx rfl (hb hby d8_3) rfl  k) ?_
  show Run p e below s _ _ _ (s₁.setTop (mkF m 5 #[.val (.ref ar), .val (.int (0 : Int32)), .val (.ref ds), .val (.int (0 : Int32)), .val (.int (2 : Int32)), .val (.int (0 : Int32)), .unset] [(.int (0 : Int32))]))
  refine Run.pre (fun _ k => XS.iload X0.here hx rfl (hb hby d8_5) rfl  k) ?_
  show Run p e below s _ _ _ (s₁.setTop (mkF m 7 #[.val (.ref ar), .val (.int (0 : Int32)), .val (.ref ds), .val (.int (0 : Int32)), .val (.int (2 : Int32)), .val (.int (0 : Int32)), .unset] [(.int (2 : Int32)), (.int (0 : Int32))]))
  refine Run.pre (fun _ k => XS.icmpNo X0.here hx rfl (hb hby d8_7) rfl (tlt ((by decide) : (0 : Int32) < (2 : Int32))).2.1 k) ?_
  show Run p e below s _ _ _ (s₁.setTop (mkF m 10 #[.val (.ref ar), .val (.int (0 : Int32)), .val (.ref ds), .val (.int (0 : Int32)), .val (.int (2 : Int32)), .val (.int (0 : Int32)), .unset] []))
  refine Run.pre (fun _ k => XS.aloadN X0.here hx rfl (hb hby d8_10) rfl rfl k) ?_
  show Run p e below s _ _ _ (s₁.setTop (mkF m 11 #[.val (.ref ar), .val (.int (0 : Int32)), .val (.ref ds), .val (.int (0 : Int32)), .val (.int (2 : Int32)), .val (.int (0 : Int32)), .unset] [(.ref ar)]))
  refine Run.pre (fun _ k => XS.iloadN X0.here hx rfl (hb hby d8_11) rfl  k) ?_
  show Run p e below s _ _ _ (s₁.setTop (mkF m 12 #[.val (.ref ar), .val (.int (0 : Int32)), .val (.ref ds), .val (.int (0 : Int32)), .val (.int (2 : Int32)), .val (.int (0 : Int32)), .unset] [(.int (0 : Int32)), (.ref ar)]))
  obtain ⟨c61, Ar61, -, S61, N61, H61, -⟩ := id AC
  have hin61 : ¬ ((0 : Int32) < 0 ∨ c61.slots.size ≤ ((0 : Int32)).toNatClampNeg) := inb_of S61 ⟨by decide, by decide⟩
  refine Run.pre (X0.caload hx (j := (0 : Int32)) (v := (.int c0)) (by rw [e0]; exact Ar61.1) (State.isArrayOf_alike hZ.alike Ar61.2.1) Ar61.2.2 hin61 (H61.at hin61 rfl) (g := (mkF m 12 #[.val (.ref ar), .val (.int (0 : Int32)), .val (.ref ds), .val (.int (0 : Int32)), .val (.int (2 : Int32)), .val (.int (0 : Int32)), .unset] [(.int (0 : Int32)), (.ref ar)])) rfl rfl (hb hby d8_12)) ?_
  show Run p e below s _ _ _ (s₁.setTop (mkF m 13 #[.val (.ref ar), .val (.int (0 : Int32)), .val (.ref ds), .val (.int (0 : Int32)), .val (.int (2 : Int32)), .val (.int (0 : Int32)), .unset] [(.int c0)]))
  refine Run.pre (fun _ k => XS.istore X0.here hx rfl (hb hby d8_13) rfl (l' := #[.val (.ref ar), .val (.int (0 : Int32)), .val (.ref ds), .val (.int (0 : Int32)), .val (.int (2 : Int32)), .val (.int (0 : Int32)), .val (.int c0)]) rfl k) ?_
  show Run p e below s _ _ _ (s₁.setTop (mkF m 15 #[.val (.ref ar), .val (.int (0 : Int32)), .val (.ref ds), .val (.int (0 : Int32)), .val (.int (2 : Int32)), .val (.int (0 : Int32)), .val (.int c0)] []))
  refine Run.pre (fun _ k => XS.iload X0.here hx rfl (hb hby d8_15) rfl  k) ?_
  show Run p e below s _ _ _ (s₁.setTop (mkF m 17 #[.val (.ref ar), .val (.int (0 : Int32)), .val (.ref ds), .val (.int (0 : Int32)), .val (.int (2 : Int32)), .val (.int (0 : Int32)), .val (.int c0)] [(.int c0)]))
  refine Run.pre (fun _ k => XS.sipush X0.here hx rfl (hb hby d8_17) k) ?_
  show Run p e below s _ _ _ (s₁.setTop (mkF m 20 #[.val (.ref ar), .val (.int (0 : Int32)), .val (.ref ds), .val (.int (0 : Int32)), .val (.int (2 : Int32)), .val (.int (0 : Int32)), .val (.int c0)] [(.int (255 : Int32)), (.int c0)]))
  refine Run.pre (fun _ k => XS.icmpYes X0.here hx rfl (pc0 := 20) (pc' := 26) rfl (hb hby d8_20) rfl (flt (q0 : ¬ ((255 : Int32) < c0))).2.2.2 (by decide) (by decide) k) ?_
  show Run p e below s _ _ _ (s₁.setTop (mkF m 26 #[.val (.ref ar), .val (.int (0 : Int32)), .val (.ref ds), .val (.int (0 : Int32)), .val (.int (2 : Int32)), .val (.int (0 : Int32)), .val (.int c0)] []))
  refine Run.pre (fun _ k => XS.aloadN X0.here hx rfl (hb hby d8_26) rfl rfl k) ?_
  show Run p e below s _ _ _ (s₁.setTop (mkF m 27 #[.val (.ref ar), .val (.int (0 : Int32)), .val (.ref ds), .val (.int (0 : Int32)), .val (.int (2 : Int32)), .val (.int (0 : Int32)), .val (.int c0)] [(.ref ds)]))
  refine Run.pre (fun _ k => XS.iloadN X0.here hx rfl (hb hby d8_27) rfl  k) ?_
  show Run p e below s _ _ _ (s₁.setTop (mkF m 28 #[.val (.ref ar), .val (.int (0 : Int32)), .val (.ref ds), .val (.int (0 : Int32)), .val (.int (2 : Int32)), .val (.int (0 : Int32)), .val (.int c0)] [(.int (0 : Int32)), (.ref ds)]))
  refine Run.pre (fun _ k => XS.iload X0.here hx rfl (hb hby d8_28) rfl  k) ?_
  show Run p e below s _ _ _ (s₁.setTop (mkF m 30 #[.val (.ref ar), .val (.int (0 : Int32)), .val (.ref ds), .val (.int (0 : Int32)), .val (.int (2 : Int32)), .val (.int (0 : Int32)), .val (.int c0)] [(.int c0), (.int (0 : Int32)), (.ref ds)]))
  refine Run.pre (fun _ k => XS.i2b X0.here hx rfl (hb hby d8_30) rfl k) ?_
  show Run p e below s _ _ _ (s₁.setTop (mkF m 31 #[.val (.ref ar), .val (.int (0 : Int32)), .val (.ref ds), .val (.int (0 : Int32)), .val (.int (2 : Int32)), .val (.int (0 : Int32)), .val (.int c0)] [(.int (c0.toInt8.toInt32)), (.int (0 : Int32)), (.ref ds)]))
  obtain ⟨c62, Ar62, q62, S62, N62, H62, G62⟩ := id AB
  have hin62 : ¬ ((0 : Int32) < 0 ∨ c62.slots.size ≤ ((0 : Int32)).toNatClampNeg) := inb_of S62 ⟨by decide, by decide⟩
  obtain ⟨T63, h63, X63, e63, W63, st63⟩ := stB X0 hx hZ e0 Ar62 (j := (0 : Int32)) hin62 (g := (mkF m 31 #[.val (.ref ar), .val (.int (0 : Int32)), .val (.ref ds), .val (.int (0 : Int32)), .val (.int (2 : Int32)), .val (.int (0 : Int32)), .val (.int c0)] [(.int (c0.toInt8.toInt32)), (.int (0 : Int32)), (.ref ds)])) rfl rfl (hb hby d8_31)
  refine Run.pre st63 ?_
  have V_ds_63 : Arv Z h63 ds kb .byte (2 : Int32) [(.int (nar .byte (c0.toInt8.toInt32))), (.int (0 : Int32))] (.int (0 : Int32)) := Arv.set Ar62 q62 S62 N62 H62 G62 (fits_nar_byte _) W63 0 rfl (Nat.le_of_ble_eq_true rfl)
  have K63 : Keep h0 h63 [ds] := (Keep.refl h0 [ds]).wr W63 (Or.inl (by simp))
  have N63 := Fr.snoc X63 N0 g_ds
  show Run p e below s _ _ _ (T63.setTop (mkF m 32 #[.val (.ref ar), .val (.int (0 : Int32)), .val (.ref ds), .val (.int (0 : Int32)), .val (.int (2 : Int32)), .val (.int (0 : Int32)), .val (.int c0)] []))
  refine Run.pre (fun _ k => XS.iinc X63.here hx rfl (hb hby d8_32) rfl (l' := #[.val (.ref ar), .val (.int (1 : Int32)), .val (.ref ds), .val (.int (0 : Int32)), .val (.int (2 : Int32)), .val (.int (0 : Int32)), .val (.int c0)]) rfl k) ?_
  show Run p e below s _ _ _ (T63.setTop (mkF m 35 #[.val (.ref ar), .val (.int (1 : Int32)), .val (.ref ds), .val (.int (0 : Int32)), .val (.int (2 : Int32)), .val (.int (0 : Int32)), .val (.int c0)] []))
  refine Run.pre (fun _ k => XS.iinc X63.here hx rfl (hb hby d8_35) rfl (l' := #[.val (.ref ar), .val (.int (1 : Int32)), .val (.ref ds), .val (.int (1 : Int32)), .val (.int (2 : Int32)), .val (.int (0 : Int32)), .val (.int c0)]) rfl k) ?_
  show Run p e below s _ _ _ (T63.setTop (mkF m 38 #[.val (.ref ar), .val (.int (1 : Int32)), .val (.ref ds), .val (.int (1 : Int32)), .val (.int (2 : Int32)), .val (.int (0 : Int32)), .val (.int c0)] []))
  refine Run.pre (fun _ k => XS.iinc X63.here hx rfl (hb hby d8_38) rfl (l' := #[.val (.ref ar), .val (.int (1 : Int32)), .val (.ref ds), .val (.int (1 : Int32)), .val (.int (2 : Int32)), .val (.int (1 : Int32)), .val (.int c0)]) rfl k) ?_
  show Run p e below s _ _ _ (T63.setTop (mkF m 41 #[.val (.ref ar), .val (.int (1 : Int32)), .val (.ref ds), .val (.int (1 : Int32)), .val (.int (2 : Int32)), .val (.int (1 : Int32)), .val (.int c0)] []))
  refine Run.pre (fun _ k => XS.goto X63.here hx rfl (pc0 := 41) (pc' := 3) rfl (hb hby d8_41) (by decide) (by decide) k) ?_
  show Run p e below s _ _ _ (T63.setTop (mkF m 3 #[.val (.ref ar), .val (.int (1 : Int32)), .val (.ref ds), .val (.int (1 : Int32)), .val (.int (2 : Int32)), .val (.int (1 : Int32)), .val (.int c0)] []))
  refine Run.pre (fun _ k => XS.iload X63.here hx rfl (hb hby d8_3) rfl  k) ?_
  show Run p e below s _ _ _ (T63.setTop (mkF m 5 #[.val (.ref ar), .val (.int (1 : Int32)), .val (.ref ds), .val (.int (1 : Int32)), .val (.int (2 : Int32)), .val (.int (1 : Int32)), .val (.int c0)] [(.int (1 : Int32))]))
  refine Run.pre (fun _ k => XS.iload X63.here hx rfl (hb hby d8_5) rfl  k) ?_
  show Run p e below s _ _ _ (T63.setTop (mkF m 7 #[.val (.ref ar), .val (.int (1 : Int32)), .val (.ref ds), .val (.int (1 : Int32)), .val (.int (2 : Int32)), .val (.int (1 : Int32)), .val (.int c0)] [(.int (2 : Int32)), (.int (1 : Int32))]))
  refine Run.pre (fun _ k => XS.icmpNo X63.here hx rfl (hb hby d8_7) rfl (tlt ((by decide) : (1 : Int32) < (2 : Int32))).2.1 k) ?_
  show Run p e below s _ _ _ (T63.setTop (mkF m 10 #[.val (.ref ar), .val (.int (1 : Int32)), .val (.ref ds), .val (.int (1 : Int32)), .val (.int (2 : Int32)), .val (.int (1 : Int32)), .val (.int c0)] []))
  refine Run.pre (fun _ k => XS.aloadN X63.here hx rfl (hb hby d8_10) rfl rfl k) ?_
  show Run p e below s _ _ _ (T63.setTop (mkF m 11 #[.val (.ref ar), .val (.int (1 : Int32)), .val (.ref ds), .val (.int (1 : Int32)), .val (.int (2 : Int32)), .val (.int (1 : Int32)), .val (.int c0)] [(.ref ar)]))
  refine Run.pre (fun _ k => XS.iloadN X63.here hx rfl (hb hby d8_11) rfl  k) ?_
  show Run p e below s _ _ _ (T63.setTop (mkF m 12 #[.val (.ref ar), .val (.int (1 : Int32)), .val (.ref ds), .val (.int (1 : Int32)), .val (.int (2 : Int32)), .val (.int (1 : Int32)), .val (.int c0)] [(.int (1 : Int32)), (.ref ar)]))
  have f64 := (AC.other W63 nad)
  obtain ⟨c65, Ar65, -, S65, N65, H65, -⟩ := id f64
  have hin65 : ¬ ((1 : Int32) < 0 ∨ c65.slots.size ≤ ((1 : Int32)).toNatClampNeg) := inb_of S65 ⟨by decide, by decide⟩
  refine Run.pre (X63.caload hx (j := (1 : Int32)) (v := (.int c1)) (by rw [e63]; exact Ar65.1) (State.isArrayOf_alike hZ.alike Ar65.2.1) Ar65.2.2 hin65 (H65.at hin65 rfl) (g := (mkF m 12 #[.val (.ref ar), .val (.int (1 : Int32)), .val (.ref ds), .val (.int (1 : Int32)), .val (.int (2 : Int32)), .val (.int (1 : Int32)), .val (.int c0)] [(.int (1 : Int32)), (.ref ar)])) rfl rfl (hb hby d8_12)) ?_
  show Run p e below s _ _ _ (T63.setTop (mkF m 13 #[.val (.ref ar), .val (.int (1 : Int32)), .val (.ref ds), .val (.int (1 : Int32)), .val (.int (2 : Int32)), .val (.int (1 : Int32)), .val (.int c0)] [(.int c1)]))
  refine Run.pre (fun _ k => XS.istore X63.here hx rfl (hb hby d8_13) rfl (l' := #[.val (.ref ar), .val (.int (1 : Int32)), .val (.ref ds), .val (.int (1 : Int32)), .val (.int (2 : Int32)), .val (.int (1 : Int32)), .val (.int c1)]) rfl k) ?_
  show Run p e below s _ _ _ (T63.setTop (mkF m 15 #[.val (.ref ar), .val (.int (1 : Int32)), .val (.ref ds), .val (.int (1 : Int32)), .val (.int (2 : Int32)), .val (.int (1 : Int32)), .val (.int c1)] []))
  refine Run.pre (fun _ k => XS.iload X63.here hx rfl (hb hby d8_15) rfl  k) ?_
  show Run p e below s _ _ _ (T63.setTop (mkF m 17 #[.val (.ref ar), .val (.int (1 : Int32)), .val (.ref ds), .val (.int (1 : Int32)), .val (.int (2 : Int32)), .val (.int (1 : Int32)), .val (.int c1)] [(.int c1)]))
  refine Run.pre (fun _ k => XS.sipush X63.here hx rfl (hb hby d8_17) k) ?_
  show Run p e below s _ _ _ (T63.setTop (mkF m 20 #[.val (.ref ar), .val (.int (1 : Int32)), .val (.ref ds), .val (.int (1 : Int32)), .val (.int (2 : Int32)), .val (.int (1 : Int32)), .val (.int c1)] [(.int (255 : Int32)), (.int c1)]))
  refine Run.pre (fun _ k => XS.icmpNo X63.here hx rfl (hb hby d8_20) rfl (tlt (q1 : (255 : Int32) < c1)).2.2.2 k) ?_
  show Run p e below s _ _ _ (T63.setTop (mkF m 23 #[.val (.ref ar), .val (.int (1 : Int32)), .val (.ref ds), .val (.int (1 : Int32)), .val (.int (2 : Int32)), .val (.int (1 : Int32)), .val (.int c1)] []))
  refine Run.pre (fun _ k => XS.iload X63.here hx rfl (hb hby d8_23) rfl  k) ?_
  show Run p e below s _ _ _ (T63.setTop (mkF m 25 #[.val (.ref ar), .val (.int (1 : Int32)), .val (.ref ds), .val (.int (1 : Int32)), .val (.int (2 : Int32)), .val (.int (1 : Int32)), .val (.int c1)] [(.int (1 : Int32))]))
  exact Run.retI hS (by first | exact Nat.le_refl _ | (rw [e63]; exact (Nat.le_trans (Nat.zero_le _) (Keep.of_wr W63).1))) X63 hx hret hlk (hb hby d8_25) (by first | (rw [e63]; exact ⟨rfl, N63, K63⟩) | exact ⟨rfl, N63, K63⟩) (by decide) (by decide)
set_option maxRecDepth 65536 in
set_option maxHeartbeats 40000000 in
theorem rmC2_2_2 (l : Launch) (Z : State) (a0 : Array Value) (hw : ∀ d ∈ tables_1, d.before a0 Z = true) (ar : Addr) (ds : Addr) (kc : ClassId) (kb : ClassId) (c0 : Int32) (c1 : Int32) (h0 : Heap) (n0 : Nat) (Z0 : n0 ≤ h0.size) (AC : Arv Z h0 ar kc .char 2 [(.int c0), (.int c1)] (.int 0)) (AB : Arv Z h0 ds kb .byte 2 [(.int (0 : Int32)), (.int (0 : Int32))] (.int 0)) (nad : ar ≠ ds) (g_ds : n0 ≤ ds) (q0 : ¬ (255 : Int32) < c0) (q1 : ¬ (255 : Int32) < c1) :
    Con l (⟨"java/lang/StringUTF16", "compress", "([CI[BII)I"⟩ : MethodName) jdk_52_method_21_code 7 (some .int) ({ frames := 0, cells := 0, slots := 0, locals := 0 } : Room) Z #[(.ref ar), (.int (0 : Int32)), (.ref ds), (.int (0 : Int32)), (.int (2 : Int32))] h0 (fun _ => True) (fun v h L vm => v = some (.int 2) ∧ Fr n0 L ∧ Keep h0 h [ds] ∧ Arv Z h ds kb .byte 2 [(.int (nar .byte (c0.toInt8.toInt32))), (.int (nar .byte (c1.toInt8.toInt32)))] (.int 0)) := by
  refine Con.mk (plainFor_of_name pn_8) (fun m => show entryFrame m #[(.ref ar), (.int (0 : Int32)), (.ref ds), (.int (0 : Int32)), (.int (2 : Int32))] 7 = mkF m 0 #[.val (.ref ar), .val (.int (0 : Int32)), .val (.ref ds), .val (.int (0 : Int32)), .val (.int (2 : Int32)), .unset, .unset] [] by first | (simp [entryFrame, mkF, argsToLocals, Value.category]; done) | rfl) ?_
  intro p e s m below meth c s₁ vm0 hx hby hml hown hnm hret hlk hZ X0 e0 hS hs0 hP0
  have N0 := Fr.nil n0
  show Run p e below s _ _ _ (s₁.setTop (mkF m 0 #[.val (.ref ar), .val (.int (0 : Int32)), .val (.ref ds), .val (.int (0 : Int32)), .val (.int (2 : Int32)), .unset, .unset] []))
  refine Run.pre (fun _ k => XS.iconst X0.here hx rfl (hb hby d8_0) k) ?_
  show Run p e below s _ _ _ (s₁.setTop (mkF m 1 #[.val (.ref ar), .val (.int (0 : Int32)), .val (.ref ds), .val (.int (0 : Int32)), .val (.int (2 : Int32)), .unset, .unset] [(.int (0 : Int32))]))
  refine Run.pre (fun _ k => XS.istore X0.here hx rfl (hb hby d8_1) rfl (l' := #[.val (.ref ar), .val (.int (0 : Int32)), .val (.ref ds), .val (.int (0 : Int32)), .val (.int (2 : Int32)), .val (.int (0 : Int32)), .unset]) rfl k) ?_
  show Run p e below s _ _ _ (s₁.setTop (mkF m 3 #[.val (.ref ar), .val (.int (0 : Int32)), .val (.ref ds), .val (.int (0 : Int32)), .val (.int (2 : Int32)), .val (.int (0 : Int32)), .unset] []))
  refine Run.pre (fun _ k => XS.iload X0.here hx rfl (hb hby d8_3) rfl  k) ?_
  show Run p e below s _ _ _ (s₁.setTop (mkF m 5 #[.val (.ref ar), .val (.int (0 : Int32)), .val (.ref ds), .val (.int (0 : Int32)), .val (.int (2 : Int32)), .val (.int (0 : Int32)), .unset] [(.int (0 : Int32))]))
  refine Run.pre (fun _ k => XS.iload X0.here hx rfl (hb hby d8_5) rfl  k) ?_
  show Run p e below s _ _ _ (s₁.setTop (mkF m 7 #[.val (.ref ar), .val (.int (0 : Int32)), .val (.ref ds), .val (.int (0 : Int32)), .val (.int (2 : Int32)), .val (.int (0 : Int32)), .unset] [(.int (2 : Int32)), (.int (0 : Int32))]))
  refine Run.pre (fun _ k => XS.icmpNo X0.here hx rfl (hb hby d8_7) rfl (tlt ((by decide) : (0 : Int32) < (2 : Int32))).2.1 k) ?_
  show Run p e below s _ _ _ (s₁.setTop (mkF m 10 #[.val (.ref ar), .val (.int (0 : Int32)), .val (.ref ds), .val (.int (0 : Int32)), .val (.int (2 : Int32)), .val (.int (0 : Int32)), .unset] []))
  refine Run.pre (fun _ k => XS.aloadN X0.here hx rfl (hb hby d8_10) rfl rfl k) ?_
  show Run p e below s _ _ _ (s₁.setTop (mkF m 11 #[.val (.ref ar), .val (.int (0 : Int32)), .val (.ref ds), .val (.int (0 : Int32)), .val (.int (2 : Int32)), .val (.int (0 : Int32)), .unset] [(.ref ar)]))
  refine Run.pre (fun _ k => XS.iloadN X0.here hx rfl (hb hby d8_11) rfl  k) ?_
  show Run p e below s _ _ _ (s₁.setTop (mkF m 12 #[.val (.ref ar), .val (.int (0 : Int32)), .val (.ref ds), .val (.int (0 : Int32)), .val (.int (2 : Int32)), .val (.int (0 : Int32)), .unset] [(.int (0 : Int32)), (.ref ar)]))
  obtain ⟨c66, Ar66, -, S66, N66, H66, -⟩ := id AC
  have hin66 : ¬ ((0 : Int32) < 0 ∨ c66.slots.size ≤ ((0 : Int32)).toNatClampNeg) := inb_of S66 ⟨by decide, by decide⟩
  refine Run.pre (X0.caload hx (j := (0 : Int32)) (v := (.int c0)) (by rw [e0]; exact Ar66.1) (State.isArrayOf_alike hZ.alike Ar66.2.1) Ar66.2.2 hin66 (H66.at hin66 rfl) (g := (mkF m 12 #[.val (.ref ar), .val (.int (0 : Int32)), .val (.ref ds), .val (.int (0 : Int32)), .val (.int (2 : Int32)), .val (.int (0 : Int32)), .unset] [(.int (0 : Int32)), (.ref ar)])) rfl rfl (hb hby d8_12)) ?_
  show Run p e below s _ _ _ (s₁.setTop (mkF m 13 #[.val (.ref ar), .val (.int (0 : Int32)), .val (.ref ds), .val (.int (0 : Int32)), .val (.int (2 : Int32)), .val (.int (0 : Int32)), .unset] [(.int c0)]))
  refine Run.pre (fun _ k => XS.istore X0.here hx rfl (hb hby d8_13) rfl (l' := #[.val (.ref ar), .val (.int (0 : Int32)), .val (.ref ds), .val (.int (0 : Int32)), .val (.int (2 : Int32)), .val (.int (0 : Int32)), .val (.int c0)]) rfl k) ?_
  show Run p e below s _ _ _ (s₁.setTop (mkF m 15 #[.val (.ref ar), .val (.int (0 : Int32)), .val (.ref ds), .val (.int (0 : Int32)), .val (.int (2 : Int32)), .val (.int (0 : Int32)), .val (.int c0)] []))
  refine Run.pre (fun _ k => XS.iload X0.here hx rfl (hb hby d8_15) rfl  k) ?_
  show Run p e below s _ _ _ (s₁.setTop (mkF m 17 #[.val (.ref ar), .val (.int (0 : Int32)), .val (.ref ds), .val (.int (0 : Int32)), .val (.int (2 : Int32)), .val (.int (0 : Int32)), .val (.int c0)] [(.int c0)]))
  refine Run.pre (fun _ k => XS.sipush X0.here hx rfl (hb hby d8_17) k) ?_
  show Run p e below s _ _ _ (s₁.setTop (mkF m 20 #[.val (.ref ar), .val (.int (0 : Int32)), .val (.ref ds), .val (.int (0 : Int32)), .val (.int (2 : Int32)), .val (.int (0 : Int32)), .val (.int c0)] [(.int (255 : Int32)), (.int c0)]))
  refine Run.pre (fun _ k => XS.icmpYes X0.here hx rfl (pc0 := 20) (pc' := 26) rfl (hb hby d8_20) rfl (flt (q0 : ¬ ((255 : Int32) < c0))).2.2.2 (by decide) (by decide) k) ?_
  show Run p e below s _ _ _ (s₁.setTop (mkF m 26 #[.val (.ref ar), .val (.int (0 : Int32)), .val (.ref ds), .val (.int (0 : Int32)), .val (.int (2 : Int32)), .val (.int (0 : Int32)), .val (.int c0)] []))
  refine Run.pre (fun _ k => XS.aloadN X0.here hx rfl (hb hby d8_26) rfl rfl k) ?_
  show Run p e below s _ _ _ (s₁.setTop (mkF m 27 #[.val (.ref ar), .val (.int (0 : Int32)), .val (.ref ds), .val (.int (0 : Int32)), .val (.int (2 : Int32)), .val (.int (0 : Int32)), .val (.int c0)] [(.ref ds)]))
  refine Run.pre (fun _ k => XS.iloadN X0.here hx rfl (hb hby d8_27) rfl  k) ?_
  show Run p e below s _ _ _ (s₁.setTop (mkF m 28 #[.val (.ref ar), .val (.int (0 : Int32)), .val (.ref ds), .val (.int (0 : Int32)), .val (.int (2 : Int32)), .val (.int (0 : Int32)), .val (.int c0)] [(.int (0 : Int32)), (.ref ds)]))
  refine Run.pre (fun _ k => XS.iload X0.here hx rfl (hb hby d8_28) rfl  k) ?_
  show Run p e below s _ _ _ (s₁.setTop (mkF m 30 #[.val (.ref ar), .val (.int (0 : Int32)), .val (.ref ds), .val (.int (0 : Int32)), .val (.int (2 : Int32)), .val (.int (0 : Int32)), .val (.int c0)] [(.int c0), (.int (0 : Int32)), (.ref ds)]))
  refine Run.pre (fun _ k => XS.i2b X0.here hx rfl (hb hby d8_30) rfl k) ?_
  show Run p e below s _ _ _ (s₁.setTop (mkF m 31 #[.val (.ref ar), .val (.int (0 : Int32)), .val (.ref ds), .val (.int (0 : Int32)), .val (.int (2 : Int32)), .val (.int (0 : Int32)), .val (.int c0)] [(.int (c0.toInt8.toInt32)), (.int (0 : Int32)), (.ref ds)]))
  obtain ⟨c67, Ar67, q67, S67, N67, H67, G67⟩ := id AB
  have hin67 : ¬ ((0 : Int32) < 0 ∨ c67.slots.size ≤ ((0 : Int32)).toNatClampNeg) := inb_of S67 ⟨by decide, by decide⟩
  obtain ⟨T68, h68, X68, e68, W68, st68⟩ := stB X0 hx hZ e0 Ar67 (j := (0 : Int32)) hin67 (g := (mkF m 31 #[.val (.ref ar), .val (.int (0 : Int32)), .val (.ref ds), .val (.int (0 : Int32)), .val (.int (2 : Int32)), .val (.int (0 : Int32)), .val (.int c0)] [(.int (c0.toInt8.toInt32)), (.int (0 : Int32)), (.ref ds)])) rfl rfl (hb hby d8_31)
  refine Run.pre st68 ?_
  have V_ds_68 : Arv Z h68 ds kb .byte (2 : Int32) [(.int (nar .byte (c0.toInt8.toInt32))), (.int (0 : Int32))] (.int (0 : Int32)) := Arv.set Ar67 q67 S67 N67 H67 G67 (fits_nar_byte _) W68 0 rfl (Nat.le_of_ble_eq_true rfl)
  have K68 : Keep h0 h68 [ds] := (Keep.refl h0 [ds]).wr W68 (Or.inl (by simp))
  have N68 := Fr.snoc X68 N0 g_ds
  show Run p e below s _ _ _ (T68.setTop (mkF m 32 #[.val (.ref ar), .val (.int (0 : Int32)), .val (.ref ds), .val (.int (0 : Int32)), .val (.int (2 : Int32)), .val (.int (0 : Int32)), .val (.int c0)] []))
  refine Run.pre (fun _ k => XS.iinc X68.here hx rfl (hb hby d8_32) rfl (l' := #[.val (.ref ar), .val (.int (1 : Int32)), .val (.ref ds), .val (.int (0 : Int32)), .val (.int (2 : Int32)), .val (.int (0 : Int32)), .val (.int c0)]) rfl k) ?_
  show Run p e below s _ _ _ (T68.setTop (mkF m 35 #[.val (.ref ar), .val (.int (1 : Int32)), .val (.ref ds), .val (.int (0 : Int32)), .val (.int (2 : Int32)), .val (.int (0 : Int32)), .val (.int c0)] []))
  refine Run.pre (fun _ k => XS.iinc X68.here hx rfl (hb hby d8_35) rfl (l' := #[.val (.ref ar), .val (.int (1 : Int32)), .val (.ref ds), .val (.int (1 : Int32)), .val (.int (2 : Int32)), .val (.int (0 : Int32)), .val (.int c0)]) rfl k) ?_
  show Run p e below s _ _ _ (T68.setTop (mkF m 38 #[.val (.ref ar), .val (.int (1 : Int32)), .val (.ref ds), .val (.int (1 : Int32)), .val (.int (2 : Int32)), .val (.int (0 : Int32)), .val (.int c0)] []))
  refine Run.pre (fun _ k => XS.iinc X68.here hx rfl (hb hby d8_38) rfl (l' := #[.val (.ref ar), .val (.int (1 : Int32)), .val (.ref ds), .val (.int (1 : Int32)), .val (.int (2 : Int32)), .val (.int (1 : Int32)), .val (.int c0)]) rfl k) ?_
  show Run p e below s _ _ _ (T68.setTop (mkF m 41 #[.val (.ref ar), .val (.int (1 : Int32)), .val (.ref ds), .val (.int (1 : Int32)), .val (.int (2 : Int32)), .val (.int (1 : Int32)), .val (.int c0)] []))
  refine Run.pre (fun _ k => XS.goto X68.here hx rfl (pc0 := 41) (pc' := 3) rfl (hb hby d8_41) (by decide) (by decide) k) ?_
  show Run p e below s _ _ _ (T68.setTop (mkF m 3 #[.val (.ref ar), .val (.int (1 : Int32)), .val (.ref ds), .val (.int (1 : Int32)), .val (.int (2 : Int32)), .val (.int (1 : Int32)), .val (.int c0)] []))
  refine Run.pre (fun _ k => XS.iload X68.here hx rfl (hb hby d8_3) rfl  k) ?_
  show Run p e below s _ _ _ (T68.setTop (mkF m 5 #[.val (.ref ar), .val (.int (1 : Int32)), .val (.ref ds), .val (.int (1 : Int32)), .val (.int (2 : Int32)), .val (.int (1 : Int32)), .val (.int c0)] [(.int (1 : Int32))]))
  refine Run.pre (fun _ k => XS.iload X68.here hx rfl (hb hby d8_5) rfl  k) ?_
  show Run p e below s _ _ _ (T68.setTop (mkF m 7 #[.val (.ref ar), .val (.int (1 : Int32)), .val (.ref ds), .val (.int (1 : Int32)), .val (.int (2 : Int32)), .val (.int (1 : Int32)), .val (.int c0)] [(.int (2 : Int32)), (.int (1 : Int32))]))
  refine Run.pre (fun _ k => XS.icmpNo X68.here hx rfl (hb hby d8_7) rfl (tlt ((by decide) : (1 : Int32) < (2 : Int32))).2.1 k) ?_
  show Run p e below s _ _ _ (T68.setTop (mkF m 10 #[.val (.ref ar), .val (.int (1 : Int32)), .val (.ref ds), .val (.int (1 : Int32)), .val (.int (2 : Int32)), .val (.int (1 : Int32)), .val (.int c0)] []))
  refine Run.pre (fun _ k => XS.aloadN X68.here hx rfl (hb hby d8_10) rfl rfl k) ?_
  show Run p e below s _ _ _ (T68.setTop (mkF m 11 #[.val (.ref ar), .val (.int (1 : Int32)), .val (.ref ds), .val (.int (1 : Int32)), .val (.int (2 : Int32)), .val (.int (1 : Int32)), .val (.int c0)] [(.ref ar)]))
  refine Run.pre (fun _ k => XS.iloadN X68.here hx rfl (hb hby d8_11) rfl  k) ?_
  show Run p e below s _ _ _ (T68.setTop (mkF m 12 #[.val (.ref ar), .val (.int (1 : Int32)), .val (.ref ds), .val (.int (1 : Int32)), .val (.int (2 : Int32)), .val (.int (1 : Int32)), .val (.int c0)] [(.int (1 : Int32)), (.ref ar)]))
  have f69 := (AC.other W68 nad)
  obtain ⟨c70, Ar70, -, S70, N70, H70, -⟩ := id f69
  have hin70 : ¬ ((1 : Int32) < 0 ∨ c70.slots.size ≤ ((1 : Int32)).toNatClampNeg) := inb_of S70 ⟨by decide, by decide⟩
  refine Run.pre (X68.caload hx (j := (1 : Int32)) (v := (.int c1)) (by rw [e68]; exact Ar70.1) (State.isArrayOf_alike hZ.alike Ar70.2.1) Ar70.2.2 hin70 (H70.at hin70 rfl) (g := (mkF m 12 #[.val (.ref ar), .val (.int (1 : Int32)), .val (.ref ds), .val (.int (1 : Int32)), .val (.int (2 : Int32)), .val (.int (1 : Int32)), .val (.int c0)] [(.int (1 : Int32)), (.ref ar)])) rfl rfl (hb hby d8_12)) ?_
  show Run p e below s _ _ _ (T68.setTop (mkF m 13 #[.val (.ref ar), .val (.int (1 : Int32)), .val (.ref ds), .val (.int (1 : Int32)), .val (.int (2 : Int32)), .val (.int (1 : Int32)), .val (.int c0)] [(.int c1)]))
  refine Run.pre (fun _ k => XS.istore X68.here hx rfl (hb hby d8_13) rfl (l' := #[.val (.ref ar), .val (.int (1 : Int32)), .val (.ref ds), .val (.int (1 : Int32)), .val (.int (2 : Int32)), .val (.int (1 : Int32)), .val (.int c1)]) rfl k) ?_
  show Run p e below s _ _ _ (T68.setTop (mkF m 15 #[.val (.ref ar), .val (.int (1 : Int32)), .val (.ref ds), .val (.int (1 : Int32)), .val (.int (2 : Int32)), .val (.int (1 : Int32)), .val (.int c1)] []))
  refine Run.pre (fun _ k => XS.iload X68.here hx rfl (hb hby d8_15) rfl  k) ?_
  show Run p e below s _ _ _ (T68.setTop (mkF m 17 #[.val (.ref ar), .val (.int (1 : Int32)), .val (.ref ds), .val (.int (1 : Int32)), .val (.int (2 : Int32)), .val (.int (1 : Int32)), .val (.int c1)] [(.int c1)]))
  refine Run.pre (fun _ k => XS.sipush X68.here hx rfl (hb hby d8_17) k) ?_
  show Run p e below s _ _ _ (T68.setTop (mkF m 20 #[.val (.ref ar), .val (.int (1 : Int32)), .val (.ref ds), .val (.int (1 : Int32)), .val (.int (2 : Int32)), .val (.int (1 : Int32)), .val (.int c1)] [(.int (255 : Int32)), (.int c1)]))
  refine Run.pre (fun _ k => XS.icmpYes X68.here hx rfl (pc0 := 20) (pc' := 26) rfl (hb hby d8_20) rfl (flt (q1 : ¬ ((255 : Int32) < c1))).2.2.2 (by decide) (by decide) k) ?_
  show Run p e below s _ _ _ (T68.setTop (mkF m 26 #[.val (.ref ar), .val (.int (1 : Int32)), .val (.ref ds), .val (.int (1 : Int32)), .val (.int (2 : Int32)), .val (.int (1 : Int32)), .val (.int c1)] []))
  refine Run.pre (fun _ k => XS.aloadN X68.here hx rfl (hb hby d8_26) rfl rfl k) ?_
  show Run p e below s _ _ _ (T68.setTop (mkF m 27 #[.val (.ref ar), .val (.int (1 : Int32)), .val (.ref ds), .val (.int (1 : Int32)), .val (.int (2 : Int32)), .val (.int (1 : Int32)), .val (.int c1)] [(.ref ds)]))
  refine Run.pre (fun _ k => XS.iloadN X68.here hx rfl (hb hby d8_27) rfl  k) ?_
  show Run p e below s _ _ _ (T68.setTop (mkF m 28 #[.val (.ref ar), .val (.int (1 : Int32)), .val (.ref ds), .val (.int (1 : Int32)), .val (.int (2 : Int32)), .val (.int (1 : Int32)), .val (.int c1)] [(.int (1 : Int32)), (.ref ds)]))
  refine Run.pre (fun _ k => XS.iload X68.here hx rfl (hb hby d8_28) rfl  k) ?_
  show Run p e below s _ _ _ (T68.setTop (mkF m 30 #[.val (.ref ar), .val (.int (1 : Int32)), .val (.ref ds), .val (.int (1 : Int32)), .val (.int (2 : Int32)), .val (.int (1 : Int32)), .val (.int c1)] [(.int c1), (.int (1 : Int32)), (.ref ds)]))
  refine Run.pre (fun _ k => XS.i2b X68.here hx rfl (hb hby d8_30) rfl k) ?_
  show Run p e below s _ _ _ (T68.setTop (mkF m 31 #[.val (.ref ar), .val (.int (1 : Int32)), .val (.ref ds), .val (.int (1 : Int32)), .val (.int (2 : Int32)), .val (.int (1 : Int32)), .val (.int c1)] [(.int (c1.toInt8.toInt32)), (.int (1 : Int32)), (.ref ds)]))
  obtain ⟨c71, Ar71, q71, S71, N71, H71, G71⟩ := id V_ds_68
  have hin71 : ¬ ((1 : Int32) < 0 ∨ c71.slots.size ≤ ((1 : Int32)).toNatClampNeg) := inb_of S71 ⟨by decide, by decide⟩
  obtain ⟨T72, h72, X72, e72, W72, st72⟩ := stB X68 hx hZ e68 Ar71 (j := (1 : Int32)) hin71 (g := (mkF m 31 #[.val (.ref ar), .val (.int (1 : Int32)), .val (.ref ds), .val (.int (1 : Int32)), .val (.int (2 : Int32)), .val (.int (1 : Int32)), .val (.int c1)] [(.int (c1.toInt8.toInt32)), (.int (1 : Int32)), (.ref ds)])) rfl rfl (hb hby d8_31)
  refine Run.pre st72 ?_
  have V_ds_72 : Arv Z h72 ds kb .byte (2 : Int32) [(.int (nar .byte (c0.toInt8.toInt32))), (.int (nar .byte (c1.toInt8.toInt32)))] (.int (0 : Int32)) := Arv.set Ar71 q71 S71 N71 H71 G71 (fits_nar_byte _) W72 1 rfl (Nat.le_of_ble_eq_true rfl)
  have K72 : Keep h0 h72 [ds] := K68.wr W72 (Or.inl (by simp))
  have N72 := Fr.snoc X72 N68 g_ds
  show Run p e below s _ _ _ (T72.setTop (mkF m 32 #[.val (.ref ar), .val (.int (1 : Int32)), .val (.ref ds), .val (.int (1 : Int32)), .val (.int (2 : Int32)), .val (.int (1 : Int32)), .val (.int c1)] []))
  refine Run.pre (fun _ k => XS.iinc X72.here hx rfl (hb hby d8_32) rfl (l' := #[.val (.ref ar), .val (.int (2 : Int32)), .val (.ref ds), .val (.int (1 : Int32)), .val (.int (2 : Int32)), .val (.int (1 : Int32)), .val (.int c1)]) rfl k) ?_
  show Run p e below s _ _ _ (T72.setTop (mkF m 35 #[.val (.ref ar), .val (.int (2 : Int32)), .val (.ref ds), .val (.int (1 : Int32)), .val (.int (2 : Int32)), .val (.int (1 : Int32)), .val (.int c1)] []))
  refine Run.pre (fun _ k => XS.iinc X72.here hx rfl (hb hby d8_35) rfl (l' := #[.val (.ref ar), .val (.int (2 : Int32)), .val (.ref ds), .val (.int (2 : Int32)), .val (.int (2 : Int32)), .val (.int (1 : Int32)), .val (.int c1)]) rfl k) ?_
  show Run p e below s _ _ _ (T72.setTop (mkF m 38 #[.val (.ref ar), .val (.int (2 : Int32)), .val (.ref ds), .val (.int (2 : Int32)), .val (.int (2 : Int32)), .val (.int (1 : Int32)), .val (.int c1)] []))
  refine Run.pre (fun _ k => XS.iinc X72.here hx rfl (hb hby d8_38) rfl (l' := #[.val (.ref ar), .val (.int (2 : Int32)), .val (.ref ds), .val (.int (2 : Int32)), .val (.int (2 : Int32)), .val (.int (2 : Int32)), .val (.int c1)]) rfl k) ?_
  show Run p e below s _ _ _ (T72.setTop (mkF m 41 #[.val (.ref ar), .val (.int (2 : Int32)), .val (.ref ds), .val (.int (2 : Int32)), .val (.int (2 : Int32)), .val (.int (2 : Int32)), .val (.int c1)] []))
  refine Run.pre (fun _ k => XS.goto X72.here hx rfl (pc0 := 41) (pc' := 3) rfl (hb hby d8_41) (by decide) (by decide) k) ?_
  show Run p e below s _ _ _ (T72.setTop (mkF m 3 #[.val (.ref ar), .val (.int (2 : Int32)), .val (.ref ds), .val (.int (2 : Int32)), .val (.int (2 : Int32)), .val (.int (2 : Int32)), .val (.int c1)] []))
  refine Run.pre (fun _ k => XS.iload X72.here hx rfl (hb hby d8_3) rfl  k) ?_
  show Run p e below s _ _ _ (T72.setTop (mkF m 5 #[.val (.ref ar), .val (.int (2 : Int32)), .val (.ref ds), .val (.int (2 : Int32)), .val (.int (2 : Int32)), .val (.int (2 : Int32)), .val (.int c1)] [(.int (2 : Int32))]))
  refine Run.pre (fun _ k => XS.iload X72.here hx rfl (hb hby d8_5) rfl  k) ?_
  show Run p e below s _ _ _ (T72.setTop (mkF m 7 #[.val (.ref ar), .val (.int (2 : Int32)), .val (.ref ds), .val (.int (2 : Int32)), .val (.int (2 : Int32)), .val (.int (2 : Int32)), .val (.int c1)] [(.int (2 : Int32)), (.int (2 : Int32))]))
  refine Run.pre (fun _ k => XS.icmpYes X72.here hx rfl (pc0 := 7) (pc' := 44) rfl (hb hby d8_7) rfl (flt ((by decide) : ¬ ((2 : Int32) < (2 : Int32)))).2.1 (by decide) (by decide) k) ?_
  show Run p e below s _ _ _ (T72.setTop (mkF m 44 #[.val (.ref ar), .val (.int (2 : Int32)), .val (.ref ds), .val (.int (2 : Int32)), .val (.int (2 : Int32)), .val (.int (2 : Int32)), .val (.int c1)] []))
  refine Run.pre (fun _ k => XS.iload X72.here hx rfl (hb hby d8_44) rfl  k) ?_
  show Run p e below s _ _ _ (T72.setTop (mkF m 46 #[.val (.ref ar), .val (.int (2 : Int32)), .val (.ref ds), .val (.int (2 : Int32)), .val (.int (2 : Int32)), .val (.int (2 : Int32)), .val (.int c1)] [(.int (2 : Int32))]))
  exact Run.retI hS (by first | exact Nat.le_refl _ | (rw [e72]; exact (Nat.le_trans (Nat.le_trans (Nat.zero_le _) (Keep.of_wr W68).1) (Keep.of_wr W72).1))) X72 hx hret hlk (hb hby d8_46) (by first | (rw [e72]; exact ⟨rfl, N72, K72, V_ds_72⟩) | exact ⟨rfl, N72, K72, V_ds_72⟩) (by decide) (by decide)
set_option maxRecDepth 65536 in
set_option maxHeartbeats 40000000 in
theorem rmNL_2 (l : Launch) (Z : State) (a0 : Array Value) (hw : ∀ d ∈ tables_1, d.before a0 Z = true)  (h0 : Heap) (n0 : Nat) (Z0 : n0 ≤ h0.size) :
    Con l (⟨"java/lang/StringUTF16", "newBytesLength", "(I)I"⟩ : MethodName) jdk_52_method_3_code 1 (some .int) ({ frames := 0, cells := 0, slots := 0, locals := 0 } : Room) Z #[(.int (2 : Int32))] h0 (fun _ => True) (fun v h L vm => v = some (.int 4) ∧ Fr n0 L ∧ h = h0) := by
  refine Con.mk (plainFor_of_name pn_11) (fun m => show entryFrame m #[(.int (2 : Int32))] 1 = mkF m 0 #[.val (.int (2 : Int32))] [] by first | (simp [entryFrame, mkF, argsToLocals, Value.category]; done) | rfl) ?_
  intro p e s m below meth c s₁ vm0 hx hby hml hown hnm hret hlk hZ X0 e0 hS hs0 hP0
  have N0 := Fr.nil n0
  show Run p e below s _ _ _ (s₁.setTop (mkF m 0 #[.val (.int (2 : Int32))] []))
  refine Run.pre (fun _ k => XS.iloadN X0.here hx rfl (hb hby d11_0) rfl  k) ?_
  show Run p e below s _ _ _ (s₁.setTop (mkF m 1 #[.val (.int (2 : Int32))] [(.int (2 : Int32))]))
  refine Run.pre (fun _ k => XS.ifYes X0.here hx rfl (pc0 := 1) (pc' := 12) rfl (hb hby d11_1) rfl ((if0 _ _).trans (flt ((by decide) : ¬ ((2 : Int32) < (0 : Int32)))).2.1) (by decide) (by decide) k) ?_
  show Run p e below s _ _ _ (s₁.setTop (mkF m 12 #[.val (.int (2 : Int32))] []))
  refine Run.pre (fun _ k => XS.iloadN X0.here hx rfl (hb hby d11_12) rfl  k) ?_
  show Run p e below s _ _ _ (s₁.setTop (mkF m 13 #[.val (.int (2 : Int32))] [(.int (2 : Int32))]))
  refine Run.pre (X0.ldcInt hx hown (mvT hZ (hw _ (List.mem_of_getElem? (i := 53) rfl))) (g := (mkF m 13 #[.val (.int (2 : Int32))] [(.int (2 : Int32))])) rfl (hb hby d11_13)) ?_
  show Run p e below s _ _ _ (s₁.setTop (mkF m 15 #[.val (.int (2 : Int32))] [(.int (1073741823 : Int32)), (.int (2 : Int32))]))
  refine Run.pre (fun _ k => XS.icmpYes X0.here hx rfl (pc0 := 15) (pc' := 55) rfl (hb hby d11_15) rfl (tlt ((by decide) : (2 : Int32) < (1073741823 : Int32))).1 (by decide) (by decide) k) ?_
  show Run p e below s _ _ _ (s₁.setTop (mkF m 55 #[.val (.int (2 : Int32))] []))
  refine Run.pre (fun _ k => XS.iloadN X0.here hx rfl (hb hby d11_55) rfl  k) ?_
  show Run p e below s _ _ _ (s₁.setTop (mkF m 56 #[.val (.int (2 : Int32))] [(.int (2 : Int32))]))
  refine Run.pre (fun _ k => XS.iconst X0.here hx rfl (hb hby d11_56) k) ?_
  show Run p e below s _ _ _ (s₁.setTop (mkF m 57 #[.val (.int (2 : Int32))] [(.int (1 : Int32)), (.int (2 : Int32))]))
  refine Run.pre (fun _ k => XS.ishl X0.here hx rfl (hb hby d11_57) rfl k) ?_
  show Run p e below s _ _ _ (s₁.setTop (mkF m 58 #[.val (.int (2 : Int32))] [(.int (4 : Int32))]))
  exact Run.retI hS (by first | exact Nat.le_refl _ | (rw [e0]; exact (Nat.zero_le _))) X0 hx hret hlk (hb hby d11_58) (by first | (rw [e0]; exact ⟨rfl, N0, rfl⟩) | exact ⟨rfl, N0, rfl⟩) (by decide) (by decide)
set_option maxRecDepth 65536 in
set_option maxHeartbeats 40000000 in
theorem rmNF_2 (l : Launch) (Z : State) (a0 : Array Value) (hw : ∀ d ∈ tables_1, d.before a0 Z = true)  (h0 : Heap) (n0 : Nat) (Z0 : n0 ≤ h0.size) :
    Con l (⟨"java/lang/StringUTF16", "newBytesFor", "(I)[B"⟩ : MethodName) jdk_52_method_2_code 1 (some (.array .byte)) ({ frames := 1, cells := 1, slots := 4, locals := 12 } : Room) Z #[(.int (2 : Int32))] h0 (fun _ => True) (fun v h L vm => ∃ b : Addr, ∃ k : ClassId, v = some (.ref b) ∧ Fr n0 L ∧ Keep h0 h [] ∧ h0.size ≤ b ∧ Arv Z h b k .byte 4 [(.int (0 : Int32)), (.int (0 : Int32)), (.int (0 : Int32)), (.int (0 : Int32))] (.int 0)) := by
  refine Con.mk (plainFor_of_name pn_10) (fun m => show entryFrame m #[(.int (2 : Int32))] 1 = mkF m 0 #[.val (.int (2 : Int32))] [] by first | (simp [entryFrame, mkF, argsToLocals, Value.category]; done) | rfl) ?_
  intro p e s m below meth c s₁ vm0 hx hby hml hown hnm hret hlk hZ X0 e0 hS hs0 hP0
  have N0 := Fr.nil n0
  show Run p e below s _ _ _ (s₁.setTop (mkF m 0 #[.val (.int (2 : Int32))] []))
  refine Run.pre (fun _ k => XS.iloadN X0.here hx rfl (hb hby d10_0) rfl  k) ?_
  show Run p e below s _ _ _ (s₁.setTop (mkF m 1 #[.val (.int (2 : Int32))] [(.int (2 : Int32))]))
  refine Run.callS hS (by first | exact Nat.le_refl _ | (rw [e0]; exact (Nat.zero_le _))) X0 hx hZ (y := (⟨"java/lang/StringUTF16", "newBytesLength", "(I)I"⟩ : MethodName)) hown (hw _ (List.mem_of_getElem? (i := 50) rfl)) (hw _ (List.mem_of_getElem? (i := 51) rfl)) (hw _ (List.mem_of_getElem? (i := 39) rfl)) (hw _ (List.mem_of_getElem? (i := 52) rfl)) (by decide) (W := 0) (rmNL_2 l Z a0 hw h0 n0 (Nat.le_trans Z0 (Keep.refl h0 []).1)) e0 (by decide) (by decide) (by decide) (by decide) (fun _ _ => trivial) (g := (mkF m 1 #[.val (.int (2 : Int32))] [(.int (2 : Int32))])) rfl (by rw [hml]; rfl) (argsL := [(.int (2 : Int32))]) (rest := []) (lenOf pd_0 rfl) rfl (by show 2 * 0 + _ ≤ _; exact Nat.le_of_eq rfl) (hb hby d10_1) ?_
  intro v73 T73 L73 X73 hS hZ hown hV73 hQ73
  obtain ⟨rfl, Nq73, he73⟩ := hQ73
  have N73 := Fr.app N0 Nq73
  have e73 : T73.heap = h0 := he73
  show Run p e below s _ _ _ (T73.setTop (mkF m 4 #[.val (.int (2 : Int32))] [(.int (4 : Int32))]))
  obtain ⟨T74, h74, k74, X74, e74, E74, A74, st74⟩ := newP X73 hx hZ (hw _ (List.mem_of_getElem? (i := 20) rfl)) e73 (g := (mkF m 4 #[.val (.int (2 : Int32))] [(.int (4 : Int32))])) rfl (hb hby d10_4) rfl (by decide) (cap := 4) (by decide) (by decide) (by decide) (by decide)
  obtain ⟨b74, g74⟩ : ∃ z, z = h0.size := ⟨_, rfl⟩
  rw [← g74] at A74 st74
  refine Run.pre st74 ?_
  have V_b74 : Arv Z h74 b74 k74 .byte (4 : Int32) [(.int (0 : Int32)), (.int (0 : Int32)), (.int (0 : Int32)), (.int (0 : Int32))] (.int (0 : Int32)) := (Arv.new A74 (by decide)).pad (pad_rep [] (.int (0 : Int32)) 4)
  have gn_b74 : n0 ≤ b74 := Nat.le_trans (Nat.le_trans Z0 (Keep.refl h0 []).1) (Nat.le_of_eq g74.symm)
  have sz_b74 : h0.size ≤ b74 := Nat.le_trans (Keep.refl h0 []).1 (Nat.le_of_eq g74.symm)
  have K74 : Keep h0 h74 [] := (Keep.refl h0 []).ext E74
  show Run p e below s _ _ _ (T74.setTop (mkF m 6 #[.val (.int (2 : Int32))] [(.ref b74)]))
  exact Run.retA hS (by first | exact Nat.le_refl _ | (rw [e74]; exact (Nat.le_trans (Nat.le_of_eq (congrArg Array.size e73)) E74.1))) X74 hx hret rfl rfl hlk (hb hby d10_6) (by first | (rw [e74]; exact ⟨b74, k74, rfl, N73, K74, sz_b74, V_b74⟩) | exact ⟨b74, k74, rfl, N73, K74, sz_b74, V_b74⟩) (by decide) (by decide)
set_option maxRecDepth 65536 in
set_option maxHeartbeats 40000000 in
theorem rmPC_2_0 (l : Launch) (Z : State) (a0 : Array Value) (hw : ∀ d ∈ tables_1, d.before a0 Z = true) (b : Addr) (kb : ClassId) (cj : Int32) (y0 : Int32) (y1 : Int32) (y2 : Int32) (y3 : Int32) (h0 : Heap) (n0 : Nat) (Z0 : n0 ≤ h0.size) (OL : Old Z n0 h0) (SA : Sta Z Z.heap "java/lang/StringUTF16" "$assertionsDisabled" "Z" (.int 1)) (SH : Sta Z Z.heap "java/lang/StringUTF16" "HI_BYTE_SHIFT" "I" (.int 0)) (SL : Sta Z Z.heap "java/lang/StringUTF16" "LO_BYTE_SHIFT" "I" (.int 8)) (AB : Arv Z h0 b kb .byte 4 [(.int y0), (.int y1), (.int y2), (.int y3)] (.int 0)) (g_b : n0 ≤ b) :
    Con l (⟨"java/lang/StringUTF16", "putChar", "([BII)V"⟩ : MethodName) jdk_52_method_4_code 3 none ({ frames := 0, cells := 0, slots := 0, locals := 0 } : Room) Z #[(.ref b), (.int (0 : Int32)), (.int cj)] h0 (fun _ => True) (fun v h L vm => v = none ∧ Fr n0 L ∧ Keep h0 h [b] ∧ Arv Z h b kb .byte 4 [(.int (own_b0 cj)), (.int (own_b1 cj)), (.int y2), (.int y3)] (.int 0)) := by
  refine Con.mk (plainFor_of_name pn_12) (fun m => show entryFrame m #[(.ref b), (.int (0 : Int32)), (.int cj)] 3 = mkF m 0 #[.val (.ref b), .val (.int (0 : Int32)), .val (.int cj)] [] by first | (simp [entryFrame, mkF, argsToLocals, Value.category]; done) | rfl) ?_
  intro p e s m below meth c s₁ vm0 hx hby hml hown hnm hret hlk hZ X0 e0 hS hs0 hP0
  have N0 := Fr.nil n0
  show Run p e below s _ _ _ (s₁.setTop (mkF m 0 #[.val (.ref b), .val (.int (0 : Int32)), .val (.int cj)] []))
  obtain ⟨T75, X75, e75, st75⟩ := getS2 X0 hx hZ hown (host := "") (Or.inl (hw _ (List.mem_of_getElem? (i := 57) rfl))) Via.refl e0 (SA.ext OL.2) (g := (mkF m 0 #[.val (.ref b), .val (.int (0 : Int32)), .val (.int cj)] [])) rfl (hb hby d12_0)
  refine Run.pre st75 ?_
  show Run p e below s _ _ _ (T75.setTop (mkF m 3 #[.val (.ref b), .val (.int (0 : Int32)), .val (.int cj)] [(.int (1 : Int32))]))
  refine Run.pre (fun _ k => XS.ifYes X75.here hx rfl (pc0 := 3) (pc' := 28) rfl (hb hby d12_3) rfl ((if0 _ _).trans (feq ((by decide) : ¬ ((1 : Int32) = (0 : Int32)))).2) (by decide) (by decide) k) ?_
  show Run p e below s _ _ _ (T75.setTop (mkF m 28 #[.val (.ref b), .val (.int (0 : Int32)), .val (.int cj)] []))
  refine Run.pre (fun _ k => XS.iloadN X75.here hx rfl (hb hby d12_28) rfl  k) ?_
  show Run p e below s _ _ _ (T75.setTop (mkF m 29 #[.val (.ref b), .val (.int (0 : Int32)), .val (.int cj)] [(.int (0 : Int32))]))
  refine Run.pre (fun _ k => XS.iconst X75.here hx rfl (hb hby d12_29) k) ?_
  show Run p e below s _ _ _ (T75.setTop (mkF m 30 #[.val (.ref b), .val (.int (0 : Int32)), .val (.int cj)] [(.int (1 : Int32)), (.int (0 : Int32))]))
  refine Run.pre (fun _ k => XS.ishl X75.here hx rfl (hb hby d12_30) rfl k) ?_
  show Run p e below s _ _ _ (T75.setTop (mkF m 31 #[.val (.ref b), .val (.int (0 : Int32)), .val (.int cj)] [(.int (0 : Int32))]))
  refine Run.pre (fun _ k => XS.istoreN X75.here hx rfl (hb hby d12_31) rfl (l' := #[.val (.ref b), .val (.int (0 : Int32)), .val (.int cj)]) rfl k) ?_
  show Run p e below s _ _ _ (T75.setTop (mkF m 32 #[.val (.ref b), .val (.int (0 : Int32)), .val (.int cj)] []))
  refine Run.pre (fun _ k => XS.aloadN X75.here hx rfl (hb hby d12_32) rfl rfl k) ?_
  show Run p e below s _ _ _ (T75.setTop (mkF m 33 #[.val (.ref b), .val (.int (0 : Int32)), .val (.int cj)] [(.ref b)]))
  refine Run.pre (fun _ k => XS.iloadN X75.here hx rfl (hb hby d12_33) rfl  k) ?_
  show Run p e below s _ _ _ (T75.setTop (mkF m 34 #[.val (.ref b), .val (.int (0 : Int32)), .val (.int cj)] [(.int (0 : Int32)), (.ref b)]))
  refine Run.pre (fun _ k => XS.iinc X75.here hx rfl (hb hby d12_34) rfl (l' := #[.val (.ref b), .val (.int (1 : Int32)), .val (.int cj)]) rfl k) ?_
  show Run p e below s _ _ _ (T75.setTop (mkF m 37 #[.val (.ref b), .val (.int (1 : Int32)), .val (.int cj)] [(.int (0 : Int32)), (.ref b)]))
  refine Run.pre (fun _ k => XS.iloadN X75.here hx rfl (hb hby d12_37) rfl  k) ?_
  show Run p e below s _ _ _ (T75.setTop (mkF m 38 #[.val (.ref b), .val (.int (1 : Int32)), .val (.int cj)] [(.int cj), (.int (0 : Int32)), (.ref b)]))
  obtain ⟨T76, X76, e76, st76⟩ := getS2 X75 hx hZ hown (host := "") (Or.inl (hw _ (List.mem_of_getElem? (i := 58) rfl))) Via.refl e75 (SH.ext OL.2) (g := (mkF m 38 #[.val (.ref b), .val (.int (1 : Int32)), .val (.int cj)] [(.int cj), (.int (0 : Int32)), (.ref b)])) rfl (hb hby d12_38)
  refine Run.pre st76 ?_
  show Run p e below s _ _ _ (T76.setTop (mkF m 41 #[.val (.ref b), .val (.int (1 : Int32)), .val (.int cj)] [(.int (0 : Int32)), (.int cj), (.int (0 : Int32)), (.ref b)]))
  refine Run.pre (fun _ k => XS.ishr X76.here hx rfl (hb hby d12_41) rfl k) ?_
  show Run p e below s _ _ _ (T76.setTop (mkF m 42 #[.val (.ref b), .val (.int (1 : Int32)), .val (.int cj)] [(.int (cj >>> ((0 : Int32) &&& 31))), (.int (0 : Int32)), (.ref b)]))
  refine Run.pre (fun _ k => XS.i2b X76.here hx rfl (hb hby d12_42) rfl k) ?_
  show Run p e below s _ _ _ (T76.setTop (mkF m 43 #[.val (.ref b), .val (.int (1 : Int32)), .val (.int cj)] [(.int ((cj >>> ((0 : Int32) &&& 31)).toInt8.toInt32)), (.int (0 : Int32)), (.ref b)]))
  obtain ⟨c77, Ar77, q77, S77, N77, H77, G77⟩ := id AB
  have hin77 : ¬ ((0 : Int32) < 0 ∨ c77.slots.size ≤ ((0 : Int32)).toNatClampNeg) := inb_of S77 ⟨by decide, by decide⟩
  obtain ⟨T78, h78, X78, e78, W78, st78⟩ := stB X76 hx hZ e76 Ar77 (j := (0 : Int32)) hin77 (g := (mkF m 43 #[.val (.ref b), .val (.int (1 : Int32)), .val (.int cj)] [(.int ((cj >>> ((0 : Int32) &&& 31)).toInt8.toInt32)), (.int (0 : Int32)), (.ref b)])) rfl rfl (hb hby d12_43)
  refine Run.pre st78 ?_
  have V_b_78 : Arv Z h78 b kb .byte (4 : Int32) [(.int (nar .byte ((cj >>> ((0 : Int32) &&& 31)).toInt8.toInt32))), (.int y1), (.int y2), (.int y3)] (.int (0 : Int32)) := Arv.set Ar77 q77 S77 N77 H77 G77 (fits_nar_byte _) W78 0 rfl (Nat.le_of_ble_eq_true rfl)
  have K78 : Keep h0 h78 [b] := (Keep.refl h0 [b]).wr W78 (Or.inl (by simp))
  have N78 := Fr.snoc X78 N0 g_b
  show Run p e below s _ _ _ (T78.setTop (mkF m 44 #[.val (.ref b), .val (.int (1 : Int32)), .val (.int cj)] []))
  refine Run.pre (fun _ k => XS.aloadN X78.here hx rfl (hb hby d12_44) rfl rfl k) ?_
  show Run p e below s _ _ _ (T78.setTop (mkF m 45 #[.val (.ref b), .val (.int (1 : Int32)), .val (.int cj)] [(.ref b)]))
  refine Run.pre (fun _ k => XS.iloadN X78.here hx rfl (hb hby d12_45) rfl  k) ?_
  show Run p e below s _ _ _ (T78.setTop (mkF m 46 #[.val (.ref b), .val (.int (1 : Int32)), .val (.int cj)] [(.int (1 : Int32)), (.ref b)]))
  refine Run.pre (fun _ k => XS.iloadN X78.here hx rfl (hb hby d12_46) rfl  k) ?_
  show Run p e below s _ _ _ (T78.setTop (mkF m 47 #[.val (.ref b), .val (.int (1 : Int32)), .val (.int cj)] [(.int cj), (.int (1 : Int32)), (.ref b)]))
  have f79 := (OL.wr W78 g_b)
  obtain ⟨T80, X80, e80, st80⟩ := getS2 X78 hx hZ hown (host := "") (Or.inl (hw _ (List.mem_of_getElem? (i := 59) rfl))) Via.refl e78 (SL.ext f79.2) (g := (mkF m 47 #[.val (.ref b), .val (.int (1 : Int32)), .val (.int cj)] [(.int cj), (.int (1 : Int32)), (.ref b)])) rfl (hb hby d12_47)
  refine Run.pre st80 ?_
  show Run p e below s _ _ _ (T80.setTop (mkF m 50 #[.val (.ref b), .val (.int (1 : Int32)), .val (.int cj)] [(.int (8 : Int32)), (.int cj), (.int (1 : Int32)), (.ref b)]))
  refine Run.pre (fun _ k => XS.ishr X80.here hx rfl (hb hby d12_50) rfl k) ?_
  show Run p e below s _ _ _ (T80.setTop (mkF m 51 #[.val (.ref b), .val (.int (1 : Int32)), .val (.int cj)] [(.int (cj >>> ((8 : Int32) &&& 31))), (.int (1 : Int32)), (.ref b)]))
  refine Run.pre (fun _ k => XS.i2b X80.here hx rfl (hb hby d12_51) rfl k) ?_
  show Run p e below s _ _ _ (T80.setTop (mkF m 52 #[.val (.ref b), .val (.int (1 : Int32)), .val (.int cj)] [(.int ((cj >>> ((8 : Int32) &&& 31)).toInt8.toInt32)), (.int (1 : Int32)), (.ref b)]))
  obtain ⟨c81, Ar81, q81, S81, N81, H81, G81⟩ := id V_b_78
  have hin81 : ¬ ((1 : Int32) < 0 ∨ c81.slots.size ≤ ((1 : Int32)).toNatClampNeg) := inb_of S81 ⟨by decide, by decide⟩
  obtain ⟨T82, h82, X82, e82, W82, st82⟩ := stB X80 hx hZ e80 Ar81 (j := (1 : Int32)) hin81 (g := (mkF m 52 #[.val (.ref b), .val (.int (1 : Int32)), .val (.int cj)] [(.int ((cj >>> ((8 : Int32) &&& 31)).toInt8.toInt32)), (.int (1 : Int32)), (.ref b)])) rfl rfl (hb hby d12_52)
  refine Run.pre st82 ?_
  have V_b_82 : Arv Z h82 b kb .byte (4 : Int32) [(.int (nar .byte ((cj >>> ((0 : Int32) &&& 31)).toInt8.toInt32))), (.int (nar .byte ((cj >>> ((8 : Int32) &&& 31)).toInt8.toInt32))), (.int y2), (.int y3)] (.int (0 : Int32)) := Arv.set Ar81 q81 S81 N81 H81 G81 (fits_nar_byte _) W82 1 rfl (Nat.le_of_ble_eq_true rfl)
  have K82 : Keep h0 h82 [b] := K78.wr W82 (Or.inl (by simp))
  have N82 := Fr.snoc X82 N78 g_b
  show Run p e below s _ _ _ (T82.setTop (mkF m 53 #[.val (.ref b), .val (.int (1 : Int32)), .val (.int cj)] []))
  exact Run.retV hS (by first | exact Nat.le_refl _ | (rw [e82]; exact (Nat.le_trans (Nat.le_trans (Nat.zero_le _) (Keep.of_wr W78).1) (Keep.of_wr W82).1))) X82 hx hret hlk (hb hby d12_53) (by first | (rw [e82]; exact ⟨rfl, N82, K82, V_b_82⟩) | exact ⟨rfl, N82, K82, V_b_82⟩) (by decide) (by decide)
set_option maxRecDepth 65536 in
set_option maxHeartbeats 40000000 in
theorem rmGC_2_0 (l : Launch) (Z : State) (a0 : Array Value) (hw : ∀ d ∈ tables_1, d.before a0 Z = true) (b : Addr) (kb : ClassId) (y0 : Int32) (y1 : Int32) (y2 : Int32) (y3 : Int32) (h0 : Heap) (n0 : Nat) (Z0 : n0 ≤ h0.size) (OL : Old Z n0 h0) (SA : Sta Z Z.heap "java/lang/StringUTF16" "$assertionsDisabled" "Z" (.int 1)) (SH : Sta Z Z.heap "java/lang/StringUTF16" "HI_BYTE_SHIFT" "I" (.int 0)) (SL : Sta Z Z.heap "java/lang/StringUTF16" "LO_BYTE_SHIFT" "I" (.int 8)) (AB : Arv Z h0 b kb .byte 4 [(.int y0), (.int y1), (.int y2), (.int y3)] (.int 0)) :
    Con l (⟨"java/lang/StringUTF16", "getChar", "([BI)C"⟩ : MethodName) jdk_52_method_5_code 2 (some .char) ({ frames := 0, cells := 0, slots := 0, locals := 0 } : Room) Z #[(.ref b), (.int (0 : Int32))] h0 (fun _ => True) (fun v h L vm => v = some (.int (own_gcv y0 y1)) ∧ Fr n0 L ∧ h = h0) := by
  refine Con.mk (plainFor_of_name pn_13) (fun m => show entryFrame m #[(.ref b), (.int (0 : Int32))] 2 = mkF m 0 #[.val (.ref b), .val (.int (0 : Int32))] [] by first | (simp [entryFrame, mkF, argsToLocals, Value.category]; done) | rfl) ?_
  intro p e s m below meth c s₁ vm0 hx hby hml hown hnm hret hlk hZ X0 e0 hS hs0 hP0
  have N0 := Fr.nil n0
  show Run p e below s _ _ _ (s₁.setTop (mkF m 0 #[.val (.ref b), .val (.int (0 : Int32))] []))
  obtain ⟨T83, X83, e83, st83⟩ := getS2 X0 hx hZ hown (host := "") (Or.inl (hw _ (List.mem_of_getElem? (i := 57) rfl))) Via.refl e0 (SA.ext OL.2) (g := (mkF m 0 #[.val (.ref b), .val (.int (0 : Int32))] [])) rfl (hb hby d13_0)
  refine Run.pre st83 ?_
  show Run p e below s _ _ _ (T83.setTop (mkF m 3 #[.val (.ref b), .val (.int (0 : Int32))] [(.int (1 : Int32))]))
  refine Run.pre (fun _ k => XS.ifYes X83.here hx rfl (pc0 := 3) (pc' := 28) rfl (hb hby d13_3) rfl ((if0 _ _).trans (feq ((by decide) : ¬ ((1 : Int32) = (0 : Int32)))).2) (by decide) (by decide) k) ?_
  show Run p e below s _ _ _ (T83.setTop (mkF m 28 #[.val (.ref b), .val (.int (0 : Int32))] []))
  refine Run.pre (fun _ k => XS.iloadN X83.here hx rfl (hb hby d13_28) rfl  k) ?_
  show Run p e below s _ _ _ (T83.setTop (mkF m 29 #[.val (.ref b), .val (.int (0 : Int32))] [(.int (0 : Int32))]))
  refine Run.pre (fun _ k => XS.iconst X83.here hx rfl (hb hby d13_29) k) ?_
  show Run p e below s _ _ _ (T83.setTop (mkF m 30 #[.val (.ref b), .val (.int (0 : Int32))] [(.int (1 : Int32)), (.int (0 : Int32))]))
  refine Run.pre (fun _ k => XS.ishl X83.here hx rfl (hb hby d13_30) rfl k) ?_
  show Run p e below s _ _ _ (T83.setTop (mkF m 31 #[.val (.ref b), .val (.int (0 : Int32))] [(.int (0 : Int32))]))
  refine Run.pre (fun _ k => XS.istoreN X83.here hx rfl (hb hby d13_31) rfl (l' := #[.val (.ref b), .val (.int (0 : Int32))]) rfl k) ?_
  show Run p e below s _ _ _ (T83.setTop (mkF m 32 #[.val (.ref b), .val (.int (0 : Int32))] []))
  refine Run.pre (fun _ k => XS.aloadN X83.here hx rfl (hb hby d13_32) rfl rfl k) ?_
  show Run p e below s _ _ _ (T83.setTop (mkF m 33 #[.val (.ref b), .val (.int (0 : Int32))] [(.ref b)]))
  refine Run.pre (fun _ k => XS.iloadN X83.here hx rfl (hb hby d13_33) rfl  k) ?_
  show Run p e below s _ _ _ (T83.setTop (mkF m 34 #[.val (.ref b), .val (.int (0 : Int32))] [(.int (0 : Int32)), (.ref b)]))
  refine Run.pre (fun _ k => XS.iinc X83.here hx rfl (hb hby d13_34) rfl (l' := #[.val (.ref b), .val (.int (1 : Int32))]) rfl k) ?_
  show Run p e below s _ _ _ (T83.setTop (mkF m 37 #[.val (.ref b), .val (.int (1 : Int32))] [(.int (0 : Int32)), (.ref b)]))
  obtain ⟨c84, Ar84, -, S84, N84, H84, -⟩ := id AB
  have hin84 : ¬ ((0 : Int32) < 0 ∨ c84.slots.size ≤ ((0 : Int32)).toNatClampNeg) := inb_of S84 ⟨by decide, by decide⟩
  refine Run.pre (X83.baloadBytes hx (j := (0 : Int32)) (v := (.int y0)) (by rw [e83]; exact Ar84.1) (State.isArrayOf_alike hZ.alike Ar84.2.1) Ar84.2.2 hin84 (H84.at hin84 rfl) (g := (mkF m 37 #[.val (.ref b), .val (.int (1 : Int32))] [(.int (0 : Int32)), (.ref b)])) rfl rfl (hb hby d13_37)) ?_
  show Run p e below s _ _ _ (T83.setTop (mkF m 38 #[.val (.ref b), .val (.int (1 : Int32))] [(.int y0)]))
  refine Run.pre (fun _ k => XS.sipush X83.here hx rfl (hb hby d13_38) k) ?_
  show Run p e below s _ _ _ (T83.setTop (mkF m 41 #[.val (.ref b), .val (.int (1 : Int32))] [(.int (255 : Int32)), (.int y0)]))
  refine Run.pre (fun _ k => XS.iand X83.here hx rfl (hb hby d13_41) rfl k) ?_
  show Run p e below s _ _ _ (T83.setTop (mkF m 42 #[.val (.ref b), .val (.int (1 : Int32))] [(.int (y0 &&& (255 : Int32)))]))
  obtain ⟨T85, X85, e85, st85⟩ := getS2 X83 hx hZ hown (host := "") (Or.inl (hw _ (List.mem_of_getElem? (i := 58) rfl))) Via.refl e83 (SH.ext OL.2) (g := (mkF m 42 #[.val (.ref b), .val (.int (1 : Int32))] [(.int (y0 &&& (255 : Int32)))])) rfl (hb hby d13_42)
  refine Run.pre st85 ?_
  show Run p e below s _ _ _ (T85.setTop (mkF m 45 #[.val (.ref b), .val (.int (1 : Int32))] [(.int (0 : Int32)), (.int (y0 &&& (255 : Int32)))]))
  refine Run.pre (fun _ k => XS.ishl X85.here hx rfl (hb hby d13_45) rfl k) ?_
  show Run p e below s _ _ _ (T85.setTop (mkF m 46 #[.val (.ref b), .val (.int (1 : Int32))] [(.int ((y0 &&& (255 : Int32)) <<< ((0 : Int32) &&& 31)))]))
  refine Run.pre (fun _ k => XS.aloadN X85.here hx rfl (hb hby d13_46) rfl rfl k) ?_
  show Run p e below s _ _ _ (T85.setTop (mkF m 47 #[.val (.ref b), .val (.int (1 : Int32))] [(.ref b), (.int ((y0 &&& (255 : Int32)) <<< ((0 : Int32) &&& 31)))]))
  refine Run.pre (fun _ k => XS.iloadN X85.here hx rfl (hb hby d13_47) rfl  k) ?_
  show Run p e below s _ _ _ (T85.setTop (mkF m 48 #[.val (.ref b), .val (.int (1 : Int32))] [(.int (1 : Int32)), (.ref b), (.int ((y0 &&& (255 : Int32)) <<< ((0 : Int32) &&& 31)))]))
  obtain ⟨c86, Ar86, -, S86, N86, H86, -⟩ := id AB
  have hin86 : ¬ ((1 : Int32) < 0 ∨ c86.slots.size ≤ ((1 : Int32)).toNatClampNeg) := inb_of S86 ⟨by decide, by decide⟩
  refine Run.pre (X85.baloadBytes hx (j := (1 : Int32)) (v := (.int y1)) (by rw [e85]; exact Ar86.1) (State.isArrayOf_alike hZ.alike Ar86.2.1) Ar86.2.2 hin86 (H86.at hin86 rfl) (g := (mkF m 48 #[.val (.ref b), .val (.int (1 : Int32))] [(.int (1 : Int32)), (.ref b), (.int ((y0 &&& (255 : Int32)) <<< ((0 : Int32) &&& 31)))])) rfl rfl (hb hby d13_48)) ?_
  show Run p e below s _ _ _ (T85.setTop (mkF m 49 #[.val (.ref b), .val (.int (1 : Int32))] [(.int y1), (.int ((y0 &&& (255 : Int32)) <<< ((0 : Int32) &&& 31)))]))
  refine Run.pre (fun _ k => XS.sipush X85.here hx rfl (hb hby d13_49) k) ?_
  show Run p e below s _ _ _ (T85.setTop (mkF m 52 #[.val (.ref b), .val (.int (1 : Int32))] [(.int (255 : Int32)), (.int y1), (.int ((y0 &&& (255 : Int32)) <<< ((0 : Int32) &&& 31)))]))
  refine Run.pre (fun _ k => XS.iand X85.here hx rfl (hb hby d13_52) rfl k) ?_
  show Run p e below s _ _ _ (T85.setTop (mkF m 53 #[.val (.ref b), .val (.int (1 : Int32))] [(.int (y1 &&& (255 : Int32))), (.int ((y0 &&& (255 : Int32)) <<< ((0 : Int32) &&& 31)))]))
  obtain ⟨T87, X87, e87, st87⟩ := getS2 X85 hx hZ hown (host := "") (Or.inl (hw _ (List.mem_of_getElem? (i := 59) rfl))) Via.refl e85 (SL.ext OL.2) (g := (mkF m 53 #[.val (.ref b), .val (.int (1 : Int32))] [(.int (y1 &&& (255 : Int32))), (.int ((y0 &&& (255 : Int32)) <<< ((0 : Int32) &&& 31)))])) rfl (hb hby d13_53)
  refine Run.pre st87 ?_
  show Run p e below s _ _ _ (T87.setTop (mkF m 56 #[.val (.ref b), .val (.int (1 : Int32))] [(.int (8 : Int32)), (.int (y1 &&& (255 : Int32))), (.int ((y0 &&& (255 : Int32)) <<< ((0 : Int32) &&& 31)))]))
  refine Run.pre (fun _ k => XS.ishl X87.here hx rfl (hb hby d13_56) rfl k) ?_
  show Run p e below s _ _ _ (T87.setTop (mkF m 57 #[.val (.ref b), .val (.int (1 : Int32))] [(.int ((y1 &&& (255 : Int32)) <<< ((8 : Int32) &&& 31))), (.int ((y0 &&& (255 : Int32)) <<< ((0 : Int32) &&& 31)))]))
  refine Run.pre (fun _ k => XS.ior X87.here hx rfl (hb hby d13_57) rfl k) ?_
  show Run p e below s _ _ _ (T87.setTop (mkF m 58 #[.val (.ref b), .val (.int (1 : Int32))] [(.int (((y0 &&& (255 : Int32)) <<< ((0 : Int32) &&& 31)) ||| ((y1 &&& (255 : Int32)) <<< ((8 : Int32) &&& 31))))]))
  refine Run.pre (fun _ k => XS.i2c X87.here hx rfl (hb hby d13_58) rfl k) ?_
  show Run p e below s _ _ _ (T87.setTop (mkF m 59 #[.val (.ref b), .val (.int (1 : Int32))] [(.int ((((y0 &&& (255 : Int32)) <<< ((0 : Int32) &&& 31)) ||| ((y1 &&& (255 : Int32)) <<< ((8 : Int32) &&& 31))).toUInt32.toUInt16.toUInt32.toInt32))]))
  exact Run.retN hS (by first | exact Nat.le_refl _ | (rw [e87]; exact (Nat.zero_le _))) X87 hx hret (t := .char) (by simp) hlk (hb hby d13_59) (by first | (rw [e87]; exact ⟨rfl, N0, rfl⟩) | exact ⟨rfl, N0, rfl⟩) (by decide) (by decide)
set_option maxRecDepth 65536 in
set_option maxHeartbeats 40000000 in
theorem rmPC_2_1 (l : Launch) (Z : State) (a0 : Array Value) (hw : ∀ d ∈ tables_1, d.before a0 Z = true) (b : Addr) (kb : ClassId) (cj : Int32) (y0 : Int32) (y1 : Int32) (y2 : Int32) (y3 : Int32) (h0 : Heap) (n0 : Nat) (Z0 : n0 ≤ h0.size) (OL : Old Z n0 h0) (SA : Sta Z Z.heap "java/lang/StringUTF16" "$assertionsDisabled" "Z" (.int 1)) (SH : Sta Z Z.heap "java/lang/StringUTF16" "HI_BYTE_SHIFT" "I" (.int 0)) (SL : Sta Z Z.heap "java/lang/StringUTF16" "LO_BYTE_SHIFT" "I" (.int 8)) (AB : Arv Z h0 b kb .byte 4 [(.int y0), (.int y1), (.int y2), (.int y3)] (.int 0)) (g_b : n0 ≤ b) :
    Con l (⟨"java/lang/StringUTF16", "putChar", "([BII)V"⟩ : MethodName) jdk_52_method_4_code 3 none ({ frames := 0, cells := 0, slots := 0, locals := 0 } : Room) Z #[(.ref b), (.int (1 : Int32)), (.int cj)] h0 (fun _ => True) (fun v h L vm => v = none ∧ Fr n0 L ∧ Keep h0 h [b] ∧ Arv Z h b kb .byte 4 [(.int y0), (.int y1), (.int (own_b0 cj)), (.int (own_b1 cj))] (.int 0)) := by
  refine Con.mk (plainFor_of_name pn_12) (fun m => show entryFrame m #[(.ref b), (.int (1 : Int32)), (.int cj)] 3 = mkF m 0 #[.val (.ref b), .val (.int (1 : Int32)), .val (.int cj)] [] by first | (simp [entryFrame, mkF, argsToLocals, Value.category]; done) | rfl) ?_
  intro p e s m below meth c s₁ vm0 hx hby hml hown hnm hret hlk hZ X0 e0 hS hs0 hP0
  have N0 := Fr.nil n0
  show Run p e below s _ _ _ (s₁.setTop (mkF m 0 #[.val (.ref b), .val (.int (1 : Int32)), .val (.int cj)] []))
  obtain ⟨T88, X88, e88, st88⟩ := getS2 X0 hx hZ hown (host := "") (Or.inl (hw _ (List.mem_of_getElem? (i := 57) rfl))) Via.refl e0 (SA.ext OL.2) (g := (mkF m 0 #[.val (.ref b), .val (.int (1 : Int32)), .val (.int cj)] [])) rfl (hb hby d12_0)
  refine Run.pre st88 ?_
  show Run p e below s _ _ _ (T88.setTop (mkF m 3 #[.val (.ref b), .val (.int (1 : Int32)), .val (.int cj)] [(.int (1 : Int32))]))
  refine Run.pre (fun _ k => XS.ifYes X88.here hx rfl (pc0 := 3) (pc' := 28) rfl (hb hby d12_3) rfl ((if0 _ _).trans (feq ((by decide) : ¬ ((1 : Int32) = (0 : Int32)))).2) (by decide) (by decide) k) ?_
  show Run p e below s _ _ _ (T88.setTop (mkF m 28 #[.val (.ref b), .val (.int (1 : Int32)), .val (.int cj)] []))
  refine Run.pre (fun _ k => XS.iloadN X88.here hx rfl (hb hby d12_28) rfl  k) ?_
  show Run p e below s _ _ _ (T88.setTop (mkF m 29 #[.val (.ref b), .val (.int (1 : Int32)), .val (.int cj)] [(.int (1 : Int32))]))
  refine Run.pre (fun _ k => XS.iconst X88.here hx rfl (hb hby d12_29) k) ?_
  show Run p e below s _ _ _ (T88.setTop (mkF m 30 #[.val (.ref b), .val (.int (1 : Int32)), .val (.int cj)] [(.int (1 : Int32)), (.int (1 : Int32))]))
  refine Run.pre (fun _ k => XS.ishl X88.here hx rfl (hb hby d12_30) rfl k) ?_
  show Run p e below s _ _ _ (T88.setTop (mkF m 31 #[.val (.ref b), .val (.int (1 : Int32)), .val (.int cj)] [(.int (2 : Int32))]))
  refine Run.pre (fun _ k => XS.istoreN X88.here hx rfl (hb hby d12_31) rfl (l' := #[.val (.ref b), .val (.int (2 : Int32)), .val (.int cj)]) rfl k) ?_
  show Run p e below s _ _ _ (T88.setTop (mkF m 32 #[.val (.ref b), .val (.int (2 : Int32)), .val (.int cj)] []))
  refine Run.pre (fun _ k => XS.aloadN X88.here hx rfl (hb hby d12_32) rfl rfl k) ?_
  show Run p e below s _ _ _ (T88.setTop (mkF m 33 #[.val (.ref b), .val (.int (2 : Int32)), .val (.int cj)] [(.ref b)]))
  refine Run.pre (fun _ k => XS.iloadN X88.here hx rfl (hb hby d12_33) rfl  k) ?_
  show Run p e below s _ _ _ (T88.setTop (mkF m 34 #[.val (.ref b), .val (.int (2 : Int32)), .val (.int cj)] [(.int (2 : Int32)), (.ref b)]))
  refine Run.pre (fun _ k => XS.iinc X88.here hx rfl (hb hby d12_34) rfl (l' := #[.val (.ref b), .val (.int (3 : Int32)), .val (.int cj)]) rfl k) ?_
  show Run p e below s _ _ _ (T88.setTop (mkF m 37 #[.val (.ref b), .val (.int (3 : Int32)), .val (.int cj)] [(.int (2 : Int32)), (.ref b)]))
  refine Run.pre (fun _ k => XS.iloadN X88.here hx rfl (hb hby d12_37) rfl  k) ?_
  show Run p e below s _ _ _ (T88.setTop (mkF m 38 #[.val (.ref b), .val (.int (3 : Int32)), .val (.int cj)] [(.int cj), (.int (2 : Int32)), (.ref b)]))
  obtain ⟨T89, X89, e89, st89⟩ := getS2 X88 hx hZ hown (host := "") (Or.inl (hw _ (List.mem_of_getElem? (i := 58) rfl))) Via.refl e88 (SH.ext OL.2) (g := (mkF m 38 #[.val (.ref b), .val (.int (3 : Int32)), .val (.int cj)] [(.int cj), (.int (2 : Int32)), (.ref b)])) rfl (hb hby d12_38)
  refine Run.pre st89 ?_
  show Run p e below s _ _ _ (T89.setTop (mkF m 41 #[.val (.ref b), .val (.int (3 : Int32)), .val (.int cj)] [(.int (0 : Int32)), (.int cj), (.int (2 : Int32)), (.ref b)]))
  refine Run.pre (fun _ k => XS.ishr X89.here hx rfl (hb hby d12_41) rfl k) ?_
  show Run p e below s _ _ _ (T89.setTop (mkF m 42 #[.val (.ref b), .val (.int (3 : Int32)), .val (.int cj)] [(.int (cj >>> ((0 : Int32) &&& 31))), (.int (2 : Int32)), (.ref b)]))
  refine Run.pre (fun _ k => XS.i2b X89.here hx rfl (hb hby d12_42) rfl k) ?_
  show Run p e below s _ _ _ (T89.setTop (mkF m 43 #[.val (.ref b), .val (.int (3 : Int32)), .val (.int cj)] [(.int ((cj >>> ((0 : Int32) &&& 31)).toInt8.toInt32)), (.int (2 : Int32)), (.ref b)]))
  obtain ⟨c90, Ar90, q90, S90, N90, H90, G90⟩ := id AB
  have hin90 : ¬ ((2 : Int32) < 0 ∨ c90.slots.size ≤ ((2 : Int32)).toNatClampNeg) := inb_of S90 ⟨by decide, by decide⟩
  obtain ⟨T91, h91, X91, e91, W91, st91⟩ := stB X89 hx hZ e89 Ar90 (j := (2 : Int32)) hin90 (g := (mkF m 43 #[.val (.ref b), .val (.int (3 : Int32)), .val (.int cj)] [(.int ((cj >>> ((0 : Int32) &&& 31)).toInt8.toInt32)), (.int (2 : Int32)), (.ref b)])) rfl rfl (hb hby d12_43)
  refine Run.pre st91 ?_
  have V_b_91 : Arv Z h91 b kb .byte (4 : Int32) [(.int y0), (.int y1), (.int (nar .byte ((cj >>> ((0 : Int32) &&& 31)).toInt8.toInt32))), (.int y3)] (.int (0 : Int32)) := Arv.set Ar90 q90 S90 N90 H90 G90 (fits_nar_byte _) W91 2 rfl (Nat.le_of_ble_eq_true rfl)
  have K91 : Keep h0 h91 [b] := (Keep.refl h0 [b]).wr W91 (Or.inl (by simp))
  have N91 := Fr.snoc X91 N0 g_b
  show Run p e below s _ _ _ (T91.setTop (mkF m 44 #[.val (.ref b), .val (.int (3 : Int32)), .val (.int cj)] []))
  refine Run.pre (fun _ k => XS.aloadN X91.here hx rfl (hb hby d12_44) rfl rfl k) ?_
  show Run p e below s _ _ _ (T91.setTop (mkF m 45 #[.val (.ref b), .val (.int (3 : Int32)), .val (.int cj)] [(.ref b)]))
  refine Run.pre (fun _ k => XS.iloadN X91.here hx rfl (hb hby d12_45) rfl  k) ?_
  show Run p e below s _ _ _ (T91.setTop (mkF m 46 #[.val (.ref b), .val (.int (3 : Int32)), .val (.int cj)] [(.int (3 : Int32)), (.ref b)]))
  refine Run.pre (fun _ k => XS.iloadN X91.here hx rfl (hb hby d12_46) rfl  k) ?_
  show Run p e below s _ _ _ (T91.setTop (mkF m 47 #[.val (.ref b), .val (.int (3 : Int32)), .val (.int cj)] [(.int cj), (.int (3 : Int32)), (.ref b)]))
  have f92 := (OL.wr W91 g_b)
  obtain ⟨T93, X93, e93, st93⟩ := getS2 X91 hx hZ hown (host := "") (Or.inl (hw _ (List.mem_of_getElem? (i := 59) rfl))) Via.refl e91 (SL.ext f92.2) (g := (mkF m 47 #[.val (.ref b), .val (.int (3 : Int32)), .val (.int cj)] [(.int cj), (.int (3 : Int32)), (.ref b)])) rfl (hb hby d12_47)
  refine Run.pre st93 ?_
  show Run p e below s _ _ _ (T93.setTop (mkF m 50 #[.val (.ref b), .val (.int (3 : Int32)), .val (.int cj)] [(.int (8 : Int32)), (.int cj), (.int (3 : Int32)), (.ref b)]))
  refine Run.pre (fun _ k => XS.ishr X93.here hx rfl (hb hby d12_50) rfl k) ?_
  show Run p e below s _ _ _ (T93.setTop (mkF m 51 #[.val (.ref b), .val (.int (3 : Int32)), .val (.int cj)] [(.int (cj >>> ((8 : Int32) &&& 31))), (.int (3 : Int32)), (.ref b)]))
  refine Run.pre (fun _ k => XS.i2b X93.here hx rfl (hb hby d12_51) rfl k) ?_
  show Run p e below s _ _ _ (T93.setTop (mkF m 52 #[.val (.ref b), .val (.int (3 : Int32)), .val (.int cj)] [(.int ((cj >>> ((8 : Int32) &&& 31)).toInt8.toInt32)), (.int (3 : Int32)), (.ref b)]))
  obtain ⟨c94, Ar94, q94, S94, N94, H94, G94⟩ := id V_b_91
  have hin94 : ¬ ((3 : Int32) < 0 ∨ c94.slots.size ≤ ((3 : Int32)).toNatClampNeg) := inb_of S94 ⟨by decide, by decide⟩
  obtain ⟨T95, h95, X95, e95, W95, st95⟩ := stB X93 hx hZ e93 Ar94 (j := (3 : Int32)) hin94 (g := (mkF m 52 #[.val (.ref b), .val (.int (3 : Int32)), .val (.int cj)] [(.int ((cj >>> ((8 : Int32) &&& 31)).toInt8.toInt32)), (.int (3 : Int32)), (.ref b)])) rfl rfl (hb hby d12_52)
  refine Run.pre st95 ?_
  have V_b_95 : Arv Z h95 b kb .byte (4 : Int32) [(.int y0), (.int y1), (.int (nar .byte ((cj >>> ((0 : Int32) &&& 31)).toInt8.toInt32))), (.int (nar .byte ((cj >>> ((8 : Int32) &&& 31)).toInt8.toInt32)))] (.int (0 : Int32)) := Arv.set Ar94 q94 S94 N94 H94 G94 (fits_nar_byte _) W95 3 rfl (Nat.le_of_ble_eq_true rfl)
  have K95 : Keep h0 h95 [b] := K91.wr W95 (Or.inl (by simp))
  have N95 := Fr.snoc X95 N91 g_b
  show Run p e below s _ _ _ (T95.setTop (mkF m 53 #[.val (.ref b), .val (.int (3 : Int32)), .val (.int cj)] []))
  exact Run.retV hS (by first | exact Nat.le_refl _ | (rw [e95]; exact (Nat.le_trans (Nat.le_trans (Nat.zero_le _) (Keep.of_wr W91).1) (Keep.of_wr W95).1))) X95 hx hret hlk (hb hby d12_53) (by first | (rw [e95]; exact ⟨rfl, N95, K95, V_b_95⟩) | exact ⟨rfl, N95, K95, V_b_95⟩) (by decide) (by decide)
set_option maxRecDepth 65536 in
set_option maxHeartbeats 40000000 in
theorem rmGC_2_1 (l : Launch) (Z : State) (a0 : Array Value) (hw : ∀ d ∈ tables_1, d.before a0 Z = true) (b : Addr) (kb : ClassId) (y0 : Int32) (y1 : Int32) (y2 : Int32) (y3 : Int32) (h0 : Heap) (n0 : Nat) (Z0 : n0 ≤ h0.size) (OL : Old Z n0 h0) (SA : Sta Z Z.heap "java/lang/StringUTF16" "$assertionsDisabled" "Z" (.int 1)) (SH : Sta Z Z.heap "java/lang/StringUTF16" "HI_BYTE_SHIFT" "I" (.int 0)) (SL : Sta Z Z.heap "java/lang/StringUTF16" "LO_BYTE_SHIFT" "I" (.int 8)) (AB : Arv Z h0 b kb .byte 4 [(.int y0), (.int y1), (.int y2), (.int y3)] (.int 0)) :
    Con l (⟨"java/lang/StringUTF16", "getChar", "([BI)C"⟩ : MethodName) jdk_52_method_5_code 2 (some .char) ({ frames := 0, cells := 0, slots := 0, locals := 0 } : Room) Z #[(.ref b), (.int (1 : Int32))] h0 (fun _ => True) (fun v h L vm => v = some (.int (own_gcv y2 y3)) ∧ Fr n0 L ∧ h = h0) := by
  refine Con.mk (plainFor_of_name pn_13) (fun m => show entryFrame m #[(.ref b), (.int (1 : Int32))] 2 = mkF m 0 #[.val (.ref b), .val (.int (1 : Int32))] [] by first | (simp [entryFrame, mkF, argsToLocals, Value.category]; done) | rfl) ?_
  intro p e s m below meth c s₁ vm0 hx hby hml hown hnm hret hlk hZ X0 e0 hS hs0 hP0
  have N0 := Fr.nil n0
  show Run p e below s _ _ _ (s₁.setTop (mkF m 0 #[.val (.ref b), .val (.int (1 : Int32))] []))
  obtain ⟨T96, X96, e96, st96⟩ := getS2 X0 hx hZ hown (host := "") (Or.inl (hw _ (List.mem_of_getElem? (i := 57) rfl))) Via.refl e0 (SA.ext OL.2) (g := (mkF m 0 #[.val (.ref b), .val (.int (1 : Int32))] [])) rfl (hb hby d13_0)
  refine Run.pre st96 ?_
  show Run p e below s _ _ _ (T96.setTop (mkF m 3 #[.val (.ref b), .val (.int (1 : Int32))] [(.int (1 : Int32))]))
  refine Run.pre (fun _ k => XS.ifYes X96.here hx rfl (pc0 := 3) (pc' := 28) rfl (hb hby d13_3) rfl ((if0 _ _).trans (feq ((by decide) : ¬ ((1 : Int32) = (0 : Int32)))).2) (by decide) (by decide) k) ?_
  show Run p e below s _ _ _ (T96.setTop (mkF m 28 #[.val (.ref b), .val (.int (1 : Int32))] []))
  refine Run.pre (fun _ k => XS.iloadN X96.here hx rfl (hb hby d13_28) rfl  k) ?_
  show Run p e below s _ _ _ (T96.setTop (mkF m 29 #[.val (.ref b), .val (.int (1 : Int32))] [(.int (1 : Int32))]))
  refine Run.pre (fun _ k => XS.iconst X96.here hx rfl (hb hby d13_29) k) ?_
  show Run p e below s _ _ _ (T96.setTop (mkF m 30 #[.val (.ref b), .val (.int (1 : Int32))] [(.int (1 : Int32)), (.int (1 : Int32))]))
  refine Run.pre (fun _ k => XS.ishl X96.here hx rfl (hb hby d13_30) rfl k) ?_
  show Run p e below s _ _ _ (T96.setTop (mkF m 31 #[.val (.ref b), .val (.int (1 : Int32))] [(.int (2 : Int32))]))
  refine Run.pre (fun _ k => XS.istoreN X96.here hx rfl (hb hby d13_31) rfl (l' := #[.val (.ref b), .val (.int (2 : Int32))]) rfl k) ?_
  show Run p e below s _ _ _ (T96.setTop (mkF m 32 #[.val (.ref b), .val (.int (2 : Int32))] []))
  refine Run.pre (fun _ k => XS.aloadN X96.here hx rfl (hb hby d13_32) rfl rfl k) ?_
  show Run p e below s _ _ _ (T96.setTop (mkF m 33 #[.val (.ref b), .val (.int (2 : Int32))] [(.ref b)]))
  refine Run.pre (fun _ k => XS.iloadN X96.here hx rfl (hb hby d13_33) rfl  k) ?_
  show Run p e below s _ _ _ (T96.setTop (mkF m 34 #[.val (.ref b), .val (.int (2 : Int32))] [(.int (2 : Int32)), (.ref b)]))
  refine Run.pre (fun _ k => XS.iinc X96.here hx rfl (hb hby d13_34) rfl (l' := #[.val (.ref b), .val (.int (3 : Int32))]) rfl k) ?_
  show Run p e below s _ _ _ (T96.setTop (mkF m 37 #[.val (.ref b), .val (.int (3 : Int32))] [(.int (2 : Int32)), (.ref b)]))
  obtain ⟨c97, Ar97, -, S97, N97, H97, -⟩ := id AB
  have hin97 : ¬ ((2 : Int32) < 0 ∨ c97.slots.size ≤ ((2 : Int32)).toNatClampNeg) := inb_of S97 ⟨by decide, by decide⟩
  refine Run.pre (X96.baloadBytes hx (j := (2 : Int32)) (v := (.int y2)) (by rw [e96]; exact Ar97.1) (State.isArrayOf_alike hZ.alike Ar97.2.1) Ar97.2.2 hin97 (H97.at hin97 rfl) (g := (mkF m 37 #[.val (.ref b), .val (.int (3 : Int32))] [(.int (2 : Int32)), (.ref b)])) rfl rfl (hb hby d13_37)) ?_
  show Run p e below s _ _ _ (T96.setTop (mkF m 38 #[.val (.ref b), .val (.int (3 : Int32))] [(.int y2)]))
  refine Run.pre (fun _ k => XS.sipush X96.here hx rfl (hb hby d13_38) k) ?_
  show Run p e below s _ _ _ (T96.setTop (mkF m 41 #[.val (.ref b), .val (.int (3 : Int32))] [(.int (255 : Int32)), (.int y2)]))
  refine Run.pre (fun _ k => XS.iand X96.here hx rfl (hb hby d13_41) rfl k) ?_
  show Run p e below s _ _ _ (T96.setTop (mkF m 42 #[.val (.ref b), .val (.int (3 : Int32))] [(.int (y2 &&& (255 : Int32)))]))
  obtain ⟨T98, X98, e98, st98⟩ := getS2 X96 hx hZ hown (host := "") (Or.inl (hw _ (List.mem_of_getElem? (i := 58) rfl))) Via.refl e96 (SH.ext OL.2) (g := (mkF m 42 #[.val (.ref b), .val (.int (3 : Int32))] [(.int (y2 &&& (255 : Int32)))])) rfl (hb hby d13_42)
  refine Run.pre st98 ?_
  show Run p e below s _ _ _ (T98.setTop (mkF m 45 #[.val (.ref b), .val (.int (3 : Int32))] [(.int (0 : Int32)), (.int (y2 &&& (255 : Int32)))]))
  refine Run.pre (fun _ k => XS.ishl X98.here hx rfl (hb hby d13_45) rfl k) ?_
  show Run p e below s _ _ _ (T98.setTop (mkF m 46 #[.val (.ref b), .val (.int (3 : Int32))] [(.int ((y2 &&& (255 : Int32)) <<< ((0 : Int32) &&& 31)))]))
  refine Run.pre (fun _ k => XS.aloadN X98.here hx rfl (hb hby d13_46) rfl rfl k) ?_
  show Run p e below s _ _ _ (T98.setTop (mkF m 47 #[.val (.ref b), .val (.int (3 : Int32))] [(.ref b), (.int ((y2 &&& (255 : Int32)) <<< ((0 : Int32) &&& 31)))]))
  refine Run.pre (fun _ k => XS.iloadN X98.here hx rfl (hb hby d13_47) rfl  k) ?_
  show Run p e below s _ _ _ (T98.setTop (mkF m 48 #[.val (.ref b), .val (.int (3 : Int32))] [(.int (3 : Int32)), (.ref b), (.int ((y2 &&& (255 : Int32)) <<< ((0 : Int32) &&& 31)))]))
  obtain ⟨c99, Ar99, -, S99, N99, H99, -⟩ := id AB
  have hin99 : ¬ ((3 : Int32) < 0 ∨ c99.slots.size ≤ ((3 : Int32)).toNatClampNeg) := inb_of S99 ⟨by decide, by decide⟩
  refine Run.pre (X98.baloadBytes hx (j := (3 : Int32)) (v := (.int y3)) (by rw [e98]; exact Ar99.1) (State.isArrayOf_alike hZ.alike Ar99.2.1) Ar99.2.2 hin99 (H99.at hin99 rfl) (g := (mkF m 48 #[.val (.ref b), .val (.int (3 : Int32))] [(.int (3 : Int32)), (.ref b), (.int ((y2 &&& (255 : Int32)) <<< ((0 : Int32) &&& 31)))])) rfl rfl (hb hby d13_48)) ?_
  show Run p e below s _ _ _ (T98.setTop (mkF m 49 #[.val (.ref b), .val (.int (3 : Int32))] [(.int y3), (.int ((y2 &&& (255 : Int32)) <<< ((0 : Int32) &&& 31)))]))
  refine Run.pre (fun _ k => XS.sipush X98.here hx rfl (hb hby d13_49) k) ?_
  show Run p e below s _ _ _ (T98.setTop (mkF m 52 #[.val (.ref b), .val (.int (3 : Int32))] [(.int (255 : Int32)), (.int y3), (.int ((y2 &&& (255 : Int32)) <<< ((0 : Int32) &&& 31)))]))
  refine Run.pre (fun _ k => XS.iand X98.here hx rfl (hb hby d13_52) rfl k) ?_
  show Run p e below s _ _ _ (T98.setTop (mkF m 53 #[.val (.ref b), .val (.int (3 : Int32))] [(.int (y3 &&& (255 : Int32))), (.int ((y2 &&& (255 : Int32)) <<< ((0 : Int32) &&& 31)))]))
  obtain ⟨T100, X100, e100, st100⟩ := getS2 X98 hx hZ hown (host := "") (Or.inl (hw _ (List.mem_of_getElem? (i := 59) rfl))) Via.refl e98 (SL.ext OL.2) (g := (mkF m 53 #[.val (.ref b), .val (.int (3 : Int32))] [(.int (y3 &&& (255 : Int32))), (.int ((y2 &&& (255 : Int32)) <<< ((0 : Int32) &&& 31)))])) rfl (hb hby d13_53)
  refine Run.pre st100 ?_
  show Run p e below s _ _ _ (T100.setTop (mkF m 56 #[.val (.ref b), .val (.int (3 : Int32))] [(.int (8 : Int32)), (.int (y3 &&& (255 : Int32))), (.int ((y2 &&& (255 : Int32)) <<< ((0 : Int32) &&& 31)))]))
  refine Run.pre (fun _ k => XS.ishl X100.here hx rfl (hb hby d13_56) rfl k) ?_
  show Run p e below s _ _ _ (T100.setTop (mkF m 57 #[.val (.ref b), .val (.int (3 : Int32))] [(.int ((y3 &&& (255 : Int32)) <<< ((8 : Int32) &&& 31))), (.int ((y2 &&& (255 : Int32)) <<< ((0 : Int32) &&& 31)))]))
  refine Run.pre (fun _ k => XS.ior X100.here hx rfl (hb hby d13_57) rfl k) ?_
  show Run p e below s _ _ _ (T100.setTop (mkF m 58 #[.val (.ref b), .val (.int (3 : Int32))] [(.int (((y2 &&& (255 : Int32)) <<< ((0 : Int32) &&& 31)) ||| ((y3 &&& (255 : Int32)) <<< ((8 : Int32) &&& 31))))]))
  refine Run.pre (fun _ k => XS.i2c X100.here hx rfl (hb hby d13_58) rfl k) ?_
  show Run p e below s _ _ _ (T100.setTop (mkF m 59 #[.val (.ref b), .val (.int (3 : Int32))] [(.int ((((y2 &&& (255 : Int32)) <<< ((0 : Int32) &&& 31)) ||| ((y3 &&& (255 : Int32)) <<< ((8 : Int32) &&& 31))).toUInt32.toUInt16.toUInt32.toInt32))]))
  exact Run.retN hS (by first | exact Nat.le_refl _ | (rw [e100]; exact (Nat.zero_le _))) X100 hx hret (t := .char) (by simp) hlk (hb hby d13_59) (by first | (rw [e100]; exact ⟨rfl, N0, rfl⟩) | exact ⟨rfl, N0, rfl⟩) (by decide) (by decide)
set_option maxRecDepth 65536 in
set_option maxHeartbeats 40000000 in
theorem rmTB_2 (l : Launch) (Z : State) (a0 : Array Value) (hw : ∀ d ∈ tables_1, d.before a0 Z = true) (ar : Addr) (kc : ClassId) (c0 : Int32) (c1 : Int32) (h0 : Heap) (n0 : Nat) (Z0 : n0 ≤ h0.size) (OL : Old Z n0 h0) (SA : Sta Z Z.heap "java/lang/StringUTF16" "$assertionsDisabled" "Z" (.int 1)) (SH : Sta Z Z.heap "java/lang/StringUTF16" "HI_BYTE_SHIFT" "I" (.int 0)) (SL : Sta Z Z.heap "java/lang/StringUTF16" "LO_BYTE_SHIFT" "I" (.int 8)) (AC : Arv Z h0 ar kc .char 2 [(.int c0), (.int c1)] (.int 0)) :
    Con l (⟨"java/lang/StringUTF16", "toBytes", "([CII)[B"⟩ : MethodName) jdk_52_method_14_code 5 (some (.array .byte)) ({ frames := 2, cells := 1, slots := 4, locals := 24 } : Room) Z #[(.ref ar), (.int (0 : Int32)), (.int (2 : Int32))] h0 (fun _ => True) (fun v h L vm => ∃ b : Addr, ∃ k : ClassId, v = some (.ref b) ∧ Fr n0 L ∧ Keep h0 h [] ∧ h0.size ≤ b ∧ Arv Z h b k .byte 4 [(.int (own_b0 c0)), (.int (own_b1 c0)), (.int (own_b0 c1)), (.int (own_b1 c1))] (.int 0)) := by
  refine Con.mk (plainFor_of_name pn_9) (fun m => show entryFrame m #[(.ref ar), (.int (0 : Int32)), (.int (2 : Int32))] 5 = mkF m 0 #[.val (.ref ar), .val (.int (0 : Int32)), .val (.int (2 : Int32)), .unset, .unset] [] by first | (simp [entryFrame, mkF, argsToLocals, Value.category]; done) | rfl) ?_
  intro p e s m below meth c s₁ vm0 hx hby hml hown hnm hret hlk hZ X0 e0 hS hs0 hP0
  have N0 := Fr.nil n0
  show Run p e below s _ _ _ (s₁.setTop (mkF m 0 #[.val (.ref ar), .val (.int (0 : Int32)), .val (.int (2 : Int32)), .unset, .unset] []))
  refine Run.pre (fun _ k => XS.iloadN X0.here hx rfl (hb hby d9_0) rfl  k) ?_
  show Run p e below s _ _ _ (s₁.setTop (mkF m 1 #[.val (.ref ar), .val (.int (0 : Int32)), .val (.int (2 : Int32)), .unset, .unset] [(.int (2 : Int32))]))
  refine Run.callS hS (by first | exact Nat.le_refl _ | (rw [e0]; exact (Nat.zero_le _))) X0 hx hZ (y := (⟨"java/lang/StringUTF16", "newBytesFor", "(I)[B"⟩ : MethodName)) hown (hw _ (List.mem_of_getElem? (i := 47) rfl)) (hw _ (List.mem_of_getElem? (i := 48) rfl)) (hw _ (List.mem_of_getElem? (i := 39) rfl)) (hw _ (List.mem_of_getElem? (i := 49) rfl)) (by decide) (W := 0) (rmNF_2 l Z a0 hw h0 n0 (Nat.le_trans Z0 (Keep.refl h0 []).1)) e0 (by decide) (by decide) (by decide) (by decide) (fun _ _ => trivial) (g := (mkF m 1 #[.val (.ref ar), .val (.int (0 : Int32)), .val (.int (2 : Int32)), .unset, .unset] [(.int (2 : Int32))])) rfl (by rw [hml]; rfl) (argsL := [(.int (2 : Int32))]) (rest := []) (lenOf pd_1 rfl) rfl (by show 2 * 0 + _ ≤ _; exact Nat.le_of_eq rfl) (hb hby d9_1) ?_
  intro v101 T101 L101 X101 hS hZ hown hV101 hQ101
  obtain ⟨b101, k101, rfl, Nq101, Kc101, sz101, vb101⟩ := hQ101
  have N101 := Fr.app N0 Nq101
  have K101 : Keep h0 T101.heap [] := (Keep.refl h0 []).trans Kc101 all0
  have sz_b101 : h0.size ≤ b101 := Nat.le_trans (Keep.refl h0 []).1 sz101
  have gn_b101 : n0 ≤ b101 := Nat.le_trans Z0 sz_b101
  show Run p e below s _ _ _ (T101.setTop (mkF m 4 #[.val (.ref ar), .val (.int (0 : Int32)), .val (.int (2 : Int32)), .unset, .unset] [(.ref b101)]))
  refine Run.pre (fun _ k => XS.astoreN X101.here hx rfl (hb hby d9_4) rfl rfl (l' := #[.val (.ref ar), .val (.int (0 : Int32)), .val (.int (2 : Int32)), .val (.ref b101), .unset]) rfl k) ?_
  show Run p e below s _ _ _ (T101.setTop (mkF m 5 #[.val (.ref ar), .val (.int (0 : Int32)), .val (.int (2 : Int32)), .val (.ref b101), .unset] []))
  refine Run.pre (fun _ k => XS.iconst X101.here hx rfl (hb hby d9_5) k) ?_
  show Run p e below s _ _ _ (T101.setTop (mkF m 6 #[.val (.ref ar), .val (.int (0 : Int32)), .val (.int (2 : Int32)), .val (.ref b101), .unset] [(.int (0 : Int32))]))
  refine Run.pre (fun _ k => XS.istore X101.here hx rfl (hb hby d9_6) rfl (l' := #[.val (.ref ar), .val (.int (0 : Int32)), .val (.int (2 : Int32)), .val (.ref b101), .val (.int (0 : Int32))]) rfl k) ?_
  show Run p e below s _ _ _ (T101.setTop (mkF m 8 #[.val (.ref ar), .val (.int (0 : Int32)), .val (.int (2 : Int32)), .val (.ref b101), .val (.int (0 : Int32))] []))
  refine Run.pre (fun _ k => XS.iload X101.here hx rfl (hb hby d9_8) rfl  k) ?_
  show Run p e below s _ _ _ (T101.setTop (mkF m 10 #[.val (.ref ar), .val (.int (0 : Int32)), .val (.int (2 : Int32)), .val (.ref b101), .val (.int (0 : Int32))] [(.int (0 : Int32))]))
  refine Run.pre (fun _ k => XS.iloadN X101.here hx rfl (hb hby d9_10) rfl  k) ?_
  show Run p e below s _ _ _ (T101.setTop (mkF m 11 #[.val (.ref ar), .val (.int (0 : Int32)), .val (.int (2 : Int32)), .val (.ref b101), .val (.int (0 : Int32))] [(.int (2 : Int32)), (.int (0 : Int32))]))
  refine Run.pre (fun _ k => XS.icmpNo X101.here hx rfl (hb hby d9_11) rfl (tlt ((by decide) : (0 : Int32) < (2 : Int32))).2.1 k) ?_
  show Run p e below s _ _ _ (T101.setTop (mkF m 14 #[.val (.ref ar), .val (.int (0 : Int32)), .val (.int (2 : Int32)), .val (.ref b101), .val (.int (0 : Int32))] []))
  refine Run.pre (fun _ k => XS.aloadN X101.here hx rfl (hb hby d9_14) rfl rfl k) ?_
  show Run p e below s _ _ _ (T101.setTop (mkF m 15 #[.val (.ref ar), .val (.int (0 : Int32)), .val (.int (2 : Int32)), .val (.ref b101), .val (.int (0 : Int32))] [(.ref b101)]))
  refine Run.pre (fun _ k => XS.iload X101.here hx rfl (hb hby d9_15) rfl  k) ?_
  show Run p e below s _ _ _ (T101.setTop (mkF m 17 #[.val (.ref ar), .val (.int (0 : Int32)), .val (.int (2 : Int32)), .val (.ref b101), .val (.int (0 : Int32))] [(.int (0 : Int32)), (.ref b101)]))
  refine Run.pre (fun _ k => XS.aloadN X101.here hx rfl (hb hby d9_17) rfl rfl k) ?_
  show Run p e below s _ _ _ (T101.setTop (mkF m 18 #[.val (.ref ar), .val (.int (0 : Int32)), .val (.int (2 : Int32)), .val (.ref b101), .val (.int (0 : Int32))] [(.ref ar), (.int (0 : Int32)), (.ref b101)]))
  refine Run.pre (fun _ k => XS.iloadN X101.here hx rfl (hb hby d9_18) rfl  k) ?_
  show Run p e below s _ _ _ (T101.setTop (mkF m 19 #[.val (.ref ar), .val (.int (0 : Int32)), .val (.int (2 : Int32)), .val (.ref b101), .val (.int (0 : Int32))] [(.int (0 : Int32)), (.ref ar), (.int (0 : Int32)), (.ref b101)]))
  have f102 := (AC.keep Kc101 nin0)
  obtain ⟨c103, Ar103, -, S103, N103, H103, -⟩ := id f102
  have hin103 : ¬ ((0 : Int32) < 0 ∨ c103.slots.size ≤ ((0 : Int32)).toNatClampNeg) := inb_of S103 ⟨by decide, by decide⟩
  refine Run.pre (X101.caload hx (j := (0 : Int32)) (v := (.int c0)) Ar103.1 (State.isArrayOf_alike hZ.alike Ar103.2.1) Ar103.2.2 hin103 (H103.at hin103 rfl) (g := (mkF m 19 #[.val (.ref ar), .val (.int (0 : Int32)), .val (.int (2 : Int32)), .val (.ref b101), .val (.int (0 : Int32))] [(.int (0 : Int32)), (.ref ar), (.int (0 : Int32)), (.ref b101)])) rfl rfl (hb hby d9_19)) ?_
  show Run p e below s _ _ _ (T101.setTop (mkF m 20 #[.val (.ref ar), .val (.int (0 : Int32)), .val (.int (2 : Int32)), .val (.ref b101), .val (.int (0 : Int32))] [(.int c0), (.int (0 : Int32)), (.ref b101)]))
  have f104 := (OL.keep Kc101 all0)
  refine Run.callS hS (Nat.le_refl _) X101 hx hZ (y := (⟨"java/lang/StringUTF16", "putChar", "([BII)V"⟩ : MethodName)) hown (hw _ (List.mem_of_getElem? (i := 54) rfl)) (hw _ (List.mem_of_getElem? (i := 55) rfl)) (hw _ (List.mem_of_getElem? (i := 39) rfl)) (hw _ (List.mem_of_getElem? (i := 56) rfl)) (by decide) (W := 0) (rmPC_2_0 l Z a0 hw b101 k101 c0 (0 : Int32) (0 : Int32) (0 : Int32) (0 : Int32) T101.heap n0 (Nat.le_trans Z0 K101.1) f104 SA SH SL vb101 gn_b101) rfl (by decide) (by decide) (by decide) (by decide) (fun _ _ => trivial) (g := (mkF m 20 #[.val (.ref ar), .val (.int (0 : Int32)), .val (.int (2 : Int32)), .val (.ref b101), .val (.int (0 : Int32))] [(.int c0), (.int (0 : Int32)), (.ref b101)])) rfl (by rw [hml]; rfl) (argsL := [(.ref b101), (.int (0 : Int32)), (.int c0)]) (rest := []) (lenOf pd_2 rfl) rfl (by show 2 * 0 + _ ≤ _; exact Nat.le_of_eq rfl) (hb hby d9_20) ?_
  intro v105 T105 L105 X105 hS hZ hown hV105 hQ105
  obtain ⟨rfl, Nq105, Kc105, vb105⟩ := hQ105
  have N105 := Fr.app N101 Nq105
  have K105 : Keep h0 T105.heap [] := K101.trans Kc105 (allS (Or.inr sz_b101) all0)
  show Run p e below s _ _ _ (T105.setTop (mkF m 23 #[.val (.ref ar), .val (.int (0 : Int32)), .val (.int (2 : Int32)), .val (.ref b101), .val (.int (0 : Int32))] []))
  refine Run.pre (fun _ k => XS.iinc X105.here hx rfl (hb hby d9_23) rfl (l' := #[.val (.ref ar), .val (.int (1 : Int32)), .val (.int (2 : Int32)), .val (.ref b101), .val (.int (0 : Int32))]) rfl k) ?_
  show Run p e below s _ _ _ (T105.setTop (mkF m 26 #[.val (.ref ar), .val (.int (1 : Int32)), .val (.int (2 : Int32)), .val (.ref b101), .val (.int (0 : Int32))] []))
  refine Run.pre (fun _ k => XS.iinc X105.here hx rfl (hb hby d9_26) rfl (l' := #[.val (.ref ar), .val (.int (1 : Int32)), .val (.int (2 : Int32)), .val (.ref b101), .val (.int (1 : Int32))]) rfl k) ?_
  show Run p e below s _ _ _ (T105.setTop (mkF m 29 #[.val (.ref ar), .val (.int (1 : Int32)), .val (.int (2 : Int32)), .val (.ref b101), .val (.int (1 : Int32))] []))
  refine Run.pre (fun _ k => XS.goto X105.here hx rfl (pc0 := 29) (pc' := 8) rfl (hb hby d9_29) (by decide) (by decide) k) ?_
  show Run p e below s _ _ _ (T105.setTop (mkF m 8 #[.val (.ref ar), .val (.int (1 : Int32)), .val (.int (2 : Int32)), .val (.ref b101), .val (.int (1 : Int32))] []))
  refine Run.pre (fun _ k => XS.iload X105.here hx rfl (hb hby d9_8) rfl  k) ?_
  show Run p e below s _ _ _ (T105.setTop (mkF m 10 #[.val (.ref ar), .val (.int (1 : Int32)), .val (.int (2 : Int32)), .val (.ref b101), .val (.int (1 : Int32))] [(.int (1 : Int32))]))
  refine Run.pre (fun _ k => XS.iloadN X105.here hx rfl (hb hby d9_10) rfl  k) ?_
  show Run p e below s _ _ _ (T105.setTop (mkF m 11 #[.val (.ref ar), .val (.int (1 : Int32)), .val (.int (2 : Int32)), .val (.ref b101), .val (.int (1 : Int32))] [(.int (2 : Int32)), (.int (1 : Int32))]))
  refine Run.pre (fun _ k => XS.icmpNo X105.here hx rfl (hb hby d9_11) rfl (tlt ((by decide) : (1 : Int32) < (2 : Int32))).2.1 k) ?_
  show Run p e below s _ _ _ (T105.setTop (mkF m 14 #[.val (.ref ar), .val (.int (1 : Int32)), .val (.int (2 : Int32)), .val (.ref b101), .val (.int (1 : Int32))] []))
  refine Run.pre (fun _ k => XS.aloadN X105.here hx rfl (hb hby d9_14) rfl rfl k) ?_
  show Run p e below s _ _ _ (T105.setTop (mkF m 15 #[.val (.ref ar), .val (.int (1 : Int32)), .val (.int (2 : Int32)), .val (.ref b101), .val (.int (1 : Int32))] [(.ref b101)]))
  refine Run.pre (fun _ k => XS.iload X105.here hx rfl (hb hby d9_15) rfl  k) ?_
  show Run p e below s _ _ _ (T105.setTop (mkF m 17 #[.val (.ref ar), .val (.int (1 : Int32)), .val (.int (2 : Int32)), .val (.ref b101), .val (.int (1 : Int32))] [(.int (1 : Int32)), (.ref b101)]))
  refine Run.pre (fun _ k => XS.aloadN X105.here hx rfl (hb hby d9_17) rfl rfl k) ?_
  show Run p e below s _ _ _ (T105.setTop (mkF m 18 #[.val (.ref ar), .val (.int (1 : Int32)), .val (.int (2 : Int32)), .val (.ref b101), .val (.int (1 : Int32))] [(.ref ar), (.int (1 : Int32)), (.ref b101)]))
  refine Run.pre (fun _ k => XS.iloadN X105.here hx rfl (hb hby d9_18) rfl  k) ?_
  show Run p e below s _ _ _ (T105.setTop (mkF m 19 #[.val (.ref ar), .val (.int (1 : Int32)), .val (.int (2 : Int32)), .val (.ref b101), .val (.int (1 : Int32))] [(.int (1 : Int32)), (.ref ar), (.int (1 : Int32)), (.ref b101)]))
  have f106 := (f102.keep Kc105 (ninS (Nat.ne_of_lt (Nat.lt_of_lt_of_le AC.lt sz101)) nin0))
  obtain ⟨c107, Ar107, -, S107, N107, H107, -⟩ := id f106
  have hin107 : ¬ ((1 : Int32) < 0 ∨ c107.slots.size ≤ ((1 : Int32)).toNatClampNeg) := inb_of S107 ⟨by decide, by decide⟩
  refine Run.pre (X105.caload hx (j := (1 : Int32)) (v := (.int c1)) Ar107.1 (State.isArrayOf_alike hZ.alike Ar107.2.1) Ar107.2.2 hin107 (H107.at hin107 rfl) (g := (mkF m 19 #[.val (.ref ar), .val (.int (1 : Int32)), .val (.int (2 : Int32)), .val (.ref b101), .val (.int (1 : Int32))] [(.int (1 : Int32)), (.ref ar), (.int (1 : Int32)), (.ref b101)])) rfl rfl (hb hby d9_19)) ?_
  show Run p e below s _ _ _ (T105.setTop (mkF m 20 #[.val (.ref ar), .val (.int (1 : Int32)), .val (.int (2 : Int32)), .val (.ref b101), .val (.int (1 : Int32))] [(.int c1), (.int (1 : Int32)), (.ref b101)]))
  have f108 := (f104.keep Kc105 (allS gn_b101 all0))
  refine Run.callS hS (Nat.le_refl _) X105 hx hZ (y := (⟨"java/lang/StringUTF16", "putChar", "([BII)V"⟩ : MethodName)) hown (hw _ (List.mem_of_getElem? (i := 54) rfl)) (hw _ (List.mem_of_getElem? (i := 55) rfl)) (hw _ (List.mem_of_getElem? (i := 39) rfl)) (hw _ (List.mem_of_getElem? (i := 56) rfl)) (by decide) (W := 0) (rmPC_2_1 l Z a0 hw b101 k101 c1 (own_b0 c0) (own_b1 c0) (0 : Int32) (0 : Int32) T105.heap n0 (Nat.le_trans Z0 K105.1) f108 SA SH SL vb105 gn_b101) rfl (by decide) (by decide) (by decide) (by decide) (fun _ _ => trivial) (g := (mkF m 20 #[.val (.ref ar), .val (.int (1 : Int32)), .val (.int (2 : Int32)), .val (.ref b101), .val (.int (1 : Int32))] [(.int c1), (.int (1 : Int32)), (.ref b101)])) rfl (by rw [hml]; rfl) (argsL := [(.ref b101), (.int (1 : Int32)), (.int c1)]) (rest := []) (lenOf pd_2 rfl) rfl (by show 2 * 0 + _ ≤ _; exact Nat.le_of_eq rfl) (hb hby d9_20) ?_
  intro v109 T109 L109 X109 hS hZ hown hV109 hQ109
  obtain ⟨rfl, Nq109, Kc109, vb109⟩ := hQ109
  have N109 := Fr.app N105 Nq109
  have K109 : Keep h0 T109.heap [] := K105.trans Kc109 (allS (Or.inr sz_b101) all0)
  show Run p e below s _ _ _ (T109.setTop (mkF m 23 #[.val (.ref ar), .val (.int (1 : Int32)), .val (.int (2 : Int32)), .val (.ref b101), .val (.int (1 : Int32))] []))
  refine Run.pre (fun _ k => XS.iinc X109.here hx rfl (hb hby d9_23) rfl (l' := #[.val (.ref ar), .val (.int (2 : Int32)), .val (.int (2 : Int32)), .val (.ref b101), .val (.int (1 : Int32))]) rfl k) ?_
  show Run p e below s _ _ _ (T109.setTop (mkF m 26 #[.val (.ref ar), .val (.int (2 : Int32)), .val (.int (2 : Int32)), .val (.ref b101), .val (.int (1 : Int32))] []))
  refine Run.pre (fun _ k => XS.iinc X109.here hx rfl (hb hby d9_26) rfl (l' := #[.val (.ref ar), .val (.int (2 : Int32)), .val (.int (2 : Int32)), .val (.ref b101), .val (.int (2 : Int32))]) rfl k) ?_
  show Run p e below s _ _ _ (T109.setTop (mkF m 29 #[.val (.ref ar), .val (.int (2 : Int32)), .val (.int (2 : Int32)), .val (.ref b101), .val (.int (2 : Int32))] []))
  refine Run.pre (fun _ k => XS.goto X109.here hx rfl (pc0 := 29) (pc' := 8) rfl (hb hby d9_29) (by decide) (by decide) k) ?_
  show Run p e below s _ _ _ (T109.setTop (mkF m 8 #[.val (.ref ar), .val (.int (2 : Int32)), .val (.int (2 : Int32)), .val (.ref b101), .val (.int (2 : Int32))] []))
  refine Run.pre (fun _ k => XS.iload X109.here hx rfl (hb hby d9_8) rfl  k) ?_
  show Run p e below s _ _ _ (T109.setTop (mkF m 10 #[.val (.ref ar), .val (.int (2 : Int32)), .val (.int (2 : Int32)), .val (.ref b101), .val (.int (2 : Int32))] [(.int (2 : Int32))]))
  refine Run.pre (fun _ k => XS.iloadN X109.here hx rfl (hb hby d9_10) rfl  k) ?_
  show Run p e below s _ _ _ (T109.setTop (mkF m 11 #[.val (.ref ar), .val (.int (2 : Int32)), .val (.int (2 : Int32)), .val (.ref b101), .val (.int (2 : Int32))] [(.int (2 : Int32)), (.int (2 : Int32))]))
  refine Run.pre (fun _ k => XS.icmpYes X109.here hx rfl (pc0 := 11) (pc' := 32) rfl (hb hby d9_11) rfl (flt ((by decide) : ¬ ((2 : Int32) < (2 : Int32)))).2.1 (by decide) (by decide) k) ?_
  show Run p e below s _ _ _ (T109.setTop (mkF m 32 #[.val (.ref ar), .val (.int (2 : Int32)), .val (.int (2 : Int32)), .val (.ref b101), .val (.int (2 : Int32))] []))
  refine Run.pre (fun _ k => XS.aloadN X109.here hx rfl (hb hby d9_32) rfl rfl k) ?_
  show Run p e below s _ _ _ (T109.setTop (mkF m 33 #[.val (.ref ar), .val (.int (2 : Int32)), .val (.int (2 : Int32)), .val (.ref b101), .val (.int (2 : Int32))] [(.ref b101)]))
  exact Run.retA hS (Nat.le_refl _) X109 hx hret rfl rfl hlk (hb hby d9_33) ⟨b101, k101, rfl, N109, K109, sz_b101, vb109⟩ (by decide) (by decide)
set_option maxRecDepth 65536 in
set_option maxHeartbeats 40000000 in
theorem rmC1_2 (l : Launch) (Z : State) (a0 : Array Value) (hw : ∀ d ∈ tables_1, d.before a0 Z = true) (ar : Addr) (kc : ClassId) (c0 : Int32) (c1 : Int32) (h0 : Heap) (n0 : Nat) (Z0 : n0 ≤ h0.size) (OL : Old Z n0 h0) (SA : Sta Z Z.heap "java/lang/StringUTF16" "$assertionsDisabled" "Z" (.int 1)) (SH : Sta Z Z.heap "java/lang/StringUTF16" "HI_BYTE_SHIFT" "I" (.int 0)) (SL : Sta Z Z.heap "java/lang/StringUTF16" "LO_BYTE_SHIFT" "I" (.int 8)) (AC : Arv Z h0 ar kc .char 2 [(.int c0), (.int c1)] (.int 0)) (w0 : nar .char c0 = c0) (w1 : nar .char c1 = c1) :
    Con l (⟨"java/lang/StringUTF16", "compress", "([CII)[B"⟩ : MethodName) jdk_52_method_16_code 6 (some (.array .byte)) ({ frames := 3, cells := 2, slots := 6, locals := 40 } : Room) Z #[(.ref ar), (.int (0 : Int32)), (.int (2 : Int32))] h0 (fun _ => True) (fun v h L vm => ∃ b : Addr, ∃ k : ClassId, v = some (.ref b) ∧ Fr n0 L ∧ Keep h0 h [] ∧ h0.size ≤ b ∧ ((¬ (255 : Int32) < c0 ∧ ¬ (255 : Int32) < c1) ∧ Arv Z h b k .byte 2 [(.int (nar .byte (c0.toInt8.toInt32))), (.int (nar .byte (c1.toInt8.toInt32)))] (.int 0) ∨ (¬ (¬ (255 : Int32) < c0 ∧ ¬ (255 : Int32) < c1)) ∧ Arv Z h b k .byte 4 [(.int (own_b0 c0)), (.int (own_b1 c0)), (.int (own_b0 c1)), (.int (own_b1 c1))] (.int 0))) := by
  refine Con.mk (plainFor_of_name pn_7) (fun m => show entryFrame m #[(.ref ar), (.int (0 : Int32)), (.int (2 : Int32))] 6 = mkF m 0 #[.val (.ref ar), .val (.int (0 : Int32)), .val (.int (2 : Int32)), .unset, .unset, .unset] [] by first | (simp [entryFrame, mkF, argsToLocals, Value.category]; done) | rfl) ?_
  intro p e s m below meth c s₁ vm0 hx hby hml hown hnm hret hlk hZ X0 e0 hS hs0 hP0
  have N0 := Fr.nil n0
  show Run p e below s _ _ _ (s₁.setTop (mkF m 0 #[.val (.ref ar), .val (.int (0 : Int32)), .val (.int (2 : Int32)), .unset, .unset, .unset] []))
  refine Run.pre (fun _ k => XS.iloadN X0.here hx rfl (hb hby d7_0) rfl  k) ?_
  show Run p e below s _ _ _ (s₁.setTop (mkF m 1 #[.val (.ref ar), .val (.int (0 : Int32)), .val (.int (2 : Int32)), .unset, .unset, .unset] [(.int (2 : Int32))]))
  obtain ⟨T110, h110, k110, X110, e110, E110, A110, st110⟩ := newP X0 hx hZ (hw _ (List.mem_of_getElem? (i := 20) rfl)) e0 (g := (mkF m 1 #[.val (.ref ar), .val (.int (0 : Int32)), .val (.int (2 : Int32)), .unset, .unset, .unset] [(.int (2 : Int32))])) rfl (hb hby d7_1) rfl (by decide) (cap := 2) (by decide) (by decide) (by decide) (by decide)
  obtain ⟨b110, g110⟩ : ∃ z, z = h0.size := ⟨_, rfl⟩
  rw [← g110] at A110 st110
  refine Run.pre st110 ?_
  have V_b110 : Arv Z h110 b110 k110 .byte (2 : Int32) [(.int (0 : Int32)), (.int (0 : Int32))] (.int (0 : Int32)) := (Arv.new A110 (by decide)).pad (pad_rep [] (.int (0 : Int32)) 2)
  have gn_b110 : n0 ≤ b110 := Nat.le_trans (Nat.le_trans Z0 (Keep.refl h0 []).1) (Nat.le_of_eq g110.symm)
  have sz_b110 : h0.size ≤ b110 := Nat.le_trans (Keep.refl h0 []).1 (Nat.le_of_eq g110.symm)
  have K110 : Keep h0 h110 [] := (Keep.refl h0 []).ext E110
  show Run p e below s _ _ _ (T110.setTop (mkF m 3 #[.val (.ref ar), .val (.int (0 : Int32)), .val (.int (2 : Int32)), .unset, .unset, .unset] [(.ref b110)]))
  refine Run.pre (fun _ k => XS.astoreN X110.here hx rfl (hb hby d7_3) rfl rfl (l' := #[.val (.ref ar), .val (.int (0 : Int32)), .val (.int (2 : Int32)), .val (.ref b110), .unset, .unset]) rfl k) ?_
  show Run p e below s _ _ _ (T110.setTop (mkF m 4 #[.val (.ref ar), .val (.int (0 : Int32)), .val (.int (2 : Int32)), .val (.ref b110), .unset, .unset] []))
  refine Run.pre (fun _ k => XS.aloadN X110.here hx rfl (hb hby d7_4) rfl rfl k) ?_
  show Run p e below s _ _ _ (T110.setTop (mkF m 5 #[.val (.ref ar), .val (.int (0 : Int32)), .val (.int (2 : Int32)), .val (.ref b110), .unset, .unset] [(.ref ar)]))
  refine Run.pre (fun _ k => XS.iloadN X110.here hx rfl (hb hby d7_5) rfl  k) ?_
  show Run p e below s _ _ _ (T110.setTop (mkF m 6 #[.val (.ref ar), .val (.int (0 : Int32)), .val (.int (2 : Int32)), .val (.ref b110), .unset, .unset] [(.int (0 : Int32)), (.ref ar)]))
  refine Run.pre (fun _ k => XS.aloadN X110.here hx rfl (hb hby d7_6) rfl rfl k) ?_
  show Run p e below s _ _ _ (T110.setTop (mkF m 7 #[.val (.ref ar), .val (.int (0 : Int32)), .val (.int (2 : Int32)), .val (.ref b110), .unset, .unset] [(.ref b110), (.int (0 : Int32)), (.ref ar)]))
  refine Run.pre (fun _ k => XS.iconst X110.here hx rfl (hb hby d7_7) k) ?_
  show Run p e below s _ _ _ (T110.setTop (mkF m 8 #[.val (.ref ar), .val (.int (0 : Int32)), .val (.int (2 : Int32)), .val (.ref b110), .unset, .unset] [(.int (0 : Int32)), (.ref b110), (.int (0 : Int32)), (.ref ar)]))
  refine Run.pre (fun _ k => XS.iloadN X110.here hx rfl (hb hby d7_8) rfl  k) ?_
  show Run p e below s _ _ _ (T110.setTop (mkF m 9 #[.val (.ref ar), .val (.int (0 : Int32)), .val (.int (2 : Int32)), .val (.ref b110), .unset, .unset] [(.int (2 : Int32)), (.int (0 : Int32)), (.ref b110), (.int (0 : Int32)), (.ref ar)]))
  by_cases q0 : (255 : Int32) < c0
  · skip
    show Run p e below s _ _ _ (T110.setTop (mkF m 9 #[.val (.ref ar), .val (.int (0 : Int32)), .val (.int (2 : Int32)), .val (.ref b110), .unset, .unset] [(.int (2 : Int32)), (.int (0 : Int32)), (.ref b110), (.int (0 : Int32)), (.ref ar)]))
    have f111 := (AC.ext E110)
    refine Run.callS hS (by first | exact Nat.le_refl _ | (rw [e110]; exact (Nat.le_trans (Nat.zero_le _) E110.1))) X110 hx hZ (y := (⟨"java/lang/StringUTF16", "compress", "([CI[BII)I"⟩ : MethodName)) hown (hw _ (List.mem_of_getElem? (i := 41) rfl)) (hw _ (List.mem_of_getElem? (i := 42) rfl)) (hw _ (List.mem_of_getElem? (i := 39) rfl)) (hw _ (List.mem_of_getElem? (i := 43) rfl)) (by decide) (W := 0) (rmC2_2_0 l Z a0 hw ar b110 kc k110 c0 c1 h110 n0 (Nat.le_trans Z0 K110.1) f111 V_b110 (Nat.ne_of_lt (Nat.lt_of_lt_of_le AC.lt (Nat.le_of_eq g110.symm))) gn_b110 q0) e110 (by decide) (by decide) (by decide) (by decide) (fun _ _ => trivial) (g := (mkF m 9 #[.val (.ref ar), .val (.int (0 : Int32)), .val (.int (2 : Int32)), .val (.ref b110), .unset, .unset] [(.int (2 : Int32)), (.int (0 : Int32)), (.ref b110), (.int (0 : Int32)), (.ref ar)])) rfl (by rw [hml]; rfl) (argsL := [(.ref ar), (.int (0 : Int32)), (.ref b110), (.int (0 : Int32)), (.int (2 : Int32))]) (rest := []) (lenOf pd_3 rfl) rfl (by show 2 * 0 + _ ≤ _; exact Nat.le_of_eq rfl) (hb hby d7_9) ?_
    intro v112 T112 L112 X112 hS hZ hown hV112 hQ112
    obtain ⟨rfl, Nq112, Kc112⟩ := hQ112
    have N112 := Fr.app N0 Nq112
    have K112 : Keep h0 T112.heap [] := K110.trans Kc112 (allS (Or.inr sz_b110) all0)
    show Run p e below s _ _ _ (T112.setTop (mkF m 12 #[.val (.ref ar), .val (.int (0 : Int32)), .val (.int (2 : Int32)), .val (.ref b110), .unset, .unset] [(.int (0 : Int32))]))
    refine Run.pre (fun _ k => XS.istore X112.here hx rfl (hb hby d7_12) rfl (l' := #[.val (.ref ar), .val (.int (0 : Int32)), .val (.int (2 : Int32)), .val (.ref b110), .val (.int (0 : Int32)), .unset]) rfl k) ?_
    show Run p e below s _ _ _ (T112.setTop (mkF m 14 #[.val (.ref ar), .val (.int (0 : Int32)), .val (.int (2 : Int32)), .val (.ref b110), .val (.int (0 : Int32)), .unset] []))
    refine Run.pre (fun _ k => XS.iload X112.here hx rfl (hb hby d7_14) rfl  k) ?_
    show Run p e below s _ _ _ (T112.setTop (mkF m 16 #[.val (.ref ar), .val (.int (0 : Int32)), .val (.int (2 : Int32)), .val (.ref b110), .val (.int (0 : Int32)), .unset] [(.int (0 : Int32))]))
    refine Run.pre (fun _ k => XS.iloadN X112.here hx rfl (hb hby d7_16) rfl  k) ?_
    show Run p e below s _ _ _ (T112.setTop (mkF m 17 #[.val (.ref ar), .val (.int (0 : Int32)), .val (.int (2 : Int32)), .val (.ref b110), .val (.int (0 : Int32)), .unset] [(.int (2 : Int32)), (.int (0 : Int32))]))
    refine Run.pre (fun _ k => XS.icmpNo X112.here hx rfl (hb hby d7_17) rfl (feq ((by decide) : ¬ ((0 : Int32) = (2 : Int32)))).1 k) ?_
    show Run p e below s _ _ _ (T112.setTop (mkF m 20 #[.val (.ref ar), .val (.int (0 : Int32)), .val (.int (2 : Int32)), .val (.ref b110), .val (.int (0 : Int32)), .unset] []))
    refine Run.pre (fun _ k => XS.aloadN X112.here hx rfl (hb hby d7_20) rfl rfl k) ?_
    show Run p e below s _ _ _ (T112.setTop (mkF m 21 #[.val (.ref ar), .val (.int (0 : Int32)), .val (.int (2 : Int32)), .val (.ref b110), .val (.int (0 : Int32)), .unset] [(.ref ar)]))
    refine Run.pre (fun _ k => XS.iloadN X112.here hx rfl (hb hby d7_21) rfl  k) ?_
    show Run p e below s _ _ _ (T112.setTop (mkF m 22 #[.val (.ref ar), .val (.int (0 : Int32)), .val (.int (2 : Int32)), .val (.ref b110), .val (.int (0 : Int32)), .unset] [(.int (0 : Int32)), (.ref ar)]))
    refine Run.pre (fun _ k => XS.iloadN X112.here hx rfl (hb hby d7_22) rfl  k) ?_
    show Run p e below s _ _ _ (T112.setTop (mkF m 23 #[.val (.ref ar), .val (.int (0 : Int32)), .val (.int (2 : Int32)), .val (.ref b110), .val (.int (0 : Int32)), .unset] [(.int (2 : Int32)), (.int (0 : Int32)), (.ref ar)]))
    have f113 := ((OL.ext E110).keep Kc112 (allS gn_b110 all0))
    have f114 := (f111.keep Kc112 (ninS (Nat.ne_of_lt (Nat.lt_of_lt_of_le AC.lt (Nat.le_of_eq g110.symm))) nin0))
    refine Run.callS hS (Nat.le_refl _) X112 hx hZ (y := (⟨"java/lang/StringUTF16", "toBytes", "([CII)[B"⟩ : MethodName)) hown (hw _ (List.mem_of_getElem? (i := 44) rfl)) (hw _ (List.mem_of_getElem? (i := 45) rfl)) (hw _ (List.mem_of_getElem? (i := 39) rfl)) (hw _ (List.mem_of_getElem? (i := 46) rfl)) (by decide) (W := 0) (rmTB_2 l Z a0 hw ar kc c0 c1 T112.heap n0 (Nat.le_trans Z0 K112.1) f113 SA SH SL f114) rfl (by decide) (by decide) (by decide) (by decide) (fun _ _ => trivial) (g := (mkF m 23 #[.val (.ref ar), .val (.int (0 : Int32)), .val (.int (2 : Int32)), .val (.ref b110), .val (.int (0 : Int32)), .unset] [(.int (2 : Int32)), (.int (0 : Int32)), (.ref ar)])) rfl (by rw [hml]; rfl) (argsL := [(.ref ar), (.int (0 : Int32)), (.int (2 : Int32))]) (rest := []) (lenOf pd_4 rfl) rfl (by show 2 * 0 + _ ≤ _; exact Nat.le_of_eq rfl) (hb hby d7_23) ?_
    intro v115 T115 L115 X115 hS hZ hown hV115 hQ115
    obtain ⟨b115, k115, rfl, Nq115, Kc115, sz115, vb115⟩ := hQ115
    have N115 := Fr.app N112 Nq115
    have K115 : Keep h0 T115.heap [] := K112.trans Kc115 all0
    have sz_b115 : h0.size ≤ b115 := Nat.le_trans K112.1 sz115
    have gn_b115 : n0 ≤ b115 := Nat.le_trans Z0 sz_b115
    show Run p e below s _ _ _ (T115.setTop (mkF m 26 #[.val (.ref ar), .val (.int (0 : Int32)), .val (.int (2 : Int32)), .val (.ref b110), .val (.int (0 : Int32)), .unset] [(.ref b115)]))
    refine Run.pre (fun _ k => XS.astore X115.here hx rfl (hb hby d7_26) rfl rfl (l' := #[.val (.ref ar), .val (.int (0 : Int32)), .val (.int (2 : Int32)), .val (.ref b110), .val (.int (0 : Int32)), .val (.ref b115)]) rfl k) ?_
    show Run p e below s _ _ _ (T115.setTop (mkF m 28 #[.val (.ref ar), .val (.int (0 : Int32)), .val (.int (2 : Int32)), .val (.ref b110), .val (.int (0 : Int32)), .val (.ref b115)] []))
    refine Run.pre (fun _ k => XS.aload X115.here hx rfl (hb hby d7_28) rfl rfl k) ?_
    show Run p e below s _ _ _ (T115.setTop (mkF m 30 #[.val (.ref ar), .val (.int (0 : Int32)), .val (.int (2 : Int32)), .val (.ref b110), .val (.int (0 : Int32)), .val (.ref b115)] [(.ref b115)]))
    refine Run.pre (fun _ k => XS.iload X115.here hx rfl (hb hby d7_30) rfl  k) ?_
    show Run p e below s _ _ _ (T115.setTop (mkF m 32 #[.val (.ref ar), .val (.int (0 : Int32)), .val (.int (2 : Int32)), .val (.ref b110), .val (.int (0 : Int32)), .val (.ref b115)] [(.int (0 : Int32)), (.ref b115)]))
    have f116 := (f113.keep Kc115 all0)
    refine Run.callS hS (Nat.le_refl _) X115 hx hZ (y := (⟨"java/lang/StringUTF16", "getChar", "([BI)C"⟩ : MethodName)) hown (hw _ (List.mem_of_getElem? (i := 60) rfl)) (hw _ (List.mem_of_getElem? (i := 61) rfl)) (hw _ (List.mem_of_getElem? (i := 39) rfl)) (hw _ (List.mem_of_getElem? (i := 62) rfl)) (by decide) (W := 0) (rmGC_2_0 l Z a0 hw b115 k115 (own_b0 c0) (own_b1 c0) (own_b0 c1) (own_b1 c1) T115.heap n0 (Nat.le_trans Z0 K115.1) f116 SA SH SL vb115) rfl (by decide) (by decide) (by decide) (by decide) (fun _ _ => trivial) (g := (mkF m 32 #[.val (.ref ar), .val (.int (0 : Int32)), .val (.int (2 : Int32)), .val (.ref b110), .val (.int (0 : Int32)), .val (.ref b115)] [(.int (0 : Int32)), (.ref b115)])) rfl (by rw [hml]; rfl) (argsL := [(.ref b115), (.int (0 : Int32))]) (rest := []) (lenOf pd_5 rfl) rfl (by show 2 * 0 + _ ≤ _; exact Nat.le_of_eq rfl) (hb hby d7_32) ?_
    intro v117 T117 L117 X117 hS hZ hown hV117 hQ117
    obtain ⟨rfl, Nq117, he117⟩ := hQ117
    have N117 := Fr.app N115 Nq117
    have e117 : T117.heap = T115.heap := he117
    show Run p e below s _ _ _ (T117.setTop (mkF m 35 #[.val (.ref ar), .val (.int (0 : Int32)), .val (.int (2 : Int32)), .val (.ref b110), .val (.int (0 : Int32)), .val (.ref b115)] [(.int (own_gcv (own_b0 c0) (own_b1 c0)))]))
    refine Run.pre (fun _ k => XS.sipush X117.here hx rfl (hb hby d7_35) k) ?_
    show Run p e below s _ _ _ (T117.setTop (mkF m 38 #[.val (.ref ar), .val (.int (0 : Int32)), .val (.int (2 : Int32)), .val (.ref b110), .val (.int (0 : Int32)), .val (.ref b115)] [(.int (255 : Int32)), (.int (own_gcv (own_b0 c0) (own_b1 c0)))]))
    refine Run.pre (fun _ k => XS.icmpYes X117.here hx rfl (pc0 := 38) (pc' := 54) rfl (hb hby d7_38) rfl (tlt ((by rw [own_gc c0 w0]; exact q0) : (255 : Int32) < (own_gcv (own_b0 c0) (own_b1 c0)))).2.2.1 (by decide) (by decide) k) ?_
    show Run p e below s _ _ _ (T117.setTop (mkF m 54 #[.val (.ref ar), .val (.int (0 : Int32)), .val (.int (2 : Int32)), .val (.ref b110), .val (.int (0 : Int32)), .val (.ref b115)] []))
    refine Run.pre (fun _ k => XS.aload X117.here hx rfl (hb hby d7_54) rfl rfl k) ?_
    show Run p e below s _ _ _ (T117.setTop (mkF m 56 #[.val (.ref ar), .val (.int (0 : Int32)), .val (.int (2 : Int32)), .val (.ref b110), .val (.int (0 : Int32)), .val (.ref b115)] [(.ref b115)]))
    exact Run.retA hS (by first | exact Nat.le_refl _ | (rw [e117]; exact (Nat.le_of_eq (congrArg Array.size e117)))) X117 hx hret rfl rfl hlk (hb hby d7_56) (by first | (rw [e117]; exact ⟨b115, k115, rfl, N117, K115, sz_b115, Or.inr ⟨fun q => q.1 q0, vb115⟩⟩) | exact ⟨b115, k115, rfl, N117, K115, sz_b115, Or.inr ⟨fun q => q.1 q0, vb115⟩⟩) (by decide) (by decide)
  · skip
    by_cases q1 : (255 : Int32) < c1
    · skip
      show Run p e below s _ _ _ (T110.setTop (mkF m 9 #[.val (.ref ar), .val (.int (0 : Int32)), .val (.int (2 : Int32)), .val (.ref b110), .unset, .unset] [(.int (2 : Int32)), (.int (0 : Int32)), (.ref b110), (.int (0 : Int32)), (.ref ar)]))
      have f118 := (AC.ext E110)
      refine Run.callS hS (by first | exact Nat.le_refl _ | (rw [e110]; exact (Nat.le_trans (Nat.zero_le _) E110.1))) X110 hx hZ (y := (⟨"java/lang/StringUTF16", "compress", "([CI[BII)I"⟩ : MethodName)) hown (hw _ (List.mem_of_getElem? (i := 41) rfl)) (hw _ (List.mem_of_getElem? (i := 42) rfl)) (hw _ (List.mem_of_getElem? (i := 39) rfl)) (hw _ (List.mem_of_getElem? (i := 43) rfl)) (by decide) (W := 0) (rmC2_2_1 l Z a0 hw ar b110 kc k110 c0 c1 h110 n0 (Nat.le_trans Z0 K110.1) f118 V_b110 (Nat.ne_of_lt (Nat.lt_of_lt_of_le AC.lt (Nat.le_of_eq g110.symm))) gn_b110 q0 q1) e110 (by decide) (by decide) (by decide) (by decide) (fun _ _ => trivial) (g := (mkF m 9 #[.val (.ref ar), .val (.int (0 : Int32)), .val (.int (2 : Int32)), .val (.ref b110), .unset, .unset] [(.int (2 : Int32)), (.int (0 : Int32)), (.ref b110), (.int (0 : Int32)), (.ref ar)])) rfl (by rw [hml]; rfl) (argsL := [(.ref ar), (.int (0 : Int32)), (.ref b110), (.int (0 : Int32)), (.int (2 : Int32))]) (rest := []) (lenOf pd_3 rfl) rfl (by show 2 * 0 + _ ≤ _; exact Nat.le_of_eq rfl) (hb hby d7_9) ?_
      intro v119 T119 L119 X119 hS hZ hown hV119 hQ119
      obtain ⟨rfl, Nq119, Kc119⟩ := hQ119
      have N119 := Fr.app N0 Nq119
      have K119 : Keep h0 T119.heap [] := K110.trans Kc119 (allS (Or.inr sz_b110) all0)
      show Run p e below s _ _ _ (T119.setTop (mkF m 12 #[.val (.ref ar), .val (.int (0 : Int32)), .val (.int (2 : Int32)), .val (.ref b110), .unset, .unset] [(.int (1 : Int32))]))
      refine Run.pre (fun _ k => XS.istore X119.here hx rfl (hb hby d7_12) rfl (l' := #[.val (.ref ar), .val (.int (0 : Int32)), .val (.int (2 : Int32)), .val (.ref b110), .val (.int (1 : Int32)), .unset]) rfl k) ?_
      show Run p e below s _ _ _ (T119.setTop (mkF m 14 #[.val (.ref ar), .val (.int (0 : Int32)), .val (.int (2 : Int32)), .val (.ref b110), .val (.int (1 : Int32)), .unset] []))
      refine Run.pre (fun _ k => XS.iload X119.here hx rfl (hb hby d7_14) rfl  k) ?_
      show Run p e below s _ _ _ (T119.setTop (mkF m 16 #[.val (.ref ar), .val (.int (0 : Int32)), .val (.int (2 : Int32)), .val (.ref b110), .val (.int (1 : Int32)), .unset] [(.int (1 : Int32))]))
      refine Run.pre (fun _ k => XS.iloadN X119.here hx rfl (hb hby d7_16) rfl  k) ?_
      show Run p e below s _ _ _ (T119.setTop (mkF m 17 #[.val (.ref ar), .val (.int (0 : Int32)), .val (.int (2 : Int32)), .val (.ref b110), .val (.int (1 : Int32)), .unset] [(.int (2 : Int32)), (.int (1 : Int32))]))
      refine Run.pre (fun _ k => XS.icmpNo X119.here hx rfl (hb hby d7_17) rfl (feq ((by decide) : ¬ ((1 : Int32) = (2 : Int32)))).1 k) ?_
      show Run p e below s _ _ _ (T119.setTop (mkF m 20 #[.val (.ref ar), .val (.int (0 : Int32)), .val (.int (2 : Int32)), .val (.ref b110), .val (.int (1 : Int32)), .unset] []))
      refine Run.pre (fun _ k => XS.aloadN X119.here hx rfl (hb hby d7_20) rfl rfl k) ?_
      show Run p e below s _ _ _ (T119.setTop (mkF m 21 #[.val (.ref ar), .val (.int (0 : Int32)), .val (.int (2 : Int32)), .val (.ref b110), .val (.int (1 : Int32)), .unset] [(.ref ar)]))
      refine Run.pre (fun _ k => XS.iloadN X119.here hx rfl (hb hby d7_21) rfl  k) ?_
      show Run p e below s _ _ _ (T119.setTop (mkF m 22 #[.val (.ref ar), .val (.int (0 : Int32)), .val (.int (2 : Int32)), .val (.ref b110), .val (.int (1 : Int32)), .unset] [(.int (0 : Int32)), (.ref ar)]))
      refine Run.pre (fun _ k => XS.iloadN X119.here hx rfl (hb hby d7_22) rfl  k) ?_
      show Run p e below s _ _ _ (T119.setTop (mkF m 23 #[.val (.ref ar), .val (.int (0 : Int32)), .val (.int (2 : Int32)), .val (.ref b110), .val (.int (1 : Int32)), .unset] [(.int (2 : Int32)), (.int (0 : Int32)), (.ref ar)]))
      have f120 := ((OL.ext E110).keep Kc119 (allS gn_b110 all0))
      have f121 := (f118.keep Kc119 (ninS (Nat.ne_of_lt (Nat.lt_of_lt_of_le AC.lt (Nat.le_of_eq g110.symm))) nin0))
      refine Run.callS hS (Nat.le_refl _) X119 hx hZ (y := (⟨"java/lang/StringUTF16", "toBytes", "([CII)[B"⟩ : MethodName)) hown (hw _ (List.mem_of_getElem? (i := 44) rfl)) (hw _ (List.mem_of_getElem? (i := 45) rfl)) (hw _ (List.mem_of_getElem? (i := 39) rfl)) (hw _ (List.mem_of_getElem? (i := 46) rfl)) (by decide) (W := 0) (rmTB_2 l Z a0 hw ar kc c0 c1 T119.heap n0 (Nat.le_trans Z0 K119.1) f120 SA SH SL f121) rfl (by decide) (by decide) (by decide) (by decide) (fun _ _ => trivial) (g := (mkF m 23 #[.val (.ref ar), .val (.int (0 : Int32)), .val (.int (2 : Int32)), .val (.ref b110), .val (.int (1 : Int32)), .unset] [(.int (2 : Int32)), (.int (0 : Int32)), (.ref ar)])) rfl (by rw [hml]; rfl) (argsL := [(.ref ar), (.int (0 : Int32)), (.int (2 : Int32))]) (rest := []) (lenOf pd_4 rfl) rfl (by show 2 * 0 + _ ≤ _; exact Nat.le_of_eq rfl) (hb hby d7_23) ?_
      intro v122 T122 L122 X122 hS hZ hown hV122 hQ122
      obtain ⟨b122, k122, rfl, Nq122, Kc122, sz122, vb122⟩ := hQ122
      have N122 := Fr.app N119 Nq122
      have K122 : Keep h0 T122.heap [] := K119.trans Kc122 all0
      have sz_b122 : h0.size ≤ b122 := Nat.le_trans K119.1 sz122
      have gn_b122 : n0 ≤ b122 := Nat.le_trans Z0 sz_b122
      show Run p e below s _ _ _ (T122.setTop (mkF m 26 #[.val (.ref ar), .val (.int (0 : Int32)), .val (.int (2 : Int32)), .val (.ref b110), .val (.int (1 : Int32)), .unset] [(.ref b122)]))
      refine Run.pre (fun _ k => XS.astore X122.here hx rfl (hb hby d7_26) rfl rfl (l' := #[.val (.ref ar), .val (.int (0 : Int32)), .val (.int (2 : Int32)), .val (.ref b110), .val (.int (1 : Int32)), .val (.ref b122)]) rfl k) ?_
      show Run p e below s _ _ _ (T122.setTop (mkF m 28 #[.val (.ref ar), .val (.int (0 : Int32)), .val (.int (2 : Int32)), .val (.ref b110), .val (.int (1 : Int32)), .val (.ref b122)] []))
      refine Run.pre (fun _ k => XS.aload X122.here hx rfl (hb hby d7_28) rfl rfl k) ?_
      show Run p e below s _ _ _ (T122.setTop (mkF m 30 #[.val (.ref ar), .val (.int (0 : Int32)), .val (.int (2 : Int32)), .val (.ref b110), .val (.int (1 : Int32)), .val (.ref b122)] [(.ref b122)]))
      refine Run.pre (fun _ k => XS.iload X122.here hx rfl (hb hby d7_30) rfl  k) ?_
      show Run p e below s _ _ _ (T122.setTop (mkF m 32 #[.val (.ref ar), .val (.int (0 : Int32)), .val (.int (2 : Int32)), .val (.ref b110), .val (.int (1 : Int32)), .val (.ref b122)] [(.int (1 : Int32)), (.ref b122)]))
      have f123 := (f120.keep Kc122 all0)
      refine Run.callS hS (Nat.le_refl _) X122 hx hZ (y := (⟨"java/lang/StringUTF16", "getChar", "([BI)C"⟩ : MethodName)) hown (hw _ (List.mem_of_getElem? (i := 60) rfl)) (hw _ (List.mem_of_getElem? (i := 61) rfl)) (hw _ (List.mem_of_getElem? (i := 39) rfl)) (hw _ (List.mem_of_getElem? (i := 62) rfl)) (by decide) (W := 0) (rmGC_2_1 l Z a0 hw b122 k122 (own_b0 c0) (own_b1 c0) (own_b0 c1) (own_b1 c1) T122.heap n0 (Nat.le_trans Z0 K122.1) f123 SA SH SL vb122) rfl (by decide) (by decide) (by decide) (by decide) (fun _ _ => trivial) (g := (mkF m 32 #[.val (.ref ar), .val (.int (0 : Int32)), .val (.int (2 : Int32)), .val (.ref b110), .val (.int (1 : Int32)), .val (.ref b122)] [(.int (1 : Int32)), (.ref b122)])) rfl (by rw [hml]; rfl) (argsL := [(.ref b122), (.int (1 : Int32))]) (rest := []) (lenOf pd_5 rfl) rfl (by show 2 * 0 + _ ≤ _; exact Nat.le_of_eq rfl) (hb hby d7_32) ?_
      intro v124 T124 L124 X124 hS hZ hown hV124 hQ124
      obtain ⟨rfl, Nq124, he124⟩ := hQ124
      have N124 := Fr.app N122 Nq124
      have e124 : T124.heap = T122.heap := he124
      show Run p e below s _ _ _ (T124.setTop (mkF m 35 #[.val (.ref ar), .val (.int (0 : Int32)), .val (.int (2 : Int32)), .val (.ref b110), .val (.int (1 : Int32)), .val (.ref b122)] [(.int (own_gcv (own_b0 c1) (own_b1 c1)))]))
      refine Run.pre (fun _ k => XS.sipush X124.here hx rfl (hb hby d7_35) k) ?_
      show Run p e below s _ _ _ (T124.setTop (mkF m 38 #[.val (.ref ar), .val (.int (0 : Int32)), .val (.int (2 : Int32)), .val (.ref b110), .val (.int (1 : Int32)), .val (.ref b122)] [(.int (255 : Int32)), (.int (own_gcv (own_b0 c1) (own_b1 c1)))]))
      refine Run.pre (fun _ k => XS.icmpYes X124.here hx rfl (pc0 := 38) (pc' := 54) rfl (hb hby d7_38) rfl (tlt ((by rw [own_gc c1 w1]; exact q1) : (255 : Int32) < (own_gcv (own_b0 c1) (own_b1 c1)))).2.2.1 (by decide) (by decide) k) ?_
      show Run p e below s _ _ _ (T124.setTop (mkF m 54 #[.val (.ref ar), .val (.int (0 : Int32)), .val (.int (2 : Int32)), .val (.ref b110), .val (.int (1 : Int32)), .val (.ref b122)] []))
      refine Run.pre (fun _ k => XS.aload X124.here hx rfl (hb hby d7_54) rfl rfl k) ?_
      show Run p e below s _ _ _ (T124.setTop (mkF m 56 #[.val (.ref ar), .val (.int (0 : Int32)), .val (.int (2 : Int32)), .val (.ref b110), .val (.int (1 : Int32)), .val (.ref b122)] [(.ref b122)]))
      exact Run.retA hS (by first | exact Nat.le_refl _ | (rw [e124]; exact (Nat.le_of_eq (congrArg Array.size e124)))) X124 hx hret rfl rfl hlk (hb hby d7_56) (by first | (rw [e124]; exact ⟨b122, k122, rfl, N124, K122, sz_b122, Or.inr ⟨fun q => q.2 q1, vb122⟩⟩) | exact ⟨b122, k122, rfl, N124, K122, sz_b122, Or.inr ⟨fun q => q.2 q1, vb122⟩⟩) (by decide) (by decide)
    · skip
      show Run p e below s _ _ _ (T110.setTop (mkF m 9 #[.val (.ref ar), .val (.int (0 : Int32)), .val (.int (2 : Int32)), .val (.ref b110), .unset, .unset] [(.int (2 : Int32)), (.int (0 : Int32)), (.ref b110), (.int (0 : Int32)), (.ref ar)]))
      have f125 := (AC.ext E110)
      refine Run.callS hS (by first | exact Nat.le_refl _ | (rw [e110]; exact (Nat.le_trans (Nat.zero_le _) E110.1))) X110 hx hZ (y := (⟨"java/lang/StringUTF16", "compress", "([CI[BII)I"⟩ : MethodName)) hown (hw _ (List.mem_of_getElem? (i := 41) rfl)) (hw _ (List.mem_of_getElem? (i := 42) rfl)) (hw _ (List.mem_of_getElem? (i := 39) rfl)) (hw _ (List.mem_of_getElem? (i := 43) rfl)) (by decide) (W := 0) (rmC2_2_2 l Z a0 hw ar b110 kc k110 c0 c1 h110 n0 (Nat.le_trans Z0 K110.1) f125 V_b110 (Nat.ne_of_lt (Nat.lt_of_lt_of_le AC.lt (Nat.le_of_eq g110.symm))) gn_b110 q0 q1) e110 (by decide) (by decide) (by decide) (by decide) (fun _ _ => trivial) (g := (mkF m 9 #[.val (.ref ar), .val (.int (0 : Int32)), .val (.int (2 : Int32)), .val (.ref b110), .unset, .unset] [(.int (2 : Int32)), (.int (0 : Int32)), (.ref b110), (.int (0 : Int32)), (.ref ar)])) rfl (by rw [hml]; rfl) (argsL := [(.ref ar), (.int (0 : Int32)), (.ref b110), (.int (0 : Int32)), (.int (2 : Int32))]) (rest := []) (lenOf pd_3 rfl) rfl (by show 2 * 0 + _ ≤ _; exact Nat.le_of_eq rfl) (hb hby d7_9) ?_
      intro v126 T126 L126 X126 hS hZ hown hV126 hQ126
      obtain ⟨rfl, Nq126, Kc126, vb126⟩ := hQ126
      have N126 := Fr.app N0 Nq126
      have K126 : Keep h0 T126.heap [] := K110.trans Kc126 (allS (Or.inr sz_b110) all0)
      show Run p e below s _ _ _ (T126.setTop (mkF m 12 #[.val (.ref ar), .val (.int (0 : Int32)), .val (.int (2 : Int32)), .val (.ref b110), .unset, .unset] [(.int (2 : Int32))]))
      refine Run.pre (fun _ k => XS.istore X126.here hx rfl (hb hby d7_12) rfl (l' := #[.val (.ref ar), .val (.int (0 : Int32)), .val (.int (2 : Int32)), .val (.ref b110), .val (.int (2 : Int32)), .unset]) rfl k) ?_
      show Run p e below s _ _ _ (T126.setTop (mkF m 14 #[.val (.ref ar), .val (.int (0 : Int32)), .val (.int (2 : Int32)), .val (.ref b110), .val (.int (2 : Int32)), .unset] []))
      refine Run.pre (fun _ k => XS.iload X126.here hx rfl (hb hby d7_14) rfl  k) ?_
      show Run p e below s _ _ _ (T126.setTop (mkF m 16 #[.val (.ref ar), .val (.int (0 : Int32)), .val (.int (2 : Int32)), .val (.ref b110), .val (.int (2 : Int32)), .unset] [(.int (2 : Int32))]))
      refine Run.pre (fun _ k => XS.iloadN X126.here hx rfl (hb hby d7_16) rfl  k) ?_
      show Run p e below s _ _ _ (T126.setTop (mkF m 17 #[.val (.ref ar), .val (.int (0 : Int32)), .val (.int (2 : Int32)), .val (.ref b110), .val (.int (2 : Int32)), .unset] [(.int (2 : Int32)), (.int (2 : Int32))]))
      refine Run.pre (fun _ k => XS.icmpYes X126.here hx rfl (pc0 := 17) (pc' := 57) rfl (hb hby d7_17) rfl (teq ((by decide) : (2 : Int32) = (2 : Int32))).1 (by decide) (by decide) k) ?_
      show Run p e below s _ _ _ (T126.setTop (mkF m 57 #[.val (.ref ar), .val (.int (0 : Int32)), .val (.int (2 : Int32)), .val (.ref b110), .val (.int (2 : Int32)), .unset] []))
      refine Run.pre (fun _ k => XS.aloadN X126.here hx rfl (hb hby d7_57) rfl rfl k) ?_
      show Run p e below s _ _ _ (T126.setTop (mkF m 58 #[.val (.ref ar), .val (.int (0 : Int32)), .val (.int (2 : Int32)), .val (.ref b110), .val (.int (2 : Int32)), .unset] [(.ref b110)]))
      exact Run.retA hS (Nat.le_refl _) X126 hx hret rfl rfl hlk (hb hby d7_58) ⟨b110, k110, rfl, N126, K126, sz_b110, Or.inl ⟨⟨q0, q1⟩, vb126⟩⟩ (by decide) (by decide)
set_option maxRecDepth 65536 in
set_option maxHeartbeats 40000000 in
theorem rmCo_2L (l : Launch) (Z : State) (a0 : Array Value) (hw : ∀ d ∈ tables_1, d.before a0 Z = true) (b : Addr) (kb : ClassId) (c0 : Int32) (c1 : Int32) (h0 : Heap) (n0 : Nat) (Z0 : n0 ≤ h0.size) (AB : Arv Z h0 b kb .byte 2 [(.int (nar .byte (c0.toInt8.toInt32))), (.int (nar .byte (c1.toInt8.toInt32)))] (.int 0)) :
    Con l (⟨"java/lang/StringUTF16", "coderFromArrayLen", "([BI)B"⟩ : MethodName) jdk_52_method_15_code 2 (some .byte) ({ frames := 0, cells := 0, slots := 0, locals := 0 } : Room) Z #[(.ref b), (.int (2 : Int32))] h0 (fun _ => True) (fun v h L vm => v = some (.int 0) ∧ Fr n0 L ∧ h = h0) := by
  refine Con.mk (plainFor_of_name pn_14) (fun m => show entryFrame m #[(.ref b), (.int (2 : Int32))] 2 = mkF m 0 #[.val (.ref b), .val (.int (2 : Int32))] [] by first | (simp [entryFrame, mkF, argsToLocals, Value.category]; done) | rfl) ?_
  intro p e s m below meth c s₁ vm0 hx hby hml hown hnm hret hlk hZ X0 e0 hS hs0 hP0
  have N0 := Fr.nil n0
  show Run p e below s _ _ _ (s₁.setTop (mkF m 0 #[.val (.ref b), .val (.int (2 : Int32))] []))
  refine Run.pre (fun _ k => XS.iloadN X0.here hx rfl (hb hby d14_0) rfl  k) ?_
  show Run p e below s _ _ _ (s₁.setTop (mkF m 1 #[.val (.ref b), .val (.int (2 : Int32))] [(.int (2 : Int32))]))
  refine Run.pre (fun _ k => XS.aloadN X0.here hx rfl (hb hby d14_1) rfl rfl k) ?_
  show Run p e below s _ _ _ (s₁.setTop (mkF m 2 #[.val (.ref b), .val (.int (2 : Int32))] [(.ref b), (.int (2 : Int32))]))
  obtain ⟨c127, Ar127, -, S127, N127, -, -⟩ := id AB
  refine Run.pre (X0.arraylength hx (by rw [e0]; exact Ar127.1) (State.isArrayOf_alike hZ.alike Ar127.2.1) (g := (mkF m 2 #[.val (.ref b), .val (.int (2 : Int32))] [(.ref b), (.int (2 : Int32))])) rfl rfl (hb hby d14_2)) ?_
  rw [len_of S127 N127]
  show Run p e below s _ _ _ (s₁.setTop (mkF m 3 #[.val (.ref b), .val (.int (2 : Int32))] [(.int (2 : Int32)), (.int (2 : Int32))]))
  refine Run.pre (fun _ k => XS.isub X0.here hx rfl (hb hby d14_3) rfl k) ?_
  show Run p e below s _ _ _ (s₁.setTop (mkF m 4 #[.val (.ref b), .val (.int (2 : Int32))] [(.int (0 : Int32))]))
  refine Run.pre (fun _ k => XS.bipush X0.here hx rfl (hb hby d14_4) k) ?_
  show Run p e below s _ _ _ (s₁.setTop (mkF m 6 #[.val (.ref b), .val (.int (2 : Int32))] [(.int (31 : Int32)), (.int (0 : Int32))]))
  refine Run.pre (fun _ k => XS.iushr X0.here hx rfl (hb hby d14_6) rfl k) ?_
  show Run p e below s _ _ _ (s₁.setTop (mkF m 7 #[.val (.ref b), .val (.int (2 : Int32))] [(.int (0 : Int32))]))
  refine Run.pre (fun _ k => XS.i2b X0.here hx rfl (hb hby d14_7) rfl k) ?_
  show Run p e below s _ _ _ (s₁.setTop (mkF m 8 #[.val (.ref b), .val (.int (2 : Int32))] [(.int ((0 : Int32).toInt8.toInt32))]))
  exact Run.retN hS (by first | exact Nat.le_refl _ | (rw [e0]; exact (Nat.zero_le _))) X0 hx hret (t := .byte) (by simp) hlk (hb hby d14_8) (by first | (rw [e0]; exact ⟨by decide, N0, rfl⟩) | exact ⟨by decide, N0, rfl⟩) (by decide) (by decide)
set_option maxRecDepth 65536 in
set_option maxHeartbeats 40000000 in
theorem rmCo_2U (l : Launch) (Z : State) (a0 : Array Value) (hw : ∀ d ∈ tables_1, d.before a0 Z = true) (b : Addr) (kb : ClassId) (c0 : Int32) (c1 : Int32) (h0 : Heap) (n0 : Nat) (Z0 : n0 ≤ h0.size) (AB : Arv Z h0 b kb .byte 4 [(.int (own_b0 c0)), (.int (own_b1 c0)), (.int (own_b0 c1)), (.int (own_b1 c1))] (.int 0)) :
    Con l (⟨"java/lang/StringUTF16", "coderFromArrayLen", "([BI)B"⟩ : MethodName) jdk_52_method_15_code 2 (some .byte) ({ frames := 0, cells := 0, slots := 0, locals := 0 } : Room) Z #[(.ref b), (.int (2 : Int32))] h0 (fun _ => True) (fun v h L vm => v = some (.int 1) ∧ Fr n0 L ∧ h = h0) := by
  refine Con.mk (plainFor_of_name pn_14) (fun m => show entryFrame m #[(.ref b), (.int (2 : Int32))] 2 = mkF m 0 #[.val (.ref b), .val (.int (2 : Int32))] [] by first | (simp [entryFrame, mkF, argsToLocals, Value.category]; done) | rfl) ?_
  intro p e s m below meth c s₁ vm0 hx hby hml hown hnm hret hlk hZ X0 e0 hS hs0 hP0
  have N0 := Fr.nil n0
  show Run p e below s _ _ _ (s₁.setTop (mkF m 0 #[.val (.ref b), .val (.int (2 : Int32))] []))
  refine Run.pre (fun _ k => XS.iloadN X0.here hx rfl (hb hby d14_0) rfl  k) ?_
  show Run p e below s _ _ _ (s₁.setTop (mkF m 1 #[.val (.ref b), .val (.int (2 : Int32))] [(.int (2 : Int32))]))
  refine Run.pre (fun _ k => XS.aloadN X0.here hx rfl (hb hby d14_1) rfl rfl k) ?_
  show Run p e below s _ _ _ (s₁.setTop (mkF m 2 #[.val (.ref b), .val (.int (2 : Int32))] [(.ref b), (.int (2 : Int32))]))
  obtain ⟨c128, Ar128, -, S128, N128, -, -⟩ := id AB
  refine Run.pre (X0.arraylength hx (by rw [e0]; exact Ar128.1) (State.isArrayOf_alike hZ.alike Ar128.2.1) (g := (mkF m 2 #[.val (.ref b), .val (.int (2 : Int32))] [(.ref b), (.int (2 : Int32))])) rfl rfl (hb hby d14_2)) ?_
  rw [len_of S128 N128]
  show Run p e below s _ _ _ (s₁.setTop (mkF m 3 #[.val (.ref b), .val (.int (2 : Int32))] [(.int (4 : Int32)), (.int (2 : Int32))]))
  refine Run.pre (fun _ k => XS.isub X0.here hx rfl (hb hby d14_3) rfl k) ?_
  show Run p e below s _ _ _ (s₁.setTop (mkF m 4 #[.val (.ref b), .val (.int (2 : Int32))] [(.int (-2 : Int32))]))
  refine Run.pre (fun _ k => XS.bipush X0.here hx rfl (hb hby d14_4) k) ?_
  show Run p e below s _ _ _ (s₁.setTop (mkF m 6 #[.val (.ref b), .val (.int (2 : Int32))] [(.int (31 : Int32)), (.int (-2 : Int32))]))
  refine Run.pre (fun _ k => XS.iushr X0.here hx rfl (hb hby d14_6) rfl k) ?_
  show Run p e below s _ _ _ (s₁.setTop (mkF m 7 #[.val (.ref b), .val (.int (2 : Int32))] [(.int (1 : Int32))]))
  refine Run.pre (fun _ k => XS.i2b X0.here hx rfl (hb hby d14_7) rfl k) ?_
  show Run p e below s _ _ _ (s₁.setTop (mkF m 8 #[.val (.ref b), .val (.int (2 : Int32))] [(.int ((1 : Int32).toInt8.toInt32))]))
  exact Run.retN hS (by first | exact Nat.le_refl _ | (rw [e0]; exact (Nat.zero_le _))) X0 hx hret (t := .byte) (by simp) hlk (hb hby d14_8) (by first | (rw [e0]; exact ⟨by decide, N0, rfl⟩) | exact ⟨by decide, N0, rfl⟩) (by decide) (by decide)
set_option maxRecDepth 65536 in
set_option maxHeartbeats 40000000 in
theorem rmI4_2 (l : Launch) (Z : State) (a0 : Array Value) (hw : ∀ d ∈ tables_1, d.before a0 Z = true) (a : Addr) (ar : Addr) (kc : ClassId) (c0 : Int32) (c1 : Int32) (cs : Int32) (h0 : Heap) (n0 : Nat) (Z0 : n0 ≤ h0.size) (OL : Old Z n0 h0) (SC : Sta Z Z.heap "java/lang/String" "COMPACT_STRINGS" "Z" (.int cs)) (hcs : ¬ cs = 0) (SA : Sta Z Z.heap "java/lang/StringUTF16" "$assertionsDisabled" "Z" (.int 1)) (SH : Sta Z Z.heap "java/lang/StringUTF16" "HI_BYTE_SHIFT" "I" (.int 0)) (SL : Sta Z Z.heap "java/lang/StringUTF16" "LO_BYTE_SHIFT" "I" (.int 8)) (AC : Arv Z h0 ar kc .char 2 [(.int c0), (.int c1)] (.int 0)) (E_a : Exa Z h0 a "java/lang/String") (FV : Fld Z h0 a "java/lang/String" "value" "[B" .null) (FCo : Fld Z h0 a "java/lang/String" "coder" "B" (.int 0)) (g_a : n0 ≤ a) (nar_ : ar ≠ a) (w0 : nar .char c0 = c0) (w1 : nar .char c1 = c1) :
    Con l (⟨"java/lang/String", "<init>", "([CIILjava/lang/Void;)V"⟩ : MethodName) jdk_42_method_149_code 6 none ({ frames := 4, cells := 2, slots := 6, locals := 57 } : Room) Z #[(.ref a), (.ref ar), (.int (0 : Int32)), (.int (2 : Int32)), .null] h0 (fun _ => True) (fun v h L vm => ∃ b : Addr, ∃ k : ClassId, v = none ∧ Fr n0 L ∧ Keep h0 h [a] ∧ h0.size ≤ b ∧ Fld Z h a "java/lang/String" "value" "[B" (.ref b) ∧ (Fld Z h a "java/lang/String" "coder" "B" (.int 0) ∧ (¬ (255 : Int32) < c0 ∧ ¬ (255 : Int32) < c1) ∧ Arv Z h b k .byte 2 [(.int (nar .byte (c0.toInt8.toInt32))), (.int (nar .byte (c1.toInt8.toInt32)))] (.int 0) ∨ Fld Z h a "java/lang/String" "coder" "B" (.int 1) ∧ (¬ (¬ (255 : Int32) < c0 ∧ ¬ (255 : Int32) < c1)) ∧ Arv Z h b k .byte 4 [(.int (own_b0 c0)), (.int (own_b1 c0)), (.int (own_b0 c1)), (.int (own_b1 c1))] (.int 0))) := by
  refine Con.mk (plainFor_of_name pn_3) (fun m => show entryFrame m #[(.ref a), (.ref ar), (.int (0 : Int32)), (.int (2 : Int32)), .null] 6 = mkF m 0 #[.val (.ref a), .val (.ref ar), .val (.int (0 : Int32)), .val (.int (2 : Int32)), .val .null, .unset] [] by first | (simp [entryFrame, mkF, argsToLocals, Value.category]; done) | rfl) ?_
  intro p e s m below meth c s₁ vm0 hx hby hml hown hnm hret hlk hZ X0 e0 hS hs0 hP0
  have N0 := Fr.nil n0
  show Run p e below s _ _ _ (s₁.setTop (mkF m 0 #[.val (.ref a), .val (.ref ar), .val (.int (0 : Int32)), .val (.int (2 : Int32)), .val .null, .unset] []))
  refine Run.pre (fun _ k => XS.aloadN X0.here hx rfl (hb hby d3_0) rfl rfl k) ?_
  show Run p e below s _ _ _ (s₁.setTop (mkF m 1 #[.val (.ref a), .val (.ref ar), .val (.int (0 : Int32)), .val (.int (2 : Int32)), .val .null, .unset] [(.ref a)]))
  obtain ⟨T129, X129, e129, st129⟩ := initO X0 hx hZ hown (hw _ (List.mem_of_getElem? (i := 16) rfl)) (hw _ (List.mem_of_getElem? (i := 17) rfl)) (hw _ (List.mem_of_getElem? (i := 18) rfl)) e0 (g := (mkF m 1 #[.val (.ref a), .val (.ref ar), .val (.int (0 : Int32)), .val (.int (2 : Int32)), .val .null, .unset] [(.ref a)])) rfl (by rw [hml]; rfl) rfl (hb hby d3_1) (by decide) (W := 0) (by show 2 * 0 + _ ≤ _; exact Nat.le_of_eq rfl) (by decide)
  refine Run.pre st129 ?_
  show Run p e below s _ _ _ (T129.setTop (mkF m 4 #[.val (.ref a), .val (.ref ar), .val (.int (0 : Int32)), .val (.int (2 : Int32)), .val .null, .unset] []))
  refine Run.pre (fun _ k => XS.iloadN X129.here hx rfl (hb hby d3_4) rfl  k) ?_
  show Run p e below s _ _ _ (T129.setTop (mkF m 5 #[.val (.ref a), .val (.ref ar), .val (.int (0 : Int32)), .val (.int (2 : Int32)), .val .null, .unset] [(.int (2 : Int32))]))
  refine Run.pre (fun _ k => XS.ifYes X129.here hx rfl (pc0 := 5) (pc' := 27) rfl (hb hby d3_5) rfl ((if0 _ _).trans (feq ((by decide) : ¬ ((2 : Int32) = (0 : Int32)))).2) (by decide) (by decide) k) ?_
  show Run p e below s _ _ _ (T129.setTop (mkF m 27 #[.val (.ref a), .val (.ref ar), .val (.int (0 : Int32)), .val (.int (2 : Int32)), .val .null, .unset] []))
  obtain ⟨T130, X130, e130, st130⟩ := getS2 X129 hx hZ hown (host := "") (Or.inl (hw _ (List.mem_of_getElem? (i := 36) rfl))) Via.refl e129 (SC.ext OL.2) (g := (mkF m 27 #[.val (.ref a), .val (.ref ar), .val (.int (0 : Int32)), .val (.int (2 : Int32)), .val .null, .unset] [])) rfl (hb hby d3_27)
  refine Run.pre st130 ?_
  show Run p e below s _ _ _ (T130.setTop (mkF m 30 #[.val (.ref a), .val (.ref ar), .val (.int (0 : Int32)), .val (.int (2 : Int32)), .val .null, .unset] [(.int cs)]))
  refine Run.pre (fun _ k => XS.ifNo X130.here hx rfl (hb hby d3_30) rfl ((if0 _ _).trans (feq (hcs : ¬ (cs = (0 : Int32)))).1) k) ?_
  show Run p e below s _ _ _ (T130.setTop (mkF m 33 #[.val (.ref a), .val (.ref ar), .val (.int (0 : Int32)), .val (.int (2 : Int32)), .val .null, .unset] []))
  refine Run.pre (fun _ k => XS.aloadN X130.here hx rfl (hb hby d3_33) rfl rfl k) ?_
  show Run p e below s _ _ _ (T130.setTop (mkF m 34 #[.val (.ref a), .val (.ref ar), .val (.int (0 : Int32)), .val (.int (2 : Int32)), .val .null, .unset] [(.ref ar)]))
  refine Run.pre (fun _ k => XS.iloadN X130.here hx rfl (hb hby d3_34) rfl  k) ?_
  show Run p e below s _ _ _ (T130.setTop (mkF m 35 #[.val (.ref a), .val (.ref ar), .val (.int (0 : Int32)), .val (.int (2 : Int32)), .val .null, .unset] [(.int (0 : Int32)), (.ref ar)]))
  refine Run.pre (fun _ k => XS.iloadN X130.here hx rfl (hb hby d3_35) rfl  k) ?_
  show Run p e below s _ _ _ (T130.setTop (mkF m 36 #[.val (.ref a), .val (.ref ar), .val (.int (0 : Int32)), .val (.int (2 : Int32)), .val .null, .unset] [(.int (2 : Int32)), (.int (0 : Int32)), (.ref ar)]))
  refine Run.callS hS (by first | exact Nat.le_refl _ | (rw [e130]; exact (Nat.zero_le _))) X130 hx hZ (y := (⟨"java/lang/StringUTF16", "compress", "([CII)[B"⟩ : MethodName)) hown (hw _ (List.mem_of_getElem? (i := 37) rfl)) (hw _ (List.mem_of_getElem? (i := 38) rfl)) (hw _ (List.mem_of_getElem? (i := 39) rfl)) (hw _ (List.mem_of_getElem? (i := 40) rfl)) (by decide) (W := 0) (rmC1_2 l Z a0 hw ar kc c0 c1 h0 n0 (Nat.le_trans Z0 (Keep.refl h0 [a]).1) OL SA SH SL AC w0 w1) e130 (by decide) (by decide) (by decide) (by decide) (fun _ _ => trivial) (g := (mkF m 36 #[.val (.ref a), .val (.ref ar), .val (.int (0 : Int32)), .val (.int (2 : Int32)), .val .null, .unset] [(.int (2 : Int32)), (.int (0 : Int32)), (.ref ar)])) rfl (by rw [hml]; rfl) (argsL := [(.ref ar), (.int (0 : Int32)), (.int (2 : Int32))]) (rest := []) (lenOf pd_4 rfl) rfl (by show 2 * 0 + _ ≤ _; exact Nat.le_of_eq rfl) (hb hby d3_36) ?_
  intro v131 T131 L131 X131 hS hZ hown hV131 hQ131
  obtain ⟨b131, k131, rfl, Nq131, Kc131, sz131, dj131⟩ := hQ131
  have N131 := Fr.app N0 Nq131
  have K131 : Keep h0 T131.heap [a] := (Keep.refl h0 [a]).trans Kc131 all0
  have sz_b131 : h0.size ≤ b131 := Nat.le_trans (Keep.refl h0 [a]).1 sz131
  have gn_b131 : n0 ≤ b131 := Nat.le_trans Z0 sz_b131
  show Run p e below s _ _ _ (T131.setTop (mkF m 39 #[.val (.ref a), .val (.ref ar), .val (.int (0 : Int32)), .val (.int (2 : Int32)), .val .null, .unset] [(.ref b131)]))
  rcases dj131 with ⟨hl, vv⟩ | ⟨hl, vv⟩
  · skip
    show Run p e below s _ _ _ (T131.setTop (mkF m 39 #[.val (.ref a), .val (.ref ar), .val (.int (0 : Int32)), .val (.int (2 : Int32)), .val .null, .unset] [(.ref b131)]))
    refine Run.pre (fun _ k => XS.astore X131.here hx rfl (hb hby d3_39) rfl rfl (l' := #[.val (.ref a), .val (.ref ar), .val (.int (0 : Int32)), .val (.int (2 : Int32)), .val .null, .val (.ref b131)]) rfl k) ?_
    show Run p e below s _ _ _ (T131.setTop (mkF m 41 #[.val (.ref a), .val (.ref ar), .val (.int (0 : Int32)), .val (.int (2 : Int32)), .val .null, .val (.ref b131)] []))
    refine Run.pre (fun _ k => XS.aloadN X131.here hx rfl (hb hby d3_41) rfl rfl k) ?_
    show Run p e below s _ _ _ (T131.setTop (mkF m 42 #[.val (.ref a), .val (.ref ar), .val (.int (0 : Int32)), .val (.int (2 : Int32)), .val .null, .val (.ref b131)] [(.ref a)]))
    refine Run.pre (fun _ k => XS.aload X131.here hx rfl (hb hby d3_42) rfl rfl k) ?_
    show Run p e below s _ _ _ (T131.setTop (mkF m 44 #[.val (.ref a), .val (.ref ar), .val (.int (0 : Int32)), .val (.int (2 : Int32)), .val .null, .val (.ref b131)] [(.ref b131), (.ref a)]))
    refine Run.pre (fun _ k => XS.iloadN X131.here hx rfl (hb hby d3_44) rfl  k) ?_
    show Run p e below s _ _ _ (T131.setTop (mkF m 45 #[.val (.ref a), .val (.ref ar), .val (.int (0 : Int32)), .val (.int (2 : Int32)), .val .null, .val (.ref b131)] [(.int (2 : Int32)), (.ref b131), (.ref a)]))
    refine Run.callS hS (Nat.le_refl _) X131 hx hZ (y := (⟨"java/lang/StringUTF16", "coderFromArrayLen", "([BI)B"⟩ : MethodName)) hown (hw _ (List.mem_of_getElem? (i := 63) rfl)) (hw _ (List.mem_of_getElem? (i := 64) rfl)) (hw _ (List.mem_of_getElem? (i := 39) rfl)) (hw _ (List.mem_of_getElem? (i := 65) rfl)) (by decide) (W := 1) (rmCo_2L l Z a0 hw b131 k131 c0 c1 T131.heap n0 (Nat.le_trans Z0 K131.1) vv) rfl (by decide) (by decide) (by decide) (by decide) (fun _ _ => trivial) (g := (mkF m 45 #[.val (.ref a), .val (.ref ar), .val (.int (0 : Int32)), .val (.int (2 : Int32)), .val .null, .val (.ref b131)] [(.int (2 : Int32)), (.ref b131), (.ref a)])) rfl (by rw [hml]; rfl) (argsL := [(.ref b131), (.int (2 : Int32))]) (rest := [(.ref a)]) (lenOf pd_6 rfl) rfl (by show 2 * 0 + _ ≤ _; exact Nat.le_of_eq rfl) (hb hby d3_45) ?_
    intro v132 T132 L132 X132 hS hZ hown hV132 hQ132
    obtain ⟨rfl, Nq132, he132⟩ := hQ132
    have N132 := Fr.app N131 Nq132
    have e132 : T132.heap = T131.heap := he132
    show Run p e below s _ _ _ (T132.setTop (mkF m 48 #[.val (.ref a), .val (.ref ar), .val (.int (0 : Int32)), .val (.int (2 : Int32)), .val .null, .val (.ref b131)] [(.int (0 : Int32)), (.ref a)]))
    have f133 := (E_a.keep Kc131)
    have f134 := (FCo.keep Kc131 nin0)
    obtain ⟨T135, h135, X135, e135, W135, st135⟩ := putFN X132 hx hZ hown (hw _ (List.mem_of_getElem? (i := 26) rfl)) Via.refl e132 f134 f133 (Or.inr ⟨(hw _ (List.mem_of_getElem? (i := 22) rfl)), rfl, hnm⟩) (hw _ (List.mem_of_getElem? (i := 6) rfl)) (ty := .byte) (v' := (.int (nar .byte (0 : Int32)))) (by decide) rfl (fits_nar_byte _) (g := (mkF m 48 #[.val (.ref a), .val (.ref ar), .val (.int (0 : Int32)), .val (.int (2 : Int32)), .val .null, .val (.ref b131)] [(.int (0 : Int32)), (.ref a)])) rfl rfl (hb hby d3_48)
    refine Run.pre st135 ?_
    have Fw135 := f134.same W135
    have K135 : Keep h0 h135 [a] := K131.wr W135 (Or.inl (by simp))
    have N135 := Fr.snoc X135 N132 g_a
    show Run p e below s _ _ _ (T135.setTop (mkF m 51 #[.val (.ref a), .val (.ref ar), .val (.int (0 : Int32)), .val (.int (2 : Int32)), .val .null, .val (.ref b131)] []))
    refine Run.pre (fun _ k => XS.aloadN X135.here hx rfl (hb hby d3_51) rfl rfl k) ?_
    show Run p e below s _ _ _ (T135.setTop (mkF m 52 #[.val (.ref a), .val (.ref ar), .val (.int (0 : Int32)), .val (.int (2 : Int32)), .val .null, .val (.ref b131)] [(.ref a)]))
    refine Run.pre (fun _ k => XS.aload X135.here hx rfl (hb hby d3_52) rfl rfl k) ?_
    show Run p e below s _ _ _ (T135.setTop (mkF m 54 #[.val (.ref a), .val (.ref ar), .val (.int (0 : Int32)), .val (.int (2 : Int32)), .val .null, .val (.ref b131)] [(.ref b131), (.ref a)]))
    have f136 := (f133.wr W135)
    have f137 := ((FV.keep Kc131 nin0).other W135 (Or.inr (slot_ne (Or.inr (hw _ (List.mem_of_getElem? (i := 21) rfl))) (Or.inr (hw _ (List.mem_of_getElem? (i := 22) rfl))) (by decide) (t := (.array .byte)) (t' := .byte) (by decide) (by decide))))
    obtain ⟨T138, h138, X138, e138, W138, st138⟩ := putF X135 hx hZ hown (host := "") (Or.inl (hw _ (List.mem_of_getElem? (i := 25) rfl))) Via.refl e135 f137 f136 (Or.inr ⟨(hw _ (List.mem_of_getElem? (i := 21) rfl)), rfl, hnm⟩) (hw _ (List.mem_of_getElem? (i := 6) rfl)) (ty := (.array .byte)) (by decide) rfl rfl (g := (mkF m 54 #[.val (.ref a), .val (.ref ar), .val (.int (0 : Int32)), .val (.int (2 : Int32)), .val .null, .val (.ref b131)] [(.ref b131), (.ref a)])) rfl rfl (hb hby d3_54)
    refine Run.pre st138 ?_
    have Fw138 := f137.same W138
    have K138 : Keep h0 h138 [a] := K135.wr W138 (Or.inl (by simp))
    have N138 := Fr.snoc X138 N135 g_a
    show Run p e below s _ _ _ (T138.setTop (mkF m 57 #[.val (.ref a), .val (.ref ar), .val (.int (0 : Int32)), .val (.int (2 : Int32)), .val .null, .val (.ref b131)] []))
    have f139 := (Fw135.other W138 (Or.inr (slot_ne (Or.inr (hw _ (List.mem_of_getElem? (i := 22) rfl))) (Or.inr (hw _ (List.mem_of_getElem? (i := 21) rfl))) (by decide) (t := .byte) (t' := (.array .byte)) (by decide) (by decide))))
    have f140 := ((vv.other W135 (Ne.symm (Nat.ne_of_lt (Nat.lt_of_lt_of_le E_a.lt sz131)))).other W138 (Ne.symm (Nat.ne_of_lt (Nat.lt_of_lt_of_le E_a.lt sz131))))
    exact Run.retV hS (by first | exact Nat.le_refl _ | (rw [e138]; exact (Nat.le_trans (Nat.le_trans (Nat.le_of_eq (congrArg Array.size e132)) (Keep.of_wr W135).1) (Keep.of_wr W138).1))) X138 hx hret hlk (hb hby d3_57) (by first | (rw [e138]; exact ⟨b131, k131, rfl, N138, K138, sz_b131, Fw138, Or.inl ⟨f139, hl, f140⟩⟩) | exact ⟨b131, k131, rfl, N138, K138, sz_b131, Fw138, Or.inl ⟨f139, hl, f140⟩⟩) (by decide) (by decide)
  · skip
    show Run p e below s _ _ _ (T131.setTop (mkF m 39 #[.val (.ref a), .val (.ref ar), .val (.int (0 : Int32)), .val (.int (2 : Int32)), .val .null, .unset] [(.ref b131)]))
    refine Run.pre (fun _ k => XS.astore X131.here hx rfl (hb hby d3_39) rfl rfl (l' := #[.val (.ref a), .val (.ref ar), .val (.int (0 : Int32)), .val (.int (2 : Int32)), .val .null, .val (.ref b131)]) rfl k) ?_
    show Run p e below s _ _ _ (T131.setTop (mkF m 41 #[.val (.ref a), .val (.ref ar), .val (.int (0 : Int32)), .val (.int (2 : Int32)), .val .null, .val (.ref b131)] []))
    refine Run.pre (fun _ k => XS.aloadN X131.here hx rfl (hb hby d3_41) rfl rfl k) ?_
    show Run p e below s _ _ _ (T131.setTop (mkF m 42 #[.val (.ref a), .val (.ref ar), .val (.int (0 : Int32)), .val (.int (2 : Int32)), .val .null, .val (.ref b131)] [(.ref a)]))
    refine Run.pre (fun _ k => XS.aload X131.here hx rfl (hb hby d3_42) rfl rfl k) ?_
    show Run p e below s _ _ _ (T131.setTop (mkF m 44 #[.val (.ref a), .val (.ref ar), .val (.int (0 : Int32)), .val (.int (2 : Int32)), .val .null, .val (.ref b131)] [(.ref b131), (.ref a)]))
    refine Run.pre (fun _ k => XS.iloadN X131.here hx rfl (hb hby d3_44) rfl  k) ?_
    show Run p e below s _ _ _ (T131.setTop (mkF m 45 #[.val (.ref a), .val (.ref ar), .val (.int (0 : Int32)), .val (.int (2 : Int32)), .val .null, .val (.ref b131)] [(.int (2 : Int32)), (.ref b131), (.ref a)]))
    refine Run.callS hS (Nat.le_refl _) X131 hx hZ (y := (⟨"java/lang/StringUTF16", "coderFromArrayLen", "([BI)B"⟩ : MethodName)) hown (hw _ (List.mem_of_getElem? (i := 63) rfl)) (hw _ (List.mem_of_getElem? (i := 64) rfl)) (hw _ (List.mem_of_getElem? (i := 39) rfl)) (hw _ (List.mem_of_getElem? (i := 65) rfl)) (by decide) (W := 1) (rmCo_2U l Z a0 hw b131 k131 c0 c1 T131.heap n0 (Nat.le_trans Z0 K131.1) vv) rfl (by decide) (by decide) (by decide) (by decide) (fun _ _ => trivial) (g := (mkF m 45 #[.val (.ref a), .val (.ref ar), .val (.int (0 : Int32)), .val (.int (2 : Int32)), .val .null, .val (.ref b131)] [(.int (2 : Int32)), (.ref b131), (.ref a)])) rfl (by rw [hml]; rfl) (argsL := [(.ref b131), (.int (2 : Int32))]) (rest := [(.ref a)]) (lenOf pd_6 rfl) rfl (by show 2 * 0 + _ ≤ _; exact Nat.le_of_eq rfl) (hb hby d3_45) ?_
    intro v141 T141 L141 X141 hS hZ hown hV141 hQ141
    obtain ⟨rfl, Nq141, he141⟩ := hQ141
    have N141 := Fr.app N131 Nq141
    have e141 : T141.heap = T131.heap := he141
    show Run p e below s _ _ _ (T141.setTop (mkF m 48 #[.val (.ref a), .val (.ref ar), .val (.int (0 : Int32)), .val (.int (2 : Int32)), .val .null, .val (.ref b131)] [(.int (1 : Int32)), (.ref a)]))
    have f142 := (E_a.keep Kc131)
    have f143 := (FCo.keep Kc131 nin0)
    obtain ⟨T144, h144, X144, e144, W144, st144⟩ := putFN X141 hx hZ hown (hw _ (List.mem_of_getElem? (i := 26) rfl)) Via.refl e141 f143 f142 (Or.inr ⟨(hw _ (List.mem_of_getElem? (i := 22) rfl)), rfl, hnm⟩) (hw _ (List.mem_of_getElem? (i := 6) rfl)) (ty := .byte) (v' := (.int (nar .byte (1 : Int32)))) (by decide) rfl (fits_nar_byte _) (g := (mkF m 48 #[.val (.ref a), .val (.ref ar), .val (.int (0 : Int32)), .val (.int (2 : Int32)), .val .null, .val (.ref b131)] [(.int (1 : Int32)), (.ref a)])) rfl rfl (hb hby d3_48)
    refine Run.pre st144 ?_
    have Fw144 := f143.same W144
    have K144 : Keep h0 h144 [a] := K131.wr W144 (Or.inl (by simp))
    have N144 := Fr.snoc X144 N141 g_a
    show Run p e below s _ _ _ (T144.setTop (mkF m 51 #[.val (.ref a), .val (.ref ar), .val (.int (0 : Int32)), .val (.int (2 : Int32)), .val .null, .val (.ref b131)] []))
    refine Run.pre (fun _ k => XS.aloadN X144.here hx rfl (hb hby d3_51) rfl rfl k) ?_
    show Run p e below s _ _ _ (T144.setTop (mkF m 52 #[.val (.ref a), .val (.ref ar), .val (.int (0 : Int32)), .val (.int (2 : Int32)), .val .null, .val (.ref b131)] [(.ref a)]))
    refine Run.pre (fun _ k => XS.aload X144.here hx rfl (hb hby d3_52) rfl rfl k) ?_
    show Run p e below s _ _ _ (T144.setTop (mkF m 54 #[.val (.ref a), .val (.ref ar), .val (.int (0 : Int32)), .val (.int (2 : Int32)), .val .null, .val (.ref b131)] [(.ref b131), (.ref a)]))
    have f145 := (f142.wr W144)
    have f146 := ((FV.keep Kc131 nin0).other W144 (Or.inr (slot_ne (Or.inr (hw _ (List.mem_of_getElem? (i := 21) rfl))) (Or.inr (hw _ (List.mem_of_getElem? (i := 22) rfl))) (by decide) (t := (.array .byte)) (t' := .byte) (by decide) (by decide))))
    obtain ⟨T147, h147, X147, e147, W147, st147⟩ := putF X144 hx hZ hown (host := "") (Or.inl (hw _ (List.mem_of_getElem? (i := 25) rfl))) Via.refl e144 f146 f145 (Or.inr ⟨(hw _ (List.mem_of_getElem? (i := 21) rfl)), rfl, hnm⟩) (hw _ (List.mem_of_getElem? (i := 6) rfl)) (ty := (.array .byte)) (by decide) rfl rfl (g := (mkF m 54 #[.val (.ref a), .val (.ref ar), .val (.int (0 : Int32)), .val (.int (2 : Int32)), .val .null, .val (.ref b131)] [(.ref b131), (.ref a)])) rfl rfl (hb hby d3_54)
    refine Run.pre st147 ?_
    have Fw147 := f146.same W147
    have K147 : Keep h0 h147 [a] := K144.wr W147 (Or.inl (by simp))
    have N147 := Fr.snoc X147 N144 g_a
    show Run p e below s _ _ _ (T147.setTop (mkF m 57 #[.val (.ref a), .val (.ref ar), .val (.int (0 : Int32)), .val (.int (2 : Int32)), .val .null, .val (.ref b131)] []))
    have f148 := (Fw144.other W147 (Or.inr (slot_ne (Or.inr (hw _ (List.mem_of_getElem? (i := 22) rfl))) (Or.inr (hw _ (List.mem_of_getElem? (i := 21) rfl))) (by decide) (t := .byte) (t' := (.array .byte)) (by decide) (by decide))))
    have f149 := ((vv.other W144 (Ne.symm (Nat.ne_of_lt (Nat.lt_of_lt_of_le E_a.lt sz131)))).other W147 (Ne.symm (Nat.ne_of_lt (Nat.lt_of_lt_of_le E_a.lt sz131))))
    exact Run.retV hS (by first | exact Nat.le_refl _ | (rw [e147]; exact (Nat.le_trans (Nat.le_trans (Nat.le_of_eq (congrArg Array.size e141)) (Keep.of_wr W144).1) (Keep.of_wr W147).1))) X147 hx hret hlk (hb hby d3_57) (by first | (rw [e147]; exact ⟨b131, k131, rfl, N147, K147, sz_b131, Fw147, Or.inr ⟨f148, hl, f149⟩⟩) | exact ⟨b131, k131, rfl, N147, K147, sz_b131, Fw147, Or.inr ⟨f148, hl, f149⟩⟩) (by decide) (by decide)
set_option maxRecDepth 65536 in
set_option maxHeartbeats 40000000 in
theorem rmI_2 (l : Launch) (Z : State) (a0 : Array Value) (hw : ∀ d ∈ tables_1, d.before a0 Z = true) (a : Addr) (ar : Addr) (kc : ClassId) (c0 : Int32) (c1 : Int32) (cs : Int32) (h0 : Heap) (n0 : Nat) (Z0 : n0 ≤ h0.size) (OL : Old Z n0 h0) (SC : Sta Z Z.heap "java/lang/String" "COMPACT_STRINGS" "Z" (.int cs)) (hcs : ¬ cs = 0) (SA : Sta Z Z.heap "java/lang/StringUTF16" "$assertionsDisabled" "Z" (.int 1)) (SH : Sta Z Z.heap "java/lang/StringUTF16" "HI_BYTE_SHIFT" "I" (.int 0)) (SL : Sta Z Z.heap "java/lang/StringUTF16" "LO_BYTE_SHIFT" "I" (.int 8)) (AC : Arv Z h0 ar kc .char 2 [(.int c0), (.int c1)] (.int 0)) (E_a : Exa Z h0 a "java/lang/String") (FV : Fld Z h0 a "java/lang/String" "value" "[B" .null) (FCo : Fld Z h0 a "java/lang/String" "coder" "B" (.int 0)) (g_a : n0 ≤ a) (nar_ : ar ≠ a) (w0 : nar .char c0 = c0) (w1 : nar .char c1 = c1) :
    Con l (⟨"java/lang/String", "<init>", "([C)V"⟩ : MethodName) jdk_42_method_3_code 2 none ({ frames := 5, cells := 2, slots := 6, locals := 74 } : Room) Z #[(.ref a), (.ref ar)] h0 (fun _ => True) (fun v h L vm => ∃ b : Addr, ∃ k : ClassId, v = none ∧ Fr n0 L ∧ Keep h0 h [a] ∧ h0.size ≤ b ∧ Fld Z h a "java/lang/String" "value" "[B" (.ref b) ∧ (Fld Z h a "java/lang/String" "coder" "B" (.int 0) ∧ (¬ (255 : Int32) < c0 ∧ ¬ (255 : Int32) < c1) ∧ Arv Z h b k .byte 2 [(.int (nar .byte (c0.toInt8.toInt32))), (.int (nar .byte (c1.toInt8.toInt32)))] (.int 0) ∨ Fld Z h a "java/lang/String" "coder" "B" (.int 1) ∧ (¬ (¬ (255 : Int32) < c0 ∧ ¬ (255 : Int32) < c1)) ∧ Arv Z h b k .byte 4 [(.int (own_b0 c0)), (.int (own_b1 c0)), (.int (own_b0 c1)), (.int (own_b1 c1))] (.int 0))) := by
  refine Con.mk (plainFor_of_name pn_2) (fun m => show entryFrame m #[(.ref a), (.ref ar)] 2 = mkF m 0 #[.val (.ref a), .val (.ref ar)] [] by first | (simp [entryFrame, mkF, argsToLocals, Value.category]; done) | rfl) ?_
  intro p e s m below meth c s₁ vm0 hx hby hml hown hnm hret hlk hZ X0 e0 hS hs0 hP0
  have N0 := Fr.nil n0
  show Run p e below s _ _ _ (s₁.setTop (mkF m 0 #[.val (.ref a), .val (.ref ar)] []))
  refine Run.pre (fun _ k => XS.aloadN X0.here hx rfl (hb hby d2_0) rfl rfl k) ?_
  show Run p e below s _ _ _ (s₁.setTop (mkF m 1 #[.val (.ref a), .val (.ref ar)] [(.ref a)]))
  refine Run.pre (fun _ k => XS.aloadN X0.here hx rfl (hb hby d2_1) rfl rfl k) ?_
  show Run p e below s _ _ _ (s₁.setTop (mkF m 2 #[.val (.ref a), .val (.ref ar)] [(.ref ar), (.ref a)]))
  refine Run.pre (fun _ k => XS.iconst X0.here hx rfl (hb hby d2_2) k) ?_
  show Run p e below s _ _ _ (s₁.setTop (mkF m 3 #[.val (.ref a), .val (.ref ar)] [(.int (0 : Int32)), (.ref ar), (.ref a)]))
  refine Run.pre (fun _ k => XS.aloadN X0.here hx rfl (hb hby d2_3) rfl rfl k) ?_
  show Run p e below s _ _ _ (s₁.setTop (mkF m 4 #[.val (.ref a), .val (.ref ar)] [(.ref ar), (.int (0 : Int32)), (.ref ar), (.ref a)]))
  obtain ⟨c150, Ar150, -, S150, N150, -, -⟩ := id AC
  refine Run.pre (X0.arraylength hx (by rw [e0]; exact Ar150.1) (State.isArrayOf_alike hZ.alike Ar150.2.1) (g := (mkF m 4 #[.val (.ref a), .val (.ref ar)] [(.ref ar), (.int (0 : Int32)), (.ref ar), (.ref a)])) rfl rfl (hb hby d2_4)) ?_
  rw [len_of S150 N150]
  show Run p e below s _ _ _ (s₁.setTop (mkF m 5 #[.val (.ref a), .val (.ref ar)] [(.int (2 : Int32)), (.int (0 : Int32)), (.ref ar), (.ref a)]))
  refine Run.pre (fun _ k => XS.aconstNull X0.here hx rfl (hb hby d2_5) k) ?_
  show Run p e below s _ _ _ (s₁.setTop (mkF m 6 #[.val (.ref a), .val (.ref ar)] [.null, (.int (2 : Int32)), (.int (0 : Int32)), (.ref ar), (.ref a)]))
  refine Run.callI hS (by first | exact Nat.le_refl _ | (rw [e0]; exact (Nat.zero_le _))) X0 hx hZ (y := (⟨"java/lang/String", "<init>", "([CIILjava/lang/Void;)V"⟩ : MethodName)) rfl hown (hw _ (List.mem_of_getElem? (i := 12) rfl)) (hw _ (List.mem_of_getElem? (i := 13) rfl)) (hw _ (List.mem_of_getElem? (i := 15) rfl)) (hw _ (List.mem_of_getElem? (i := 7) rfl)) (by decide) (a := a) (W := 0) (rmI4_2 l Z a0 hw a ar kc c0 c1 cs h0 n0 (Nat.le_trans Z0 (Keep.refl h0 [a]).1) OL SC hcs SA SH SL AC E_a FV FCo g_a nar_ w0 w1) e0 (by decide) (by decide) (by decide) (by decide) (fun _ _ => trivial) (g := (mkF m 6 #[.val (.ref a), .val (.ref ar)] [.null, (.int (2 : Int32)), (.int (0 : Int32)), (.ref ar), (.ref a)])) rfl (by rw [hml]; rfl) (argsL := [(.ref ar), (.int (0 : Int32)), (.int (2 : Int32)), .null]) (rest := []) (lenOf pd_7 rfl) rfl (by show 2 * 0 + _ ≤ _; exact Nat.le_of_eq rfl) (hb hby d2_6) ?_
  intro v151 T151 L151 X151 hS hZ hown hV151 hQ151
  obtain ⟨b151, k151, rfl, Nq151, Kc151, sz151, fv151, dq151⟩ := hQ151
  have N151 := Fr.app N0 Nq151
  have K151 : Keep h0 T151.heap [a] := (Keep.refl h0 [a]).trans Kc151 (allS (Or.inl (by simp)) all0)
  show Run p e below s _ _ _ (T151.setTop (mkF m 9 #[.val (.ref a), .val (.ref ar)] []))
  exact Run.retV hS (Nat.le_refl _) X151 hx hret hlk (hb hby d2_9) ⟨b151, k151, rfl, N151, K151, sz151, fv151, dq151⟩ (by decide) (by decide)
set_option maxRecDepth 65536 in
set_option maxHeartbeats 40000000 in
theorem rmC2_3_0 (l : Launch) (Z : State) (a0 : Array Value) (hw : ∀ d ∈ tables_1, d.before a0 Z = true) (ar : Addr) (ds : Addr) (kc : ClassId) (kb : ClassId) (c0 : Int32) (c1 : Int32) (c2 : Int32) (h0 : Heap) (n0 : Nat) (Z0 : n0 ≤ h0.size) (AC : Arv Z h0 ar kc .char 3 [(.int c0), (.int c1), (.int c2)] (.int 0)) (AB : Arv Z h0 ds kb .byte 3 [(.int (0 : Int32)), (.int (0 : Int32)), (.int (0 : Int32))] (.int 0)) (nad : ar ≠ ds) (g_ds : n0 ≤ ds) (q0 : (255 : Int32) < c0) :
    Con l (⟨"java/lang/StringUTF16", "compress", "([CI[BII)I"⟩ : MethodName) jdk_52_method_21_code 7 (some .int) ({ frames := 0, cells := 0, slots := 0, locals := 0 } : Room) Z #[(.ref ar), (.int (0 : Int32)), (.ref ds), (.int (0 : Int32)), (.int (3 : Int32))] h0 (fun _ => True) (fun v h L vm => v = some (.int 0) ∧ Fr n0 L ∧ Keep h0 h [ds]) := by
  refine Con.mk (plainFor_of_name pn_8) (fun m => show entryFrame m #[(.ref ar), (.int (0 : Int32)), (.ref ds), (.int (0 : Int32)), (.int (3 : Int32))] 7 = mkF m 0 #[.val (.ref ar), .val (.int (0 : Int32)), .val (.ref ds), .val (.int (0 : Int32)), .val (.int (3 : Int32)), .unset, .unset] [] by first | (simp [entryFrame, mkF, argsToLocals, Value.category]; done) | rfl) ?_
  intro p e s m below meth c s₁ vm0 hx hby hml hown hnm hret hlk hZ X0 e0 hS hs0 hP0
  have N0 := Fr.nil n0
  show Run p e below s _ _ _ (s₁.setTop (mkF m 0 #[.val (.ref ar), .val (.int (0 : Int32)), .val (.ref ds), .val (.int (0 : Int32)), .val (.int (3 : Int32)), .unset, .unset] []))
  refine Run.pre (fun _ k => XS.iconst X0.here hx rfl (hb hby d8_0) k) ?_
  show Run p e below s _ _ _ (s₁.setTop (mkF m 1 #[.val (.ref ar), .val (.int (0 : Int32)), .val (.ref ds), .val (.int (0 : Int32)), .val (.int (3 : Int32)), .unset, .unset] [(.int (0 : Int32))]))
  refine Run.pre (fun _ k => XS.istore X0.here hx rfl (hb hby d8_1) rfl (l' := #[.val (.ref ar), .val (.int (0 : Int32)), .val (.ref ds), .val (.int (0 : Int32)), .val (.int (3 : Int32)), .val (.int (0 : Int32)), .unset]) rfl k) ?_
  show Run p e below s _ _ _ (s₁.setTop (mkF m 3 #[.val (.ref ar), .val (.int (0 : Int32)), .val (.ref ds), .val (.int (0 : Int32)), .val (.int (3 : Int32)), .val (.int (0 : Int32)), .unset] []))
  refine Run.pre (fun _ k => XS.iload X0.here hx rfl (hb hby d8_3) rfl  k) ?_
  show Run p e below s _ _ _ (s₁.setTop (mkF m 5 #[.val (.ref ar), .val (.int (0 : Int32)), .val (.ref ds), .val (.int (0 : Int32)), .val (.int (3 : Int32)), .val (.int (0 : Int32)), .unset] [(.int (0 : Int32))]))
  refine Run.pre (fun _ k => XS.iload X0.here hx rfl (hb hby d8_5) rfl  k) ?_
  show Run p e below s _ _ _ (s₁.setTop (mkF m 7 #[.val (.ref ar), .val (.int (0 : Int32)), .val (.ref ds), .val (.int (0 : Int32)), .val (.int (3 : Int32)), .val (.int (0 : Int32)), .unset] [(.int (3 : Int32)), (.int (0 : Int32))]))
  refine Run.pre (fun _ k => XS.icmpNo X0.here hx rfl (hb hby d8_7) rfl (tlt ((by decide) : (0 : Int32) < (3 : Int32))).2.1 k) ?_
  show Run p e below s _ _ _ (s₁.setTop (mkF m 10 #[.val (.ref ar), .val (.int (0 : Int32)), .val (.ref ds), .val (.int (0 : Int32)), .val (.int (3 : Int32)), .val (.int (0 : Int32)), .unset] []))
  refine Run.pre (fun _ k => XS.aloadN X0.here hx rfl (hb hby d8_10) rfl rfl k) ?_
  show Run p e below s _ _ _ (s₁.setTop (mkF m 11 #[.val (.ref ar), .val (.int (0 : Int32)), .val (.ref ds), .val (.int (0 : Int32)), .val (.int (3 : Int32)), .val (.int (0 : Int32)), .unset] [(.ref ar)]))
  refine Run.pre (fun _ k => XS.iloadN X0.here hx rfl (hb hby d8_11) rfl  k) ?_
  show Run p e below s _ _ _ (s₁.setTop (mkF m 12 #[.val (.ref ar), .val (.int (0 : Int32)), .val (.ref ds), .val (.int (0 : Int32)), .val (.int (3 : Int32)), .val (.int (0 : Int32)), .unset] [(.int (0 : Int32)), (.ref ar)]))
  obtain ⟨c152, Ar152, -, S152, N152, H152, -⟩ := id AC
  have hin152 : ¬ ((0 : Int32) < 0 ∨ c152.slots.size ≤ ((0 : Int32)).toNatClampNeg) := inb_of S152 ⟨by decide, by decide⟩
  refine Run.pre (X0.caload hx (j := (0 : Int32)) (v := (.int c0)) (by rw [e0]; exact Ar152.1) (State.isArrayOf_alike hZ.alike Ar152.2.1) Ar152.2.2 hin152 (H152.at hin152 rfl) (g := (mkF m 12 #[.val (.ref ar), .val (.int (0 : Int32)), .val (.ref ds), .val (.int (0 : Int32)), .val (.int (3 : Int32)), .val (.int (0 : Int32)), .unset] [(.int (0 : Int32)), (.ref ar)])) rfl rfl (hb hby d8_12)) ?_
  show Run p e below s _ _ _ (s₁.setTop (mkF m 13 #[.val (.ref ar), .val (.int (0 : Int32)), .val (.ref ds), .val (.int (0 : Int32)), .val (.int (3 : Int32)), .val (.int (0 : Int32)), .unset] [(.int c0)]))
  refine Run.pre (fun _ k => XS.istore X0.here hx rfl (hb hby d8_13) rfl (l' := #[.val (.ref ar), .val (.int (0 : Int32)), .val (.ref ds), .val (.int (0 : Int32)), .val (.int (3 : Int32)), .val (.int (0 : Int32)), .val (.int c0)]) rfl k) ?_
  show Run p e below s _ _ _ (s₁.setTop (mkF m 15 #[.val (.ref ar), .val (.int (0 : Int32)), .val (.ref ds), .val (.int (0 : Int32)), .val (.int (3 : Int32)), .val (.int (0 : Int32)), .val (.int c0)] []))
  refine Run.pre (fun _ k => XS.iload X0.here hx rfl (hb hby d8_15) rfl  k) ?_
  show Run p e below s _ _ _ (s₁.setTop (mkF m 17 #[.val (.ref ar), .val (.int (0 : Int32)), .val (.ref ds), .val (.int (0 : Int32)), .val (.int (3 : Int32)), .val (.int (0 : Int32)), .val (.int c0)] [(.int c0)]))
  refine Run.pre (fun _ k => XS.sipush X0.here hx rfl (hb hby d8_17) k) ?_
  show Run p e below s _ _ _ (s₁.setTop (mkF m 20 #[.val (.ref ar), .val (.int (0 : Int32)), .val (.ref ds), .val (.int (0 : Int32)), .val (.int (3 : Int32)), .val (.int (0 : Int32)), .val (.int c0)] [(.int (255 : Int32)), (.int c0)]))
  refine Run.pre (fun _ k => XS.icmpNo X0.here hx rfl (hb hby d8_20) rfl (tlt (q0 : (255 : Int32) < c0)).2.2.2 k) ?_
  show Run p e below s _ _ _ (s₁.setTop (mkF m 23 #[.val (.ref ar), .val (.int (0 : Int32)), .val (.ref ds), .val (.int (0 : Int32)), .val (.int (3 : Int32)), .val (.int (0 : Int32)), .val (.int c0)] []))
  refine Run.pre (fun _ k => XS.iload X0.here hx rfl (hb hby d8_23) rfl  k) ?_
  show Run p e below s _ _ _ (s₁.setTop (mkF m 25 #[.val (.ref ar), .val (.int (0 : Int32)), .val (.ref ds), .val (.int (0 : Int32)), .val (.int (3 : Int32)), .val (.int (0 : Int32)), .val (.int c0)] [(.int (0 : Int32))]))
  exact Run.retI hS (by first | exact Nat.le_refl _ | (rw [e0]; exact (Nat.zero_le _))) X0 hx hret hlk (hb hby d8_25) (by first | (rw [e0]; exact ⟨rfl, N0, (Keep.refl h0 [ds])⟩) | exact ⟨rfl, N0, (Keep.refl h0 [ds])⟩) (by decide) (by decide)
set_option maxRecDepth 65536 in
set_option maxHeartbeats 40000000 in
theorem rmC2_3_1 (l : Launch) (Z : State) (a0 : Array Value) (hw : ∀ d ∈ tables_1, d.before a0 Z = true) (ar : Addr) (ds : Addr) (kc : ClassId) (kb : ClassId) (c0 : Int32) (c1 : Int32) (c2 : Int32) (h0 : Heap) (n0 : Nat) (Z0 : n0 ≤ h0.size) (AC : Arv Z h0 ar kc .char 3 [(.int c0), (.int c1), (.int c2)] (.int 0)) (AB : Arv Z h0 ds kb .byte 3 [(.int (0 : Int32)), (.int (0 : Int32)), (.int (0 : Int32))] (.int 0)) (nad : ar ≠ ds) (g_ds : n0 ≤ ds) (q0 : ¬ (255 : Int32) < c0) (q1 : (255 : Int32) < c1) :
    Con l (⟨"java/lang/StringUTF16", "compress", "([CI[BII)I"⟩ : MethodName) jdk_52_method_21_code 7 (some .int) ({ frames := 0, cells := 0, slots := 0, locals := 0 } : Room) Z #[(.ref ar), (.int (0 : Int32)), (.ref ds), (.int (0 : Int32)), (.int (3 : Int32))] h0 (fun _ => True) (fun v h L vm => v = some (.int 1) ∧ Fr n0 L ∧ Keep h0 h [ds]) := by
  refine Con.mk (plainFor_of_name pn_8) (fun m => show entryFrame m #[(.ref ar), (.int (0 : Int32)), (.ref ds), (.int (0 : Int32)), (.int (3 : Int32))] 7 = mkF m 0 #[.val (.ref ar), .val (.int (0 : Int32)), .val (.ref ds), .val (.int (0 : Int32)), .val (.int (3 : Int32)), .unset, .unset] [] by first | (simp [entryFrame, mkF, argsToLocals, Value.category]; done) | rfl) ?_
  intro p e s m below meth c s₁ vm0 hx hby hml hown hnm hret hlk hZ X0 e0 hS hs0 hP0
  have N0 := Fr.nil n0
  show Run p e below s _ _ _ (s₁.setTop (mkF m 0 #[.val (.ref ar), .val (.int (0 : Int32)), .val (.ref ds), .val (.int (0 : Int32)), .val (.int (3 : Int32)), .unset, .unset] []))
  refine Run.pre (fun _ k => XS.iconst X0.here hx rfl (hb hby d8_0) k) ?_
  show Run p e below s _ _ _ (s₁.setTop (mkF m 1 #[.val (.ref ar), .val (.int (0 : Int32)), .val (.ref ds), .val (.int (0 : Int32)), .val (.int (3 : Int32)), .unset, .unset] [(.int (0 : Int32))]))
  refine Run.pre (fun _ k => XS.istore X0.here hx rfl (hb hby d8_1) rfl (l' := #[.val (.ref ar), .val (.int (0 : Int32)), .val (.ref ds), .val (.int (0 : Int32)), .val (.int (3 : Int32)), .val (.int (0 : Int32)), .unset]) rfl k) ?_
  show Run p e below s _ _ _ (s₁.setTop (mkF m 3 #[.val (.ref ar), .val (.int (0 : Int32)), .val (.ref ds), .val (.int (0 : Int32)), .val (.int (3 : Int32)), .val (.int (0 : Int32)), .unset] []))
  refine Run.pre (fun _ k => XS.iload X0.here hx rfl (hb hby d8_3) rfl  k) ?_
  show Run p e below s _ _ _ (s₁.setTop (mkF m 5 #[.val (.ref ar), .val (.int (0 : Int32)), .val (.ref ds), .val (.int (0 : Int32)), .val (.int (3 : Int32)), .val (.int (0 : Int32)), .unset] [(.int (0 : Int32))]))
  refine Run.pre (fun _ k => XS.iload X0.here hx rfl (hb hby d8_5) rfl  k) ?_
  show Run p e below s _ _ _ (s₁.setTop (mkF m 7 #[.val (.ref ar), .val (.int (0 : Int32)), .val (.ref ds), .val (.int (0 : Int32)), .val (.int (3 : Int32)), .val (.int (0 : Int32)), .unset] [(.int (3 : Int32)), (.int (0 : Int32))]))
  refine Run.pre (fun _ k => XS.icmpNo X0.here hx rfl (hb hby d8_7) rfl (tlt ((by decide) : (0 : Int32) < (3 : Int32))).2.1 k) ?_
  show Run p e below s _ _ _ (s₁.setTop (mkF m 10 #[.val (.ref ar), .val (.int (0 : Int32)), .val (.ref ds), .val (.int (0 : Int32)), .val (.int (3 : Int32)), .val (.int (0 : Int32)), .unset] []))
  refine Run.pre (fun _ k => XS.aloadN X0.here hx rfl (hb hby d8_10) rfl rfl k) ?_
  show Run p e below s _ _ _ (s₁.setTop (mkF m 11 #[.val (.ref ar), .val (.int (0 : Int32)), .val (.ref ds), .val (.int (0 : Int32)), .val (.int (3 : Int32)), .val (.int (0 : Int32)), .unset] [(.ref ar)]))
  refine Run.pre (fun _ k => XS.iloadN X0.here hx rfl (hb hby d8_11) rfl  k) ?_
  show Run p e below s _ _ _ (s₁.setTop (mkF m 12 #[.val (.ref ar), .val (.int (0 : Int32)), .val (.ref ds), .val (.int (0 : Int32)), .val (.int (3 : Int32)), .val (.int (0 : Int32)), .unset] [(.int (0 : Int32)), (.ref ar)]))
  obtain ⟨c153, Ar153, -, S153, N153, H153, -⟩ := id AC
  have hin153 : ¬ ((0 : Int32) < 0 ∨ c153.slots.size ≤ ((0 : Int32)).toNatClampNeg) := inb_of S153 ⟨by decide, by decide⟩
  refine Run.pre (X0.caload hx (j := (0 : Int32)) (v := (.int c0)) (by rw [e0]; exact Ar153.1) (State.isArrayOf_alike hZ.alike Ar153.2.1) Ar153.2.2 hin153 (H153.at hin153 rfl) (g := (mkF m 12 #[.val (.ref ar), .val (.int (0 : Int32)), .val (.ref ds), .val (.int (0 : Int32)), .val (.int (3 : Int32)), .val (.int (0 : Int32)), .unset] [(.int (0 : Int32)), (.ref ar)])) rfl rfl (hb hby d8_12)) ?_
  show Run p e below s _ _ _ (s₁.setTop (mkF m 13 #[.val (.ref ar), .val (.int (0 : Int32)), .val (.ref ds), .val (.int (0 : Int32)), .val (.int (3 : Int32)), .val (.int (0 : Int32)), .unset] [(.int c0)]))
  refine Run.pre (fun _ k => XS.istore X0.here hx rfl (hb hby d8_13) rfl (l' := #[.val (.ref ar), .val (.int (0 : Int32)), .val (.ref ds), .val (.int (0 : Int32)), .val (.int (3 : Int32)), .val (.int (0 : Int32)), .val (.int c0)]) rfl k) ?_
  show Run p e below s _ _ _ (s₁.setTop (mkF m 15 #[.val (.ref ar), .val (.int (0 : Int32)), .val (.ref ds), .val (.int (0 : Int32)), .val (.int (3 : Int32)), .val (.int (0 : Int32)), .val (.int c0)] []))
  refine Run.pre (fun _ k => XS.iload X0.here hx rfl (hb hby d8_15) rfl  k) ?_
  show Run p e below s _ _ _ (s₁.setTop (mkF m 17 #[.val (.ref ar), .val (.int (0 : Int32)), .val (.ref ds), .val (.int (0 : Int32)), .val (.int (3 : Int32)), .val (.int (0 : Int32)), .val (.int c0)] [(.int c0)]))
  refine Run.pre (fun _ k => XS.sipush X0.here hx rfl (hb hby d8_17) k) ?_
  show Run p e below s _ _ _ (s₁.setTop (mkF m 20 #[.val (.ref ar), .val (.int (0 : Int32)), .val (.ref ds), .val (.int (0 : Int32)), .val (.int (3 : Int32)), .val (.int (0 : Int32)), .val (.int c0)] [(.int (255 : Int32)), (.int c0)]))
  refine Run.pre (fun _ k => XS.icmpYes X0.here hx rfl (pc0 := 20) (pc' := 26) rfl (hb hby d8_20) rfl (flt (q0 : ¬ ((255 : Int32) < c0))).2.2.2 (by decide) (by decide) k) ?_
  show Run p e below s _ _ _ (s₁.setTop (mkF m 26 #[.val (.ref ar), .val (.int (0 : Int32)), .val (.ref ds), .val (.int (0 : Int32)), .val (.int (3 : Int32)), .val (.int (0 : Int32)), .val (.int c0)] []))
  refine Run.pre (fun _ k => XS.aloadN X0.here hx rfl (hb hby d8_26) rfl rfl k) ?_
  show Run p e below s _ _ _ (s₁.setTop (mkF m 27 #[.val (.ref ar), .val (.int (0 : Int32)), .val (.ref ds), .val (.int (0 : Int32)), .val (.int (3 : Int32)), .val (.int (0 : Int32)), .val (.int c0)] [(.ref ds)]))
  refine Run.pre (fun _ k => XS.iloadN X0.here hx rfl (hb hby d8_27) rfl  k) ?_
  show Run p e below s _ _ _ (s₁.setTop (mkF m 28 #[.val (.ref ar), .val (.int (0 : Int32)), .val (.ref ds), .val (.int (0 : Int32)), .val (.int (3 : Int32)), .val (.int (0 : Int32)), .val (.int c0)] [(.int (0 : Int32)), (.ref ds)]))
  refine Run.pre (fun _ k => XS.iload X0.here hx rfl (hb hby d8_28) rfl  k) ?_
  show Run p e below s _ _ _ (s₁.setTop (mkF m 30 #[.val (.ref ar), .val (.int (0 : Int32)), .val (.ref ds), .val (.int (0 : Int32)), .val (.int (3 : Int32)), .val (.int (0 : Int32)), .val (.int c0)] [(.int c0), (.int (0 : Int32)), (.ref ds)]))
  refine Run.pre (fun _ k => XS.i2b X0.here hx rfl (hb hby d8_30) rfl k) ?_
  show Run p e below s _ _ _ (s₁.setTop (mkF m 31 #[.val (.ref ar), .val (.int (0 : Int32)), .val (.ref ds), .val (.int (0 : Int32)), .val (.int (3 : Int32)), .val (.int (0 : Int32)), .val (.int c0)] [(.int (c0.toInt8.toInt32)), (.int (0 : Int32)), (.ref ds)]))
  obtain ⟨c154, Ar154, q154, S154, N154, H154, G154⟩ := id AB
  have hin154 : ¬ ((0 : Int32) < 0 ∨ c154.slots.size ≤ ((0 : Int32)).toNatClampNeg) := inb_of S154 ⟨by decide, by decide⟩
  obtain ⟨T155, h155, X155, e155, W155, st155⟩ := stB X0 hx hZ e0 Ar154 (j := (0 : Int32)) hin154 (g := (mkF m 31 #[.val (.ref ar), .val (.int (0 : Int32)), .val (.ref ds), .val (.int (0 : Int32)), .val (.int (3 : Int32)), .val (.int (0 : Int32)), .val (.int c0)] [(.int (c0.toInt8.toInt32)), (.int (0 : Int32)), (.ref ds)])) rfl rfl (hb hby d8_31)
  refine Run.pre st155 ?_
  have V_ds_155 : Arv Z h155 ds kb .byte (3 : Int32) [(.int (nar .byte (c0.toInt8.toInt32))), (.int (0 : Int32)), (.int (0 : Int32))] (.int (0 : Int32)) := Arv.set Ar154 q154 S154 N154 H154 G154 (fits_nar_byte _) W155 0 rfl (Nat.le_of_ble_eq_true rfl)
  have K155 : Keep h0 h155 [ds] := (Keep.refl h0 [ds]).wr W155 (Or.inl (by simp))
  have N155 := Fr.snoc X155 N0 g_ds
  show Run p e below s _ _ _ (T155.setTop (mkF m 32 #[.val (.ref ar), .val (.int (0 : Int32)), .val (.ref ds), .val (.int (0 : Int32)), .val (.int (3 : Int32)), .val (.int (0 : Int32)), .val (.int c0)] []))
  refine Run.pre (fun _ k => XS.iinc X155.here hx rfl (hb hby d8_32) rfl (l' := #[.val (.ref ar), .val (.int (1 : Int32)), .val (.ref ds), .val (.int (0 : Int32)), .val (.int (3 : Int32)), .val (.int (0 : Int32)), .val (.int c0)]) rfl k) ?_
  show Run p e below s _ _ _ (T155.setTop (mkF m 35 #[.val (.ref ar), .val (.int (1 : Int32)), .val (.ref ds), .val (.int (0 : Int32)), .val (.int (3 : Int32)), .val (.int (0 : Int32)), .val (.int c0)] []))
  refine Run.pre (fun _ k => XS.iinc X155.here hx rfl (hb hby d8_35) rfl (l' := #[.val (.ref ar), .val (.int (1 : Int32)), .val (.ref ds), .val (.int (1 : Int32)), .val (.int (3 : Int32)), .val (.int (0 : Int32)), .val (.int c0)]) rfl k) ?_
  show Run p e below s _ _ _ (T155.setTop (mkF m 38 #[.val (.ref ar), .val (.int (1 : Int32)), .val (.ref ds), .val (.int (1 : Int32)), .val (.int (3 : Int32)), .val (.int (0 : Int32)), .val (.int c0)] []))
  refine Run.pre (fun _ k => XS.iinc X155.here hx rfl (hb hby d8_38) rfl (l' := #[.val (.ref ar), .val (.int (1 : Int32)), .val (.ref ds), .val (.int (1 : Int32)), .val (.int (3 : Int32)), .val (.int (1 : Int32)), .val (.int c0)]) rfl k) ?_
  show Run p e below s _ _ _ (T155.setTop (mkF m 41 #[.val (.ref ar), .val (.int (1 : Int32)), .val (.ref ds), .val (.int (1 : Int32)), .val (.int (3 : Int32)), .val (.int (1 : Int32)), .val (.int c0)] []))
  refine Run.pre (fun _ k => XS.goto X155.here hx rfl (pc0 := 41) (pc' := 3) rfl (hb hby d8_41) (by decide) (by decide) k) ?_
  show Run p e below s _ _ _ (T155.setTop (mkF m 3 #[.val (.ref ar), .val (.int (1 : Int32)), .val (.ref ds), .val (.int (1 : Int32)), .val (.int (3 : Int32)), .val (.int (1 : Int32)), .val (.int c0)] []))
  refine Run.pre (fun _ k => XS.iload X155.here hx rfl (hb hby d8_3) rfl  k) ?_
  show Run p e below s _ _ _ (T155.setTop (mkF m 5 #[.val (.ref ar), .val (.int (1 : Int32)), .val (.ref ds), .val (.int (1 : Int32)), .val (.int (3 : Int32)), .val (.int (1 : Int32)), .val (.int c0)] [(.int (1 : Int32))]))
  refine Run.pre (fun _ k => XS.iload X155.here hx rfl (hb hby d8_5) rfl  k) ?_
  show Run p e below s _ _ _ (T155.setTop (mkF m 7 #[.val (.ref ar), .val (.int (1 : Int32)), .val (.ref ds), .val (.int (1 : Int32)), .val (.int (3 : Int32)), .val (.int (1 : Int32)), .val (.int c0)] [(.int (3 : Int32)), (.int (1 : Int32))]))
  refine Run.pre (fun _ k => XS.icmpNo X155.here hx rfl (hb hby d8_7) rfl (tlt ((by decide) : (1 : Int32) < (3 : Int32))).2.1 k) ?_
  show Run p e below s _ _ _ (T155.setTop (mkF m 10 #[.val (.ref ar), .val (.int (1 : Int32)), .val (.ref ds), .val (.int (1 : Int32)), .val (.int (3 : Int32)), .val (.int (1 : Int32)), .val (.int c0)] []))
  refine Run.pre (fun _ k => XS.aloadN X155.here hx rfl (hb hby d8_10) rfl rfl k) ?_
  show Run p e below s _ _ _ (T155.setTop (mkF m 11 #[.val (.ref ar), .val (.int (1 : Int32)), .val (.ref ds), .val (.int (1 : Int32)), .val (.int (3 : Int32)), .val (.int (1 : Int32)), .val (.int c0)] [(.ref ar)]))
  refine Run.pre (fun _ k => XS.iloadN X155.here hx rfl (hb hby d8_11) rfl  k) ?_
  show Run p e below s _ _ _ (T155.setTop (mkF m 12 #[.val (.ref ar), .val (.int (1 : Int32)), .val (.ref ds), .val (.int (1 : Int32)), .val (.int (3 : Int32)), .val (.int (1 : Int32)), .val (.int c0)] [(.int (1 : Int32)), (.ref ar)]))
  have f156 := (AC.other W155 nad)
  obtain ⟨c157, Ar157, -, S157, N157, H157, -⟩ := id f156
  have hin157 : ¬ ((1 : Int32) < 0 ∨ c157.slots.size ≤ ((1 : Int32)).toNatClampNeg) := inb_of S157 ⟨by decide, by decide⟩
  refine Run.pre (X155.caload hx (j := (1 : Int32)) (v := (.int c1)) (by rw [e155]; exact Ar157.1) (State.isArrayOf_alike hZ.alike Ar157.2.1) Ar157.2.2 hin157 (H157.at hin157 rfl) (g := (mkF m 12 #[.val (.ref ar), .val (.int (1 : Int32)), .val (.ref ds), .val (.int (1 : Int32)), .val (.int (3 : Int32)), .val (.int (1 : Int32)), .val (.int c0)] [(.int (1 : Int32)), (.ref ar)])) rfl rfl (hb hby d8_12)) ?_
  show Run p e below s _ _ _ (T155.setTop (mkF m 13 #[.val (.ref ar), .val (.int (1 : Int32)), .val (.ref ds), .val (.int (1 : Int32)), .val (.int (3 : Int32)), .val (.int (1 : Int32)), .val (.int c0)] [(.int c1)]))
  refine Run.pre (fun _ k => XS.istore X155.here hx rfl (hb hby d8_13) rfl (l' := #[.val (.ref ar), .val (.int (1 : Int32)), .val (.ref ds), .val (.int (1 : Int32)), .val (.int (3 : Int32)), .val (.int (1 : Int32)), .val (.int c1)]) rfl k) ?_
  show Run p e below s _ _ _ (T155.setTop (mkF m 15 #[.val (.ref ar), .val (.int (1 : Int32)), .val (.ref ds), .val (.int (1 : Int32)), .val (.int (3 : Int32)), .val (.int (1 : Int32)), .val (.int c1)] []))
  refine Run.pre (fun _ k => XS.iload X155.here hx rfl (hb hby d8_15) rfl  k) ?_
  show Run p e below s _ _ _ (T155.setTop (mkF m 17 #[.val (.ref ar), .val (.int (1 : Int32)), .val (.ref ds), .val (.int (1 : Int32)), .val (.int (3 : Int32)), .val (.int (1 : Int32)), .val (.int c1)] [(.int c1)]))
  refine Run.pre (fun _ k => XS.sipush X155.here hx rfl (hb hby d8_17) k) ?_
  show Run p e below s _ _ _ (T155.setTop (mkF m 20 #[.val (.ref ar), .val (.int (1 : Int32)), .val (.ref ds), .val (.int (1 : Int32)), .val (.int (3 : Int32)), .val (.int (1 : Int32)), .val (.int c1)] [(.int (255 : Int32)), (.int c1)]))
  refine Run.pre (fun _ k => XS.icmpNo X155.here hx rfl (hb hby d8_20) rfl (tlt (q1 : (255 : Int32) < c1)).2.2.2 k) ?_
  show Run p e below s _ _ _ (T155.setTop (mkF m 23 #[.val (.ref ar), .val (.int (1 : Int32)), .val (.ref ds), .val (.int (1 : Int32)), .val (.int (3 : Int32)), .val (.int (1 : Int32)), .val (.int c1)] []))
  refine Run.pre (fun _ k => XS.iload X155.here hx rfl (hb hby d8_23) rfl  k) ?_
  show Run p e below s _ _ _ (T155.setTop (mkF m 25 #[.val (.ref ar), .val (.int (1 : Int32)), .val (.ref ds), .val (.int (1 : Int32)), .val (.int (3 : Int32)), .val (.int (1 : Int32)), .val (.int c1)] [(.int (1 : Int32))]))
  exact Run.retI hS (by first | exact Nat.le_refl _ | (rw [e155]; exact (Nat.le_trans (Nat.zero_le _) (Keep.of_wr W155).1))) X155 hx hret hlk (hb hby d8_25) (by first | (rw [e155]; exact ⟨rfl, N155, K155⟩) | exact ⟨rfl, N155, K155⟩) (by decide) (by decide)
set_option maxRecDepth 65536 in
set_option maxHeartbeats 40000000 in
theorem rmC2_3_2 (l : Launch) (Z : State) (a0 : Array Value) (hw : ∀ d ∈ tables_1, d.before a0 Z = true) (ar : Addr) (ds : Addr) (kc : ClassId) (kb : ClassId) (c0 : Int32) (c1 : Int32) (c2 : Int32) (h0 : Heap) (n0 : Nat) (Z0 : n0 ≤ h0.size) (AC : Arv Z h0 ar kc .char 3 [(.int c0), (.int c1), (.int c2)] (.int 0)) (AB : Arv Z h0 ds kb .byte 3 [(.int (0 : Int32)), (.int (0 : Int32)), (.int (0 : Int32))] (.int 0)) (nad : ar ≠ ds) (g_ds : n0 ≤ ds) (q0 : ¬ (255 : Int32) < c0) (q1 : ¬ (255 : Int32) < c1) (q2 : (255 : Int32) < c2) :
    Con l (⟨"java/lang/StringUTF16", "compress", "([CI[BII)I"⟩ : MethodName) jdk_52_method_21_code 7 (some .int) ({ frames := 0, cells := 0, slots := 0, locals := 0 } : Room) Z #[(.ref ar), (.int (0 : Int32)), (.ref ds), (.int (0 : Int32)), (.int (3 : Int32))] h0 (fun _ => True) (fun v h L vm => v = some (.int 2) ∧ Fr n0 L ∧ Keep h0 h [ds]) := by
  refine Con.mk (plainFor_of_name pn_8) (fun m => show entryFrame m #[(.ref ar), (.int (0 : Int32)), (.ref ds), (.int (0 : Int32)), (.int (3 : Int32))] 7 = mkF m 0 #[.val (.ref ar), .val (.int (0 : Int32)), .val (.ref ds), .val (.int (0 : Int32)), .val (.int (3 : Int32)), .unset, .unset] [] by first | (simp [entryFrame, mkF, argsToLocals, Value.category]; done) | rfl) ?_
  intro p e s m below meth c s₁ vm0 hx hby hml hown hnm hret hlk hZ X0 e0 hS hs0 hP0
  have N0 := Fr.nil n0
  show Run p e below s _ _ _ (s₁.setTop (mkF m 0 #[.val (.ref ar), .val (.int (0 : Int32)), .val (.ref ds), .val (.int (0 : Int32)), .val (.int (3 : Int32)), .unset, .unset] []))
  refine Run.pre (fun _ k => XS.iconst X0.here hx rfl (hb hby d8_0) k) ?_
  show Run p e below s _ _ _ (s₁.setTop (mkF m 1 #[.val (.ref ar), .val (.int (0 : Int32)), .val (.ref ds), .val (.int (0 : Int32)), .val (.int (3 : Int32)), .unset, .unset] [(.int (0 : Int32))]))
  refine Run.pre (fun _ k => XS.istore X0.here hx rfl (hb hby d8_1) rfl (l' := #[.val (.ref ar), .val (.int (0 : Int32)), .val (.ref ds), .val (.int (0 : Int32)), .val (.int (3 : Int32)), .val (.int (0 : Int32)), .unset]) rfl k) ?_
  show Run p e below s _ _ _ (s₁.setTop (mkF m 3 #[.val (.ref ar), .val (.int (0 : Int32)), .val (.ref ds), .val (.int (0 : Int32)), .val (.int (3 : Int32)), .val (.int (0 : Int32)), .unset] []))
  refine Run.pre (fun _ k => XS.iload X0.here hx rfl (hb hby d8_3) rfl  k) ?_
  show Run p e below s _ _ _ (s₁.setTop (mkF m 5 #[.val (.ref ar), .val (.int (0 : Int32)), .val (.ref ds), .val (.int (0 : Int32)), .val (.int (3 : Int32)), .val (.int (0 : Int32)), .unset] [(.int (0 : Int32))]))
  refine Run.pre (fun _ k => XS.iload X0.here hx rfl (hb hby d8_5) rfl  k) ?_
  show Run p e below s _ _ _ (s₁.setTop (mkF m 7 #[.val (.ref ar), .val (.int (0 : Int32)), .val (.ref ds), .val (.int (0 : Int32)), .val (.int (3 : Int32)), .val (.int (0 : Int32)), .unset] [(.int (3 : Int32)), (.int (0 : Int32))]))
  refine Run.pre (fun _ k => XS.icmpNo X0.here hx rfl (hb hby d8_7) rfl (tlt ((by decide) : (0 : Int32) < (3 : Int32))).2.1 k) ?_
  show Run p e below s _ _ _ (s₁.setTop (mkF m 10 #[.val (.ref ar), .val (.int (0 : Int32)), .val (.ref ds), .val (.int (0 : Int32)), .val (.int (3 : Int32)), .val (.int (0 : Int32)), .unset] []))
  refine Run.pre (fun _ k => XS.aloadN X0.here hx rfl (hb hby d8_10) rfl rfl k) ?_
  show Run p e below s _ _ _ (s₁.setTop (mkF m 11 #[.val (.ref ar), .val (.int (0 : Int32)), .val (.ref ds), .val (.int (0 : Int32)), .val (.int (3 : Int32)), .val (.int (0 : Int32)), .unset] [(.ref ar)]))
  refine Run.pre (fun _ k => XS.iloadN X0.here hx rfl (hb hby d8_11) rfl  k) ?_
  show Run p e below s _ _ _ (s₁.setTop (mkF m 12 #[.val (.ref ar), .val (.int (0 : Int32)), .val (.ref ds), .val (.int (0 : Int32)), .val (.int (3 : Int32)), .val (.int (0 : Int32)), .unset] [(.int (0 : Int32)), (.ref ar)]))
  obtain ⟨c158, Ar158, -, S158, N158, H158, -⟩ := id AC
  have hin158 : ¬ ((0 : Int32) < 0 ∨ c158.slots.size ≤ ((0 : Int32)).toNatClampNeg) := inb_of S158 ⟨by decide, by decide⟩
  refine Run.pre (X0.caload hx (j := (0 : Int32)) (v := (.int c0)) (by rw [e0]; exact Ar158.1) (State.isArrayOf_alike hZ.alike Ar158.2.1) Ar158.2.2 hin158 (H158.at hin158 rfl) (g := (mkF m 12 #[.val (.ref ar), .val (.int (0 : Int32)), .val (.ref ds), .val (.int (0 : Int32)), .val (.int (3 : Int32)), .val (.int (0 : Int32)), .unset] [(.int (0 : Int32)), (.ref ar)])) rfl rfl (hb hby d8_12)) ?_
  show Run p e below s _ _ _ (s₁.setTop (mkF m 13 #[.val (.ref ar), .val (.int (0 : Int32)), .val (.ref ds), .val (.int (0 : Int32)), .val (.int (3 : Int32)), .val (.int (0 : Int32)), .unset] [(.int c0)]))
  refine Run.pre (fun _ k => XS.istore X0.here hx rfl (hb hby d8_13) rfl (l' := #[.val (.ref ar), .val (.int (0 : Int32)), .val (.ref ds), .val (.int (0 : Int32)), .val (.int (3 : Int32)), .val (.int (0 : Int32)), .val (.int c0)]) rfl k) ?_
  show Run p e below s _ _ _ (s₁.setTop (mkF m 15 #[.val (.ref ar), .val (.int (0 : Int32)), .val (.ref ds), .val (.int (0 : Int32)), .val (.int (3 : Int32)), .val (.int (0 : Int32)), .val (.int c0)] []))
  refine Run.pre (fun _ k => XS.iload X0.here hx rfl (hb hby d8_15) rfl  k) ?_
  show Run p e below s _ _ _ (s₁.setTop (mkF m 17 #[.val (.ref ar), .val (.int (0 : Int32)), .val (.ref ds), .val (.int (0 : Int32)), .val (.int (3 : Int32)), .val (.int (0 : Int32)), .val (.int c0)] [(.int c0)]))
  refine Run.pre (fun _ k => XS.sipush X0.here hx rfl (hb hby d8_17) k) ?_
  show Run p e below s _ _ _ (s₁.setTop (mkF m 20 #[.val (.ref ar), .val (.int (0 : Int32)), .val (.ref ds), .val (.int (0 : Int32)), .val (.int (3 : Int32)), .val (.int (0 : Int32)), .val (.int c0)] [(.int (255 : Int32)), (.int c0)]))
  refine Run.pre (fun _ k => XS.icmpYes X0.here hx rfl (pc0 := 20) (pc' := 26) rfl (hb hby d8_20) rfl (flt (q0 : ¬ ((255 : Int32) < c0))).2.2.2 (by decide) (by decide) k) ?_
  show Run p e below s _ _ _ (s₁.setTop (mkF m 26 #[.val (.ref ar), .val (.int (0 : Int32)), .val (.ref ds), .val (.int (0 : Int32)), .val (.int (3 : Int32)), .val (.int (0 : Int32)), .val (.int c0)] []))
  refine Run.pre (fun _ k => XS.aloadN X0.here hx rfl (hb hby d8_26) rfl rfl k) ?_
  show Run p e below s _ _ _ (s₁.setTop (mkF m 27 #[.val (.ref ar), .val (.int (0 : Int32)), .val (.ref ds), .val (.int (0 : Int32)), .val (.int (3 : Int32)), .val (.int (0 : Int32)), .val (.int c0)] [(.ref ds)]))
  refine Run.pre (fun _ k => XS.iloadN X0.here hx rfl (hb hby d8_27) rfl  k) ?_
  show Run p e below s _ _ _ (s₁.setTop (mkF m 28 #[.val (.ref ar), .val (.int (0 : Int32)), .val (.ref ds), .val (.int (0 : Int32)), .val (.int (3 : Int32)), .val (.int (0 : Int32)), .val (.int c0)] [(.int (0 : Int32)), (.ref ds)]))
  refine Run.pre (fun _ k => XS.iload X0.here hx rfl (hb hby d8_28) rfl  k) ?_
  show Run p e below s _ _ _ (s₁.setTop (mkF m 30 #[.val (.ref ar), .val (.int (0 : Int32)), .val (.ref ds), .val (.int (0 : Int32)), .val (.int (3 : Int32)), .val (.int (0 : Int32)), .val (.int c0)] [(.int c0), (.int (0 : Int32)), (.ref ds)]))
  refine Run.pre (fun _ k => XS.i2b X0.here hx rfl (hb hby d8_30) rfl k) ?_
  show Run p e below s _ _ _ (s₁.setTop (mkF m 31 #[.val (.ref ar), .val (.int (0 : Int32)), .val (.ref ds), .val (.int (0 : Int32)), .val (.int (3 : Int32)), .val (.int (0 : Int32)), .val (.int c0)] [(.int (c0.toInt8.toInt32)), (.int (0 : Int32)), (.ref ds)]))
  obtain ⟨c159, Ar159, q159, S159, N159, H159, G159⟩ := id AB
  have hin159 : ¬ ((0 : Int32) < 0 ∨ c159.slots.size ≤ ((0 : Int32)).toNatClampNeg) := inb_of S159 ⟨by decide, by decide⟩
  obtain ⟨T160, h160, X160, e160, W160, st160⟩ := stB X0 hx hZ e0 Ar159 (j := (0 : Int32)) hin159 (g := (mkF m 31 #[.val (.ref ar), .val (.int (0 : Int32)), .val (.ref ds), .val (.int (0 : Int32)), .val (.int (3 : Int32)), .val (.int (0 : Int32)), .val (.int c0)] [(.int (c0.toInt8.toInt32)), (.int (0 : Int32)), (.ref ds)])) rfl rfl (hb hby d8_31)
  refine Run.pre st160 ?_
  have V_ds_160 : Arv Z h160 ds kb .byte (3 : Int32) [(.int (nar .byte (c0.toInt8.toInt32))), (.int (0 : Int32)), (.int (0 : Int32))] (.int (0 : Int32)) := Arv.set Ar159 q159 S159 N159 H159 G159 (fits_nar_byte _) W160 0 rfl (Nat.le_of_ble_eq_true rfl)
  have K160 : Keep h0 h160 [ds] := (Keep.refl h0 [ds]).wr W160 (Or.inl (by simp))
  have N160 := Fr.snoc X160 N0 g_ds
  show Run p e below s _ _ _ (T160.setTop (mkF m 32 #[.val (.ref ar), .val (.int (0 : Int32)), .val (.ref ds), .val (.int (0 : Int32)), .val (.int (3 : Int32)), .val (.int (0 : Int32)), .val (.int c0)] []))
  refine Run.pre (fun _ k => XS.iinc X160.here hx rfl (hb hby d8_32) rfl (l' := #[.val (.ref ar), .val (.int (1 : Int32)), .val (.ref ds), .val (.int (0 : Int32)), .val (.int (3 : Int32)), .val (.int (0 : Int32)), .val (.int c0)]) rfl k) ?_
  show Run p e below s _ _ _ (T160.setTop (mkF m 35 #[.val (.ref ar), .val (.int (1 : Int32)), .val (.ref ds), .val (.int (0 : Int32)), .val (.int (3 : Int32)), .val (.int (0 : Int32)), .val (.int c0)] []))
  refine Run.pre (fun _ k => XS.iinc X160.here hx rfl (hb hby d8_35) rfl (l' := #[.val (.ref ar), .val (.int (1 : Int32)), .val (.ref ds), .val (.int (1 : Int32)), .val (.int (3 : Int32)), .val (.int (0 : Int32)), .val (.int c0)]) rfl k) ?_
  show Run p e below s _ _ _ (T160.setTop (mkF m 38 #[.val (.ref ar), .val (.int (1 : Int32)), .val (.ref ds), .val (.int (1 : Int32)), .val (.int (3 : Int32)), .val (.int (0 : Int32)), .val (.int c0)] []))
  refine Run.pre (fun _ k => XS.iinc X160.here hx rfl (hb hby d8_38) rfl (l' := #[.val (.ref ar), .val (.int (1 : Int32)), .val (.ref ds), .val (.int (1 : Int32)), .val (.int (3 : Int32)), .val (.int (1 : Int32)), .val (.int c0)]) rfl k) ?_
  show Run p e below s _ _ _ (T160.setTop (mkF m 41 #[.val (.ref ar), .val (.int (1 : Int32)), .val (.ref ds), .val (.int (1 : Int32)), .val (.int (3 : Int32)), .val (.int (1 : Int32)), .val (.int c0)] []))
  refine Run.pre (fun _ k => XS.goto X160.here hx rfl (pc0 := 41) (pc' := 3) rfl (hb hby d8_41) (by decide) (by decide) k) ?_
  show Run p e below s _ _ _ (T160.setTop (mkF m 3 #[.val (.ref ar), .val (.int (1 : Int32)), .val (.ref ds), .val (.int (1 : Int32)), .val (.int (3 : Int32)), .val (.int (1 : Int32)), .val (.int c0)] []))
  refine Run.pre (fun _ k => XS.iload X160.here hx rfl (hb hby d8_3) rfl  k) ?_
  show Run p e below s _ _ _ (T160.setTop (mkF m 5 #[.val (.ref ar), .val (.int (1 : Int32)), .val (.ref ds), .val (.int (1 : Int32)), .val (.int (3 : Int32)), .val (.int (1 : Int32)), .val (.int c0)] [(.int (1 : Int32))]))
  refine Run.pre (fun _ k => XS.iload X160.here hx rfl (hb hby d8_5) rfl  k) ?_
  show Run p e below s _ _ _ (T160.setTop (mkF m 7 #[.val (.ref ar), .val (.int (1 : Int32)), .val (.ref ds), .val (.int (1 : Int32)), .val (.int (3 : Int32)), .val (.int (1 : Int32)), .val (.int c0)] [(.int (3 : Int32)), (.int (1 : Int32))]))
  refine Run.pre (fun _ k => XS.icmpNo X160.here hx rfl (hb hby d8_7) rfl (tlt ((by decide) : (1 : Int32) < (3 : Int32))).2.1 k) ?_
  show Run p e below s _ _ _ (T160.setTop (mkF m 10 #[.val (.ref ar), .val (.int (1 : Int32)), .val (.ref ds), .val (.int (1 : Int32)), .val (.int (3 : Int32)), .val (.int (1 : Int32)), .val (.int c0)] []))
  refine Run.pre (fun _ k => XS.aloadN X160.here hx rfl (hb hby d8_10) rfl rfl k) ?_
  show Run p e below s _ _ _ (T160.setTop (mkF m 11 #[.val (.ref ar), .val (.int (1 : Int32)), .val (.ref ds), .val (.int (1 : Int32)), .val (.int (3 : Int32)), .val (.int (1 : Int32)), .val (.int c0)] [(.ref ar)]))
  refine Run.pre (fun _ k => XS.iloadN X160.here hx rfl (hb hby d8_11) rfl  k) ?_
  show Run p e below s _ _ _ (T160.setTop (mkF m 12 #[.val (.ref ar), .val (.int (1 : Int32)), .val (.ref ds), .val (.int (1 : Int32)), .val (.int (3 : Int32)), .val (.int (1 : Int32)), .val (.int c0)] [(.int (1 : Int32)), (.ref ar)]))
  have f161 := (AC.other W160 nad)
  obtain ⟨c162, Ar162, -, S162, N162, H162, -⟩ := id f161
  have hin162 : ¬ ((1 : Int32) < 0 ∨ c162.slots.size ≤ ((1 : Int32)).toNatClampNeg) := inb_of S162 ⟨by decide, by decide⟩
  refine Run.pre (X160.caload hx (j := (1 : Int32)) (v := (.int c1)) (by rw [e160]; exact Ar162.1) (State.isArrayOf_alike hZ.alike Ar162.2.1) Ar162.2.2 hin162 (H162.at hin162 rfl) (g := (mkF m 12 #[.val (.ref ar), .val (.int (1 : Int32)), .val (.ref ds), .val (.int (1 : Int32)), .val (.int (3 : Int32)), .val (.int (1 : Int32)), .val (.int c0)] [(.int (1 : Int32)), (.ref ar)])) rfl rfl (hb hby d8_12)) ?_
  show Run p e below s _ _ _ (T160.setTop (mkF m 13 #[.val (.ref ar), .val (.int (1 : Int32)), .val (.ref ds), .val (.int (1 : Int32)), .val (.int (3 : Int32)), .val (.int (1 : Int32)), .val (.int c0)] [(.int c1)]))
  refine Run.pre (fun _ k => XS.istore X160.here hx rfl (hb hby d8_13) rfl (l' := #[.val (.ref ar), .val (.int (1 : Int32)), .val (.ref ds), .val (.int (1 : Int32)), .val (.int (3 : Int32)), .val (.int (1 : Int32)), .val (.int c1)]) rfl k) ?_
  show Run p e below s _ _ _ (T160.setTop (mkF m 15 #[.val (.ref ar), .val (.int (1 : Int32)), .val (.ref ds), .val (.int (1 : Int32)), .val (.int (3 : Int32)), .val (.int (1 : Int32)), .val (.int c1)] []))
  refine Run.pre (fun _ k => XS.iload X160.here hx rfl (hb hby d8_15) rfl  k) ?_
  show Run p e below s _ _ _ (T160.setTop (mkF m 17 #[.val (.ref ar), .val (.int (1 : Int32)), .val (.ref ds), .val (.int (1 : Int32)), .val (.int (3 : Int32)), .val (.int (1 : Int32)), .val (.int c1)] [(.int c1)]))
  refine Run.pre (fun _ k => XS.sipush X160.here hx rfl (hb hby d8_17) k) ?_
  show Run p e below s _ _ _ (T160.setTop (mkF m 20 #[.val (.ref ar), .val (.int (1 : Int32)), .val (.ref ds), .val (.int (1 : Int32)), .val (.int (3 : Int32)), .val (.int (1 : Int32)), .val (.int c1)] [(.int (255 : Int32)), (.int c1)]))
  refine Run.pre (fun _ k => XS.icmpYes X160.here hx rfl (pc0 := 20) (pc' := 26) rfl (hb hby d8_20) rfl (flt (q1 : ¬ ((255 : Int32) < c1))).2.2.2 (by decide) (by decide) k) ?_
  show Run p e below s _ _ _ (T160.setTop (mkF m 26 #[.val (.ref ar), .val (.int (1 : Int32)), .val (.ref ds), .val (.int (1 : Int32)), .val (.int (3 : Int32)), .val (.int (1 : Int32)), .val (.int c1)] []))
  refine Run.pre (fun _ k => XS.aloadN X160.here hx rfl (hb hby d8_26) rfl rfl k) ?_
  show Run p e below s _ _ _ (T160.setTop (mkF m 27 #[.val (.ref ar), .val (.int (1 : Int32)), .val (.ref ds), .val (.int (1 : Int32)), .val (.int (3 : Int32)), .val (.int (1 : Int32)), .val (.int c1)] [(.ref ds)]))
  refine Run.pre (fun _ k => XS.iloadN X160.here hx rfl (hb hby d8_27) rfl  k) ?_
  show Run p e below s _ _ _ (T160.setTop (mkF m 28 #[.val (.ref ar), .val (.int (1 : Int32)), .val (.ref ds), .val (.int (1 : Int32)), .val (.int (3 : Int32)), .val (.int (1 : Int32)), .val (.int c1)] [(.int (1 : Int32)), (.ref ds)]))
  refine Run.pre (fun _ k => XS.iload X160.here hx rfl (hb hby d8_28) rfl  k) ?_
  show Run p e below s _ _ _ (T160.setTop (mkF m 30 #[.val (.ref ar), .val (.int (1 : Int32)), .val (.ref ds), .val (.int (1 : Int32)), .val (.int (3 : Int32)), .val (.int (1 : Int32)), .val (.int c1)] [(.int c1), (.int (1 : Int32)), (.ref ds)]))
  refine Run.pre (fun _ k => XS.i2b X160.here hx rfl (hb hby d8_30) rfl k) ?_
  show Run p e below s _ _ _ (T160.setTop (mkF m 31 #[.val (.ref ar), .val (.int (1 : Int32)), .val (.ref ds), .val (.int (1 : Int32)), .val (.int (3 : Int32)), .val (.int (1 : Int32)), .val (.int c1)] [(.int (c1.toInt8.toInt32)), (.int (1 : Int32)), (.ref ds)]))
  obtain ⟨c163, Ar163, q163, S163, N163, H163, G163⟩ := id V_ds_160
  have hin163 : ¬ ((1 : Int32) < 0 ∨ c163.slots.size ≤ ((1 : Int32)).toNatClampNeg) := inb_of S163 ⟨by decide, by decide⟩
  obtain ⟨T164, h164, X164, e164, W164, st164⟩ := stB X160 hx hZ e160 Ar163 (j := (1 : Int32)) hin163 (g := (mkF m 31 #[.val (.ref ar), .val (.int (1 : Int32)), .val (.ref ds), .val (.int (1 : Int32)), .val (.int (3 : Int32)), .val (.int (1 : Int32)), .val (.int c1)] [(.int (c1.toInt8.toInt32)), (.int (1 : Int32)), (.ref ds)])) rfl rfl (hb hby d8_31)
  refine Run.pre st164 ?_
  have V_ds_164 : Arv Z h164 ds kb .byte (3 : Int32) [(.int (nar .byte (c0.toInt8.toInt32))), (.int (nar .byte (c1.toInt8.toInt32))), (.int (0 : Int32))] (.int (0 : Int32)) := Arv.set Ar163 q163 S163 N163 H163 G163 (fits_nar_byte _) W164 1 rfl (Nat.le_of_ble_eq_true rfl)
  have K164 : Keep h0 h164 [ds] := K160.wr W164 (Or.inl (by simp))
  have N164 := Fr.snoc X164 N160 g_ds
  show Run p e below s _ _ _ (T164.setTop (mkF m 32 #[.val (.ref ar), .val (.int (1 : Int32)), .val (.ref ds), .val (.int (1 : Int32)), .val (.int (3 : Int32)), .val (.int (1 : Int32)), .val (.int c1)] []))
  refine Run.pre (fun _ k => XS.iinc X164.here hx rfl (hb hby d8_32) rfl (l' := #[.val (.ref ar), .val (.int (2 : Int32)), .val (.ref ds), .val (.int (1 : Int32)), .val (.int (3 : Int32)), .val (.int (1 : Int32)), .val (.int c1)]) rfl k) ?_
  show Run p e below s _ _ _ (T164.setTop (mkF m 35 #[.val (.ref ar), .val (.int (2 : Int32)), .val (.ref ds), .val (.int (1 : Int32)), .val (.int (3 : Int32)), .val (.int (1 : Int32)), .val (.int c1)] []))
  refine Run.pre (fun _ k => XS.iinc X164.here hx rfl (hb hby d8_35) rfl (l' := #[.val (.ref ar), .val (.int (2 : Int32)), .val (.ref ds), .val (.int (2 : Int32)), .val (.int (3 : Int32)), .val (.int (1 : Int32)), .val (.int c1)]) rfl k) ?_
  show Run p e below s _ _ _ (T164.setTop (mkF m 38 #[.val (.ref ar), .val (.int (2 : Int32)), .val (.ref ds), .val (.int (2 : Int32)), .val (.int (3 : Int32)), .val (.int (1 : Int32)), .val (.int c1)] []))
  refine Run.pre (fun _ k => XS.iinc X164.here hx rfl (hb hby d8_38) rfl (l' := #[.val (.ref ar), .val (.int (2 : Int32)), .val (.ref ds), .val (.int (2 : Int32)), .val (.int (3 : Int32)), .val (.int (2 : Int32)), .val (.int c1)]) rfl k) ?_
  show Run p e below s _ _ _ (T164.setTop (mkF m 41 #[.val (.ref ar), .val (.int (2 : Int32)), .val (.ref ds), .val (.int (2 : Int32)), .val (.int (3 : Int32)), .val (.int (2 : Int32)), .val (.int c1)] []))
  refine Run.pre (fun _ k => XS.goto X164.here hx rfl (pc0 := 41) (pc' := 3) rfl (hb hby d8_41) (by decide) (by decide) k) ?_
  show Run p e below s _ _ _ (T164.setTop (mkF m 3 #[.val (.ref ar), .val (.int (2 : Int32)), .val (.ref ds), .val (.int (2 : Int32)), .val (.int (3 : Int32)), .val (.int (2 : Int32)), .val (.int c1)] []))
  refine Run.pre (fun _ k => XS.iload X164.here hx rfl (hb hby d8_3) rfl  k) ?_
  show Run p e below s _ _ _ (T164.setTop (mkF m 5 #[.val (.ref ar), .val (.int (2 : Int32)), .val (.ref ds), .val (.int (2 : Int32)), .val (.int (3 : Int32)), .val (.int (2 : Int32)), .val (.int c1)] [(.int (2 : Int32))]))
  refine Run.pre (fun _ k => XS.iload X164.here hx rfl (hb hby d8_5) rfl  k) ?_
  show Run p e below s _ _ _ (T164.setTop (mkF m 7 #[.val (.ref ar), .val (.int (2 : Int32)), .val (.ref ds), .val (.int (2 : Int32)), .val (.int (3 : Int32)), .val (.int (2 : Int32)), .val (.int c1)] [(.int (3 : Int32)), (.int (2 : Int32))]))
  refine Run.pre (fun _ k => XS.icmpNo X164.here hx rfl (hb hby d8_7) rfl (tlt ((by decide) : (2 : Int32) < (3 : Int32))).2.1 k) ?_
  show Run p e below s _ _ _ (T164.setTop (mkF m 10 #[.val (.ref ar), .val (.int (2 : Int32)), .val (.ref ds), .val (.int (2 : Int32)), .val (.int (3 : Int32)), .val (.int (2 : Int32)), .val (.int c1)] []))
  refine Run.pre (fun _ k => XS.aloadN X164.here hx rfl (hb hby d8_10) rfl rfl k) ?_
  show Run p e below s _ _ _ (T164.setTop (mkF m 11 #[.val (.ref ar), .val (.int (2 : Int32)), .val (.ref ds), .val (.int (2 : Int32)), .val (.int (3 : Int32)), .val (.int (2 : Int32)), .val (.int c1)] [(.ref ar)]))
  refine Run.pre (fun _ k => XS.iloadN X164.here hx rfl (hb hby d8_11) rfl  k) ?_
  show Run p e below s _ _ _ (T164.setTop (mkF m 12 #[.val (.ref ar), .val (.int (2 : Int32)), .val (.ref ds), .val (.int (2 : Int32)), .val (.int (3 : Int32)), .val (.int (2 : Int32)), .val (.int c1)] [(.int (2 : Int32)), (.ref ar)]))
  have f165 := (f161.other W164 nad)
  obtain ⟨c166, Ar166, -, S166, N166, H166, -⟩ := id f165
  have hin166 : ¬ ((2 : Int32) < 0 ∨ c166.slots.size ≤ ((2 : Int32)).toNatClampNeg) := inb_of S166 ⟨by decide, by decide⟩
  refine Run.pre (X164.caload hx (j := (2 : Int32)) (v := (.int c2)) (by rw [e164]; exact Ar166.1) (State.isArrayOf_alike hZ.alike Ar166.2.1) Ar166.2.2 hin166 (H166.at hin166 rfl) (g := (mkF m 12 #[.val (.ref ar), .val (.int (2 : Int32)), .val (.ref ds), .val (.int (2 : Int32)), .val (.int (3 : Int32)), .val (.int (2 : Int32)), .val (.int c1)] [(.int (2 : Int32)), (.ref ar)])) rfl rfl (hb hby d8_12)) ?_
  show Run p e below s _ _ _ (T164.setTop (mkF m 13 #[.val (.ref ar), .val (.int (2 : Int32)), .val (.ref ds), .val (.int (2 : Int32)), .val (.int (3 : Int32)), .val (.int (2 : Int32)), .val (.int c1)] [(.int c2)]))
  refine Run.pre (fun _ k => XS.istore X164.here hx rfl (hb hby d8_13) rfl (l' := #[.val (.ref ar), .val (.int (2 : Int32)), .val (.ref ds), .val (.int (2 : Int32)), .val (.int (3 : Int32)), .val (.int (2 : Int32)), .val (.int c2)]) rfl k) ?_
  show Run p e below s _ _ _ (T164.setTop (mkF m 15 #[.val (.ref ar), .val (.int (2 : Int32)), .val (.ref ds), .val (.int (2 : Int32)), .val (.int (3 : Int32)), .val (.int (2 : Int32)), .val (.int c2)] []))
  refine Run.pre (fun _ k => XS.iload X164.here hx rfl (hb hby d8_15) rfl  k) ?_
  show Run p e below s _ _ _ (T164.setTop (mkF m 17 #[.val (.ref ar), .val (.int (2 : Int32)), .val (.ref ds), .val (.int (2 : Int32)), .val (.int (3 : Int32)), .val (.int (2 : Int32)), .val (.int c2)] [(.int c2)]))
  refine Run.pre (fun _ k => XS.sipush X164.here hx rfl (hb hby d8_17) k) ?_
  show Run p e below s _ _ _ (T164.setTop (mkF m 20 #[.val (.ref ar), .val (.int (2 : Int32)), .val (.ref ds), .val (.int (2 : Int32)), .val (.int (3 : Int32)), .val (.int (2 : Int32)), .val (.int c2)] [(.int (255 : Int32)), (.int c2)]))
  refine Run.pre (fun _ k => XS.icmpNo X164.here hx rfl (hb hby d8_20) rfl (tlt (q2 : (255 : Int32) < c2)).2.2.2 k) ?_
  show Run p e below s _ _ _ (T164.setTop (mkF m 23 #[.val (.ref ar), .val (.int (2 : Int32)), .val (.ref ds), .val (.int (2 : Int32)), .val (.int (3 : Int32)), .val (.int (2 : Int32)), .val (.int c2)] []))
  refine Run.pre (fun _ k => XS.iload X164.here hx rfl (hb hby d8_23) rfl  k) ?_
  show Run p e below s _ _ _ (T164.setTop (mkF m 25 #[.val (.ref ar), .val (.int (2 : Int32)), .val (.ref ds), .val (.int (2 : Int32)), .val (.int (3 : Int32)), .val (.int (2 : Int32)), .val (.int c2)] [(.int (2 : Int32))]))
  exact Run.retI hS (by first | exact Nat.le_refl _ | (rw [e164]; exact (Nat.le_trans (Nat.le_trans (Nat.zero_le _) (Keep.of_wr W160).1) (Keep.of_wr W164).1))) X164 hx hret hlk (hb hby d8_25) (by first | (rw [e164]; exact ⟨rfl, N164, K164⟩) | exact ⟨rfl, N164, K164⟩) (by decide) (by decide)
set_option maxRecDepth 65536 in
set_option maxHeartbeats 40000000 in
theorem rmC2_3_3 (l : Launch) (Z : State) (a0 : Array Value) (hw : ∀ d ∈ tables_1, d.before a0 Z = true) (ar : Addr) (ds : Addr) (kc : ClassId) (kb : ClassId) (c0 : Int32) (c1 : Int32) (c2 : Int32) (h0 : Heap) (n0 : Nat) (Z0 : n0 ≤ h0.size) (AC : Arv Z h0 ar kc .char 3 [(.int c0), (.int c1), (.int c2)] (.int 0)) (AB : Arv Z h0 ds kb .byte 3 [(.int (0 : Int32)), (.int (0 : Int32)), (.int (0 : Int32))] (.int 0)) (nad : ar ≠ ds) (g_ds : n0 ≤ ds) (q0 : ¬ (255 : Int32) < c0) (q1 : ¬ (255 : Int32) < c1) (q2 : ¬ (255 : Int32) < c2) :
    Con l (⟨"java/lang/StringUTF16", "compress", "([CI[BII)I"⟩ : MethodName) jdk_52_method_21_code 7 (some .int) ({ frames := 0, cells := 0, slots := 0, locals := 0 } : Room) Z #[(.ref ar), (.int (0 : Int32)), (.ref ds), (.int (0 : Int32)), (.int (3 : Int32))] h0 (fun _ => True) (fun v h L vm => v = some (.int 3) ∧ Fr n0 L ∧ Keep h0 h [ds] ∧ Arv Z h ds kb .byte 3 [(.int (nar .byte (c0.toInt8.toInt32))), (.int (nar .byte (c1.toInt8.toInt32))), (.int (nar .byte (c2.toInt8.toInt32)))] (.int 0)) := by
  refine Con.mk (plainFor_of_name pn_8) (fun m => show entryFrame m #[(.ref ar), (.int (0 : Int32)), (.ref ds), (.int (0 : Int32)), (.int (3 : Int32))] 7 = mkF m 0 #[.val (.ref ar), .val (.int (0 : Int32)), .val (.ref ds), .val (.int (0 : Int32)), .val (.int (3 : Int32)), .unset, .unset] [] by first | (simp [entryFrame, mkF, argsToLocals, Value.category]; done) | rfl) ?_
  intro p e s m below meth c s₁ vm0 hx hby hml hown hnm hret hlk hZ X0 e0 hS hs0 hP0
  have N0 := Fr.nil n0
  show Run p e below s _ _ _ (s₁.setTop (mkF m 0 #[.val (.ref ar), .val (.int (0 : Int32)), .val (.ref ds), .val (.int (0 : Int32)), .val (.int (3 : Int32)), .unset, .unset] []))
  refine Run.pre (fun _ k => XS.iconst X0.here hx rfl (hb hby d8_0) k) ?_
  show Run p e below s _ _ _ (s₁.setTop (mkF m 1 #[.val (.ref ar), .val (.int (0 : Int32)), .val (.ref ds), .val (.int (0 : Int32)), .val (.int (3 : Int32)), .unset, .unset] [(.int (0 : Int32))]))
  refine Run.pre (fun _ k => XS.istore X0.here hx rfl (hb hby d8_1) rfl (l' := #[.val (.ref ar), .val (.int (0 : Int32)), .val (.ref ds), .val (.int (0 : Int32)), .val (.int (3 : Int32)), .val (.int (0 : Int32)), .unset]) rfl k) ?_
  show Run p e below s _ _ _ (s₁.setTop (mkF m 3 #[.val (.ref ar), .val (.int (0 : Int32)), .val (.ref ds), .val (.int (0 : Int32)), .val (.int (3 : Int32)), .val (.int (0 : Int32)), .unset] []))
  refine Run.pre (fun _ k => XS.iload X0.here hx rfl (hb hby d8_3) rfl  k) ?_
  show Run p e below s _ _ _ (s₁.setTop (mkF m 5 #[.val (.ref ar), .val (.int (0 : Int32)), .val (.ref ds), .val (.int (0 : Int32)), .val (.int (3 : Int32)), .val (.int (0 : Int32)), .unset] [(.int (0 : Int32))]))
  refine Run.pre (fun _ k => XS.iload X0.here hx rfl (hb hby d8_5) rfl  k) ?_
  show Run p e below s _ _ _ (s₁.setTop (mkF m 7 #[.val (.ref ar), .val (.int (0 : Int32)), .val (.ref ds), .val (.int (0 : Int32)), .val (.int (3 : Int32)), .val (.int (0 : Int32)), .unset] [(.int (3 : Int32)), (.int (0 : Int32))]))
  refine Run.pre (fun _ k => XS.icmpNo X0.here hx rfl (hb hby d8_7) rfl (tlt ((by decide) : (0 : Int32) < (3 : Int32))).2.1 k) ?_
  show Run p e below s _ _ _ (s₁.setTop (mkF m 10 #[.val (.ref ar), .val (.int (0 : Int32)), .val (.ref ds), .val (.int (0 : Int32)), .val (.int (3 : Int32)), .val (.int (0 : Int32)), .unset] []))
  refine Run.pre (fun _ k => XS.aloadN X0.here hx rfl (hb hby d8_10) rfl rfl k) ?_
  show Run p e below s _ _ _ (s₁.setTop (mkF m 11 #[.val (.ref ar), .val (.int (0 : Int32)), .val (.ref ds), .val (.int (0 : Int32)), .val (.int (3 : Int32)), .val (.int (0 : Int32)), .unset] [(.ref ar)]))
  refine Run.pre (fun _ k => XS.iloadN X0.here hx rfl (hb hby d8_11) rfl  k) ?_
  show Run p e below s _ _ _ (s₁.setTop (mkF m 12 #[.val (.ref ar), .val (.int (0 : Int32)), .val (.ref ds), .val (.int (0 : Int32)), .val (.int (3 : Int32)), .val (.int (0 : Int32)), .unset] [(.int (0 : Int32)), (.ref ar)]))
  obtain ⟨c167, Ar167, -, S167, N167, H167, -⟩ := id AC
  have hin167 : ¬ ((0 : Int32) < 0 ∨ c167.slots.size ≤ ((0 : Int32)).toNatClampNeg) := inb_of S167 ⟨by decide, by decide⟩
  refine Run.pre (X0.caload hx (j := (0 : Int32)) (v := (.int c0)) (by rw [e0]; exact Ar167.1) (State.isArrayOf_alike hZ.alike Ar167.2.1) Ar167.2.2 hin167 (H167.at hin167 rfl) (g := (mkF m 12 #[.val (.ref ar), .val (.int (0 : Int32)), .val (.ref ds), .val (.int (0 : Int32)), .val (.int (3 : Int32)), .val (.int (0 : Int32)), .unset] [(.int (0 : Int32)), (.ref ar)])) rfl rfl (hb hby d8_12)) ?_
  show Run p e below s _ _ _ (s₁.setTop (mkF m 13 #[.val (.ref ar), .val (.int (0 : Int32)), .val (.ref ds), .val (.int (0 : Int32)), .val (.int (3 : Int32)), .val (.int (0 : Int32)), .unset] [(.int c0)]))
  refine Run.pre (fun _ k => XS.istore X0.here hx rfl (hb hby d8_13) rfl (l' := #[.val (.ref ar), .val (.int (0 : Int32)), .val (.ref ds), .val (.int (0 : Int32)), .val (.int (3 : Int32)), .val (.int (0 : Int32)), .val (.int c0)]) rfl k) ?_
  show Run p e below s _ _ _ (s₁.setTop (mkF m 15 #[.val (.ref ar), .val (.int (0 : Int32)), .val (.ref ds), .val (.int (0 : Int32)), .val (.int (3 : Int32)), .val (.int (0 : Int32)), .val (.int c0)] []))
  refine Run.pre (fun _ k => XS.iload X0.here hx rfl (hb hby d8_15) rfl  k) ?_
  show Run p e below s _ _ _ (s₁.setTop (mkF m 17 #[.val (.ref ar), .val (.int (0 : Int32)), .val (.ref ds), .val (.int (0 : Int32)), .val (.int (3 : Int32)), .val (.int (0 : Int32)), .val (.int c0)] [(.int c0)]))
  refine Run.pre (fun _ k => XS.sipush X0.here hx rfl (hb hby d8_17) k) ?_
  show Run p e below s _ _ _ (s₁.setTop (mkF m 20 #[.val (.ref ar), .val (.int (0 : Int32)), .val (.ref ds), .val (.int (0 : Int32)), .val (.int (3 : Int32)), .val (.int (0 : Int32)), .val (.int c0)] [(.int (255 : Int32)), (.int c0)]))
  refine Run.pre (fun _ k => XS.icmpYes X0.here hx rfl (pc0 := 20) (pc' := 26) rfl (hb hby d8_20) rfl (flt (q0 : ¬ ((255 : Int32) < c0))).2.2.2 (by decide) (by decide) k) ?_
  show Run p e below s _ _ _ (s₁.setTop (mkF m 26 #[.val (.ref ar), .val (.int (0 : Int32)), .val (.ref ds), .val (.int (0 : Int32)), .val (.int (3 : Int32)), .val (.int (0 : Int32)), .val (.int c0)] []))
  refine Run.pre (fun _ k => XS.aloadN X0.here hx rfl (hb hby d8_26) rfl rfl k) ?_
  show Run p e below s _ _ _ (s₁.setTop (mkF m 27 #[.val (.ref ar), .val (.int (0 : Int32)), .val (.ref ds), .val (.int (0 : Int32)), .val (.int (3 : Int32)), .val (.int (0 : Int32)), .val (.int c0)] [(.ref ds)]))
  refine Run.pre (fun _ k => XS.iloadN X0.here hx rfl (hb hby d8_27) rfl  k) ?_
  show Run p e below s _ _ _ (s₁.setTop (mkF m 28 #[.val (.ref ar), .val (.int (0 : Int32)), .val (.ref ds), .val (.int (0 : Int32)), .val (.int (3 : Int32)), .val (.int (0 : Int32)), .val (.int c0)] [(.int (0 : Int32)), (.ref ds)]))
  refine Run.pre (fun _ k => XS.iload X0.here hx rfl (hb hby d8_28) rfl  k) ?_
  show Run p e below s _ _ _ (s₁.setTop (mkF m 30 #[.val (.ref ar), .val (.int (0 : Int32)), .val (.ref ds), .val (.int (0 : Int32)), .val (.int (3 : Int32)), .val (.int (0 : Int32)), .val (.int c0)] [(.int c0), (.int (0 : Int32)), (.ref ds)]))
  refine Run.pre (fun _ k => XS.i2b X0.here hx rfl (hb hby d8_30) rfl k) ?_
  show Run p e below s _ _ _ (s₁.setTop (mkF m 31 #[.val (.ref ar), .val (.int (0 : Int32)), .val (.ref ds), .val (.int (0 : Int32)), .val (.int (3 : Int32)), .val (.int (0 : Int32)), .val (.int c0)] [(.int (c0.toInt8.toInt32)), (.int (0 : Int32)), (.ref ds)]))
  obtain ⟨c168, Ar168, q168, S168, N168, H168, G168⟩ := id AB
  have hin168 : ¬ ((0 : Int32) < 0 ∨ c168.slots.size ≤ ((0 : Int32)).toNatClampNeg) := inb_of S168 ⟨by decide, by decide⟩
  obtain ⟨T169, h169, X169, e169, W169, st169⟩ := stB X0 hx hZ e0 Ar168 (j := (0 : Int32)) hin168 (g := (mkF m 31 #[.val (.ref ar), .val (.int (0 : Int32)), .val (.ref ds), .val (.int (0 : Int32)), .val (.int (3 : Int32)), .val (.int (0 : Int32)), .val (.int c0)] [(.int (c0.toInt8.toInt32)), (.int (0 : Int32)), (.ref ds)])) rfl rfl (hb hby d8_31)
  refine Run.pre st169 ?_
  have V_ds_169 : Arv Z h169 ds kb .byte (3 : Int32) [(.int (nar .byte (c0.toInt8.toInt32))), (.int (0 : Int32)), (.int (0 : Int32))] (.int (0 : Int32)) := Arv.set Ar168 q168 S168 N168 H168 G168 (fits_nar_byte _) W169 0 rfl (Nat.le_of_ble_eq_true rfl)
  have K169 : Keep h0 h169 [ds] := (Keep.refl h0 [ds]).wr W169 (Or.inl (by simp))
  have N169 := Fr.snoc X169 N0 g_ds
  show Run p e below s _ _ _ (T169.setTop (mkF m 32 #[.val (.ref ar), .val (.int (0 : Int32)), .val (.ref ds), .val (.int (0 : Int32)), .val (.int (3 : Int32)), .val (.int (0 : Int32)), .val (.int c0)] []))
  refine Run.pre (fun _ k => XS.iinc X169.here hx rfl (hb hby d8_32) rfl (l' := #[.val (.ref ar), .val (.int (1 : Int32)), .val (.ref ds), .val (.int (0 : Int32)), .val (.int (3 : Int32)), .val (.int (0 : Int32)), .val (.int c0)]) rfl k) ?_
  show Run p e below s _ _ _ (T169.setTop (mkF m 35 #[.val (.ref ar), .val (.int (1 : Int32)), .val (.ref ds), .val (.int (0 : Int32)), .val (.int (3 : Int32)), .val (.int (0 : Int32)), .val (.int c0)] []))
  refine Run.pre (fun _ k => XS.iinc X169.here hx rfl (hb hby d8_35) rfl (l' := #[.val (.ref ar), .val (.int (1 : Int32)), .val (.ref ds), .val (.int (1 : Int32)), .val (.int (3 : Int32)), .val (.int (0 : Int32)), .val (.int c0)]) rfl k) ?_
  show Run p e below s _ _ _ (T169.setTop (mkF m 38 #[.val (.ref ar), .val (.int (1 : Int32)), .val (.ref ds), .val (.int (1 : Int32)), .val (.int (3 : Int32)), .val (.int (0 : Int32)), .val (.int c0)] []))
  refine Run.pre (fun _ k => XS.iinc X169.here hx rfl (hb hby d8_38) rfl (l' := #[.val (.ref ar), .val (.int (1 : Int32)), .val (.ref ds), .val (.int (1 : Int32)), .val (.int (3 : Int32)), .val (.int (1 : Int32)), .val (.int c0)]) rfl k) ?_
  show Run p e below s _ _ _ (T169.setTop (mkF m 41 #[.val (.ref ar), .val (.int (1 : Int32)), .val (.ref ds), .val (.int (1 : Int32)), .val (.int (3 : Int32)), .val (.int (1 : Int32)), .val (.int c0)] []))
  refine Run.pre (fun _ k => XS.goto X169.here hx rfl (pc0 := 41) (pc' := 3) rfl (hb hby d8_41) (by decide) (by decide) k) ?_
  show Run p e below s _ _ _ (T169.setTop (mkF m 3 #[.val (.ref ar), .val (.int (1 : Int32)), .val (.ref ds), .val (.int (1 : Int32)), .val (.int (3 : Int32)), .val (.int (1 : Int32)), .val (.int c0)] []))
  refine Run.pre (fun _ k => XS.iload X169.here hx rfl (hb hby d8_3) rfl  k) ?_
  show Run p e below s _ _ _ (T169.setTop (mkF m 5 #[.val (.ref ar), .val (.int (1 : Int32)), .val (.ref ds), .val (.int (1 : Int32)), .val (.int (3 : Int32)), .val (.int (1 : Int32)), .val (.int c0)] [(.int (1 : Int32))]))
  refine Run.pre (fun _ k => XS.iload X169.here hx rfl (hb hby d8_5) rfl  k) ?_
  show Run p e below s _ _ _ (T169.setTop (mkF m 7 #[.val (.ref ar), .val (.int (1 : Int32)), .val (.ref ds), .val (.int (1 : Int32)), .val (.int (3 : Int32)), .val (.int (1 : Int32)), .val (.int c0)] [(.int (3 : Int32)), (.int (1 : Int32))]))
  refine Run.pre (fun _ k => XS.icmpNo X169.here hx rfl (hb hby d8_7) rfl (tlt ((by decide) : (1 : Int32) < (3 : Int32))).2.1 k) ?_
  show Run p e below s _ _ _ (T169.setTop (mkF m 10 #[.val (.ref ar), .val (.int (1 : Int32)), .val (.ref ds), .val (.int (1 : Int32)), .val (.int (3 : Int32)), .val (.int (1 : Int32)), .val (.int c0)] []))
  refine Run.pre (fun _ k => XS.aloadN X169.here hx rfl (hb hby d8_10) rfl rfl k) ?_
  show Run p e below s _ _ _ (T169.setTop (mkF m 11 #[.val (.ref ar), .val (.int (1 : Int32)), .val (.ref ds), .val (.int (1 : Int32)), .val (.int (3 : Int32)), .val (.int (1 : Int32)), .val (.int c0)] [(.ref ar)]))
  refine Run.pre (fun _ k => XS.iloadN X169.here hx rfl (hb hby d8_11) rfl  k) ?_
  show Run p e below s _ _ _ (T169.setTop (mkF m 12 #[.val (.ref ar), .val (.int (1 : Int32)), .val (.ref ds), .val (.int (1 : Int32)), .val (.int (3 : Int32)), .val (.int (1 : Int32)), .val (.int c0)] [(.int (1 : Int32)), (.ref ar)]))
  have f170 := (AC.other W169 nad)
  obtain ⟨c171, Ar171, -, S171, N171, H171, -⟩ := id f170
  have hin171 : ¬ ((1 : Int32) < 0 ∨ c171.slots.size ≤ ((1 : Int32)).toNatClampNeg) := inb_of S171 ⟨by decide, by decide⟩
  refine Run.pre (X169.caload hx (j := (1 : Int32)) (v := (.int c1)) (by rw [e169]; exact Ar171.1) (State.isArrayOf_alike hZ.alike Ar171.2.1) Ar171.2.2 hin171 (H171.at hin171 rfl) (g := (mkF m 12 #[.val (.ref ar), .val (.int (1 : Int32)), .val (.ref ds), .val (.int (1 : Int32)), .val (.int (3 : Int32)), .val (.int (1 : Int32)), .val (.int c0)] [(.int (1 : Int32)), (.ref ar)])) rfl rfl (hb hby d8_12)) ?_
  show Run p e below s _ _ _ (T169.setTop (mkF m 13 #[.val (.ref ar), .val (.int (1 : Int32)), .val (.ref ds), .val (.int (1 : Int32)), .val (.int (3 : Int32)), .val (.int (1 : Int32)), .val (.int c0)] [(.int c1)]))
  refine Run.pre (fun _ k => XS.istore X169.here hx rfl (hb hby d8_13) rfl (l' := #[.val (.ref ar), .val (.int (1 : Int32)), .val (.ref ds), .val (.int (1 : Int32)), .val (.int (3 : Int32)), .val (.int (1 : Int32)), .val (.int c1)]) rfl k) ?_
  show Run p e below s _ _ _ (T169.setTop (mkF m 15 #[.val (.ref ar), .val (.int (1 : Int32)), .val (.ref ds), .val (.int (1 : Int32)), .val (.int (3 : Int32)), .val (.int (1 : Int32)), .val (.int c1)] []))
  refine Run.pre (fun _ k => XS.iload X169.here hx rfl (hb hby d8_15) rfl  k) ?_
  show Run p e below s _ _ _ (T169.setTop (mkF m 17 #[.val (.ref ar), .val (.int (1 : Int32)), .val (.ref ds), .val (.int (1 : Int32)), .val (.int (3 : Int32)), .val (.int (1 : Int32)), .val (.int c1)] [(.int c1)]))
  refine Run.pre (fun _ k => XS.sipush X169.here hx rfl (hb hby d8_17) k) ?_
  show Run p e below s _ _ _ (T169.setTop (mkF m 20 #[.val (.ref ar), .val (.int (1 : Int32)), .val (.ref ds), .val (.int (1 : Int32)), .val (.int (3 : Int32)), .val (.int (1 : Int32)), .val (.int c1)] [(.int (255 : Int32)), (.int c1)]))
  refine Run.pre (fun _ k => XS.icmpYes X169.here hx rfl (pc0 := 20) (pc' := 26) rfl (hb hby d8_20) rfl (flt (q1 : ¬ ((255 : Int32) < c1))).2.2.2 (by decide) (by decide) k) ?_
  show Run p e below s _ _ _ (T169.setTop (mkF m 26 #[.val (.ref ar), .val (.int (1 : Int32)), .val (.ref ds), .val (.int (1 : Int32)), .val (.int (3 : Int32)), .val (.int (1 : Int32)), .val (.int c1)] []))
  refine Run.pre (fun _ k => XS.aloadN X169.here hx rfl (hb hby d8_26) rfl rfl k) ?_
  show Run p e below s _ _ _ (T169.setTop (mkF m 27 #[.val (.ref ar), .val (.int (1 : Int32)), .val (.ref ds), .val (.int (1 : Int32)), .val (.int (3 : Int32)), .val (.int (1 : Int32)), .val (.int c1)] [(.ref ds)]))
  refine Run.pre (fun _ k => XS.iloadN X169.here hx rfl (hb hby d8_27) rfl  k) ?_
  show Run p e below s _ _ _ (T169.setTop (mkF m 28 #[.val (.ref ar), .val (.int (1 : Int32)), .val (.ref ds), .val (.int (1 : Int32)), .val (.int (3 : Int32)), .val (.int (1 : Int32)), .val (.int c1)] [(.int (1 : Int32)), (.ref ds)]))
  refine Run.pre (fun _ k => XS.iload X169.here hx rfl (hb hby d8_28) rfl  k) ?_
  show Run p e below s _ _ _ (T169.setTop (mkF m 30 #[.val (.ref ar), .val (.int (1 : Int32)), .val (.ref ds), .val (.int (1 : Int32)), .val (.int (3 : Int32)), .val (.int (1 : Int32)), .val (.int c1)] [(.int c1), (.int (1 : Int32)), (.ref ds)]))
  refine Run.pre (fun _ k => XS.i2b X169.here hx rfl (hb hby d8_30) rfl k) ?_
  show Run p e below s _ _ _ (T169.setTop (mkF m 31 #[.val (.ref ar), .val (.int (1 : Int32)), .val (.ref ds), .val (.int (1 : Int32)), .val (.int (3 : Int32)), .val (.int (1 : Int32)), .val (.int c1)] [(.int (c1.toInt8.toInt32)), (.int (1 : Int32)), (.ref ds)]))
  obtain ⟨c172, Ar172, q172, S172, N172, H172, G172⟩ := id V_ds_169
  have hin172 : ¬ ((1 : Int32) < 0 ∨ c172.slots.size ≤ ((1 : Int32)).toNatClampNeg) := inb_of S172 ⟨by decide, by decide⟩
  obtain ⟨T173, h173, X173, e173, W173, st173⟩ := stB X169 hx hZ e169 Ar172 (j := (1 : Int32)) hin172 (g := (mkF m 31 #[.val (.ref ar), .val (.int (1 : Int32)), .val (.ref ds), .val (.int (1 : Int32)), .val (.int (3 : Int32)), .val (.int (1 : Int32)), .val (.int c1)] [(.int (c1.toInt8.toInt32)), (.int (1 : Int32)), (.ref ds)])) rfl rfl (hb hby d8_31)
  refine Run.pre st173 ?_
  have V_ds_173 : Arv Z h173 ds kb .byte (3 : Int32) [(.int (nar .byte (c0.toInt8.toInt32))), (.int (nar .byte (c1.toInt8.toInt32))), (.int (0 : Int32))] (.int (0 : Int32)) := Arv.set Ar172 q172 S172 N172 H172 G172 (fits_nar_byte _) W173 1 rfl (Nat.le_of_ble_eq_true rfl)
  have K173 : Keep h0 h173 [ds] := K169.wr W173 (Or.inl (by simp))
  have N173 := Fr.snoc X173 N169 g_ds
  show Run p e below s _ _ _ (T173.setTop (mkF m 32 #[.val (.ref ar), .val (.int (1 : Int32)), .val (.ref ds), .val (.int (1 : Int32)), .val (.int (3 : Int32)), .val (.int (1 : Int32)), .val (.int c1)] []))
  refine Run.pre (fun _ k => XS.iinc X173.here hx rfl (hb hby d8_32) rfl (l' := #[.val (.ref ar), .val (.int (2 : Int32)), .val (.ref ds), .val (.int (1 : Int32)), .val (.int (3 : Int32)), .val (.int (1 : Int32)), .val (.int c1)]) rfl k) ?_
  show Run p e below s _ _ _ (T173.setTop (mkF m 35 #[.val (.ref ar), .val (.int (2 : Int32)), .val (.ref ds), .val (.int (1 : Int32)), .val (.int (3 : Int32)), .val (.int (1 : Int32)), .val (.int c1)] []))
  refine Run.pre (fun _ k => XS.iinc X173.here hx rfl (hb hby d8_35) rfl (l' := #[.val (.ref ar), .val (.int (2 : Int32)), .val (.ref ds), .val (.int (2 : Int32)), .val (.int (3 : Int32)), .val (.int (1 : Int32)), .val (.int c1)]) rfl k) ?_
  show Run p e below s _ _ _ (T173.setTop (mkF m 38 #[.val (.ref ar), .val (.int (2 : Int32)), .val (.ref ds), .val (.int (2 : Int32)), .val (.int (3 : Int32)), .val (.int (1 : Int32)), .val (.int c1)] []))
  refine Run.pre (fun _ k => XS.iinc X173.here hx rfl (hb hby d8_38) rfl (l' := #[.val (.ref ar), .val (.int (2 : Int32)), .val (.ref ds), .val (.int (2 : Int32)), .val (.int (3 : Int32)), .val (.int (2 : Int32)), .val (.int c1)]) rfl k) ?_
  show Run p e below s _ _ _ (T173.setTop (mkF m 41 #[.val (.ref ar), .val (.int (2 : Int32)), .val (.ref ds), .val (.int (2 : Int32)), .val (.int (3 : Int32)), .val (.int (2 : Int32)), .val (.int c1)] []))
  refine Run.pre (fun _ k => XS.goto X173.here hx rfl (pc0 := 41) (pc' := 3) rfl (hb hby d8_41) (by decide) (by decide) k) ?_
  show Run p e below s _ _ _ (T173.setTop (mkF m 3 #[.val (.ref ar), .val (.int (2 : Int32)), .val (.ref ds), .val (.int (2 : Int32)), .val (.int (3 : Int32)), .val (.int (2 : Int32)), .val (.int c1)] []))
  refine Run.pre (fun _ k => XS.iload X173.here hx rfl (hb hby d8_3) rfl  k) ?_
  show Run p e below s _ _ _ (T173.setTop (mkF m 5 #[.val (.ref ar), .val (.int (2 : Int32)), .val (.ref ds), .val (.int (2 : Int32)), .val (.int (3 : Int32)), .val (.int (2 : Int32)), .val (.int c1)] [(.int (2 : Int32))]))
  refine Run.pre (fun _ k => XS.iload X173.here hx rfl (hb hby d8_5) rfl  k) ?_
  show Run p e below s _ _ _ (T173.setTop (mkF m 7 #[.val (.ref ar), .val (.int (2 : Int32)), .val (.ref ds), .val (.int (2 : Int32)), .val (.int (3 : Int32)), .val (.int (2 : Int32)), .val (.int c1)] [(.int (3 : Int32)), (.int (2 : Int32))]))
  refine Run.pre (fun _ k => XS.icmpNo X173.here hx rfl (hb hby d8_7) rfl (tlt ((by decide) : (2 : Int32) < (3 : Int32))).2.1 k) ?_
  show Run p e below s _ _ _ (T173.setTop (mkF m 10 #[.val (.ref ar), .val (.int (2 : Int32)), .val (.ref ds), .val (.int (2 : Int32)), .val (.int (3 : Int32)), .val (.int (2 : Int32)), .val (.int c1)] []))
  refine Run.pre (fun _ k => XS.aloadN X173.here hx rfl (hb hby d8_10) rfl rfl k) ?_
  show Run p e below s _ _ _ (T173.setTop (mkF m 11 #[.val (.ref ar), .val (.int (2 : Int32)), .val (.ref ds), .val (.int (2 : Int32)), .val (.int (3 : Int32)), .val (.int (2 : Int32)), .val (.int c1)] [(.ref ar)]))
  refine Run.pre (fun _ k => XS.iloadN X173.here hx rfl (hb hby d8_11) rfl  k) ?_
  show Run p e below s _ _ _ (T173.setTop (mkF m 12 #[.val (.ref ar), .val (.int (2 : Int32)), .val (.ref ds), .val (.int (2 : Int32)), .val (.int (3 : Int32)), .val (.int (2 : Int32)), .val (.int c1)] [(.int (2 : Int32)), (.ref ar)]))
  have f174 := (f170.other W173 nad)
  obtain ⟨c175, Ar175, -, S175, N175, H175, -⟩ := id f174
  have hin175 : ¬ ((2 : Int32) < 0 ∨ c175.slots.size ≤ ((2 : Int32)).toNatClampNeg) := inb_of S175 ⟨by decide, by decide⟩
  refine Run.pre (X173.caload hx (j := (2 : Int32)) (v := (.int c2)) (by rw [e173]; exact Ar175.1) (State.isArrayOf_alike hZ.alike Ar175.2.1) Ar175.2.2 hin175 (H175.at hin175 rfl) (g := (mkF m 12 #[.val (.ref ar), .val (.int (2 : Int32)), .val (.ref ds), .val (.int (2 : Int32)), .val (.int (3 : Int32)), .val (.int (2 : Int32)), .val (.int c1)] [(.int (2 : Int32)), (.ref ar)])) rfl rfl (hb hby d8_12)) ?_
  show Run p e below s _ _ _ (T173.setTop (mkF m 13 #[.val (.ref ar), .val (.int (2 : Int32)), .val (.ref ds), .val (.int (2 : Int32)), .val (.int (3 : Int32)), .val (.int (2 : Int32)), .val (.int c1)] [(.int c2)]))
  refine Run.pre (fun _ k => XS.istore X173.here hx rfl (hb hby d8_13) rfl (l' := #[.val (.ref ar), .val (.int (2 : Int32)), .val (.ref ds), .val (.int (2 : Int32)), .val (.int (3 : Int32)), .val (.int (2 : Int32)), .val (.int c2)]) rfl k) ?_
  show Run p e below s _ _ _ (T173.setTop (mkF m 15 #[.val (.ref ar), .val (.int (2 : Int32)), .val (.ref ds), .val (.int (2 : Int32)), .val (.int (3 : Int32)), .val (.int (2 : Int32)), .val (.int c2)] []))
  refine Run.pre (fun _ k => XS.iload X173.here hx rfl (hb hby d8_15) rfl  k) ?_
  show Run p e below s _ _ _ (T173.setTop (mkF m 17 #[.val (.ref ar), .val (.int (2 : Int32)), .val (.ref ds), .val (.int (2 : Int32)), .val (.int (3 : Int32)), .val (.int (2 : Int32)), .val (.int c2)] [(.int c2)]))
  refine Run.pre (fun _ k => XS.sipush X173.here hx rfl (hb hby d8_17) k) ?_
  show Run p e below s _ _ _ (T173.setTop (mkF m 20 #[.val (.ref ar), .val (.int (2 : Int32)), .val (.ref ds), .val (.int (2 : Int32)), .val (.int (3 : Int32)), .val (.int (2 : Int32)), .val (.int c2)] [(.int (255 : Int32)), (.int c2)]))
  refine Run.pre (fun _ k => XS.icmpYes X173.here hx rfl (pc0 := 20) (pc' := 26) rfl (hb hby d8_20) rfl (flt (q2 : ¬ ((255 : Int32) < c2))).2.2.2 (by decide) (by decide) k) ?_
  show Run p e below s _ _ _ (T173.setTop (mkF m 26 #[.val (.ref ar), .val (.int (2 : Int32)), .val (.ref ds), .val (.int (2 : Int32)), .val (.int (3 : Int32)), .val (.int (2 : Int32)), .val (.int c2)] []))
  refine Run.pre (fun _ k => XS.aloadN X173.here hx rfl (hb hby d8_26) rfl rfl k) ?_
  show Run p e below s _ _ _ (T173.setTop (mkF m 27 #[.val (.ref ar), .val (.int (2 : Int32)), .val (.ref ds), .val (.int (2 : Int32)), .val (.int (3 : Int32)), .val (.int (2 : Int32)), .val (.int c2)] [(.ref ds)]))
  refine Run.pre (fun _ k => XS.iloadN X173.here hx rfl (hb hby d8_27) rfl  k) ?_
  show Run p e below s _ _ _ (T173.setTop (mkF m 28 #[.val (.ref ar), .val (.int (2 : Int32)), .val (.ref ds), .val (.int (2 : Int32)), .val (.int (3 : Int32)), .val (.int (2 : Int32)), .val (.int c2)] [(.int (2 : Int32)), (.ref ds)]))
  refine Run.pre (fun _ k => XS.iload X173.here hx rfl (hb hby d8_28) rfl  k) ?_
  show Run p e below s _ _ _ (T173.setTop (mkF m 30 #[.val (.ref ar), .val (.int (2 : Int32)), .val (.ref ds), .val (.int (2 : Int32)), .val (.int (3 : Int32)), .val (.int (2 : Int32)), .val (.int c2)] [(.int c2), (.int (2 : Int32)), (.ref ds)]))
  refine Run.pre (fun _ k => XS.i2b X173.here hx rfl (hb hby d8_30) rfl k) ?_
  show Run p e below s _ _ _ (T173.setTop (mkF m 31 #[.val (.ref ar), .val (.int (2 : Int32)), .val (.ref ds), .val (.int (2 : Int32)), .val (.int (3 : Int32)), .val (.int (2 : Int32)), .val (.int c2)] [(.int (c2.toInt8.toInt32)), (.int (2 : Int32)), (.ref ds)]))
  obtain ⟨c176, Ar176, q176, S176, N176, H176, G176⟩ := id V_ds_173
  have hin176 : ¬ ((2 : Int32) < 0 ∨ c176.slots.size ≤ ((2 : Int32)).toNatClampNeg) := inb_of S176 ⟨by decide, by decide⟩
  obtain ⟨T177, h177, X177, e177, W177, st177⟩ := stB X173 hx hZ e173 Ar176 (j := (2 : Int32)) hin176 (g := (mkF m 31 #[.val (.ref ar), .val (.int (2 : Int32)), .val (.ref ds), .val (.int (2 : Int32)), .val (.int (3 : Int32)), .val (.int (2 : Int32)), .val (.int c2)] [(.int (c2.toInt8.toInt32)), (.int (2 : Int32)), (.ref ds)])) rfl rfl (hb hby d8_31)
  refine Run.pre st177 ?_
  have V_ds_177 : Arv Z h177 ds kb .byte (3 : Int32) [(.int (nar .byte (c0.toInt8.toInt32))), (.int (nar .byte (c1.toInt8.toInt32))), (.int (nar .byte (c2.toInt8.toInt32)))] (.int (0 : Int32)) := Arv.set Ar176 q176 S176 N176 H176 G176 (fits_nar_byte _) W177 2 rfl (Nat.le_of_ble_eq_true rfl)
  have K177 : Keep h0 h177 [ds] := K173.wr W177 (Or.inl (by simp))
  have N177 := Fr.snoc X177 N173 g_ds
  show Run p e below s _ _ _ (T177.setTop (mkF m 32 #[.val (.ref ar), .val (.int (2 : Int32)), .val (.ref ds), .val (.int (2 : Int32)), .val (.int (3 : Int32)), .val (.int (2 : Int32)), .val (.int c2)] []))
  refine Run.pre (fun _ k => XS.iinc X177.here hx rfl (hb hby d8_32) rfl (l' := #[.val (.ref ar), .val (.int (3 : Int32)), .val (.ref ds), .val (.int (2 : Int32)), .val (.int (3 : Int32)), .val (.int (2 : Int32)), .val (.int c2)]) rfl k) ?_
  show Run p e below s _ _ _ (T177.setTop (mkF m 35 #[.val (.ref ar), .val (.int (3 : Int32)), .val (.ref ds), .val (.int (2 : Int32)), .val (.int (3 : Int32)), .val (.int (2 : Int32)), .val (.int c2)] []))
  refine Run.pre (fun _ k => XS.iinc X177.here hx rfl (hb hby d8_35) rfl (l' := #[.val (.ref ar), .val (.int (3 : Int32)), .val (.ref ds), .val (.int (3 : Int32)), .val (.int (3 : Int32)), .val (.int (2 : Int32)), .val (.int c2)]) rfl k) ?_
  show Run p e below s _ _ _ (T177.setTop (mkF m 38 #[.val (.ref ar), .val (.int (3 : Int32)), .val (.ref ds), .val (.int (3 : Int32)), .val (.int (3 : Int32)), .val (.int (2 : Int32)), .val (.int c2)] []))
  refine Run.pre (fun _ k => XS.iinc X177.here hx rfl (hb hby d8_38) rfl (l' := #[.val (.ref ar), .val (.int (3 : Int32)), .val (.ref ds), .val (.int (3 : Int32)), .val (.int (3 : Int32)), .val (.int (3 : Int32)), .val (.int c2)]) rfl k) ?_
  show Run p e below s _ _ _ (T177.setTop (mkF m 41 #[.val (.ref ar), .val (.int (3 : Int32)), .val (.ref ds), .val (.int (3 : Int32)), .val (.int (3 : Int32)), .val (.int (3 : Int32)), .val (.int c2)] []))
  refine Run.pre (fun _ k => XS.goto X177.here hx rfl (pc0 := 41) (pc' := 3) rfl (hb hby d8_41) (by decide) (by decide) k) ?_
  show Run p e below s _ _ _ (T177.setTop (mkF m 3 #[.val (.ref ar), .val (.int (3 : Int32)), .val (.ref ds), .val (.int (3 : Int32)), .val (.int (3 : Int32)), .val (.int (3 : Int32)), .val (.int c2)] []))
  refine Run.pre (fun _ k => XS.iload X177.here hx rfl (hb hby d8_3) rfl  k) ?_
  show Run p e below s _ _ _ (T177.setTop (mkF m 5 #[.val (.ref ar), .val (.int (3 : Int32)), .val (.ref ds), .val (.int (3 : Int32)), .val (.int (3 : Int32)), .val (.int (3 : Int32)), .val (.int c2)] [(.int (3 : Int32))]))
  refine Run.pre (fun _ k => XS.iload X177.here hx rfl (hb hby d8_5) rfl  k) ?_
  show Run p e below s _ _ _ (T177.setTop (mkF m 7 #[.val (.ref ar), .val (.int (3 : Int32)), .val (.ref ds), .val (.int (3 : Int32)), .val (.int (3 : Int32)), .val (.int (3 : Int32)), .val (.int c2)] [(.int (3 : Int32)), (.int (3 : Int32))]))
  refine Run.pre (fun _ k => XS.icmpYes X177.here hx rfl (pc0 := 7) (pc' := 44) rfl (hb hby d8_7) rfl (flt ((by decide) : ¬ ((3 : Int32) < (3 : Int32)))).2.1 (by decide) (by decide) k) ?_
  show Run p e below s _ _ _ (T177.setTop (mkF m 44 #[.val (.ref ar), .val (.int (3 : Int32)), .val (.ref ds), .val (.int (3 : Int32)), .val (.int (3 : Int32)), .val (.int (3 : Int32)), .val (.int c2)] []))
  refine Run.pre (fun _ k => XS.iload X177.here hx rfl (hb hby d8_44) rfl  k) ?_
  show Run p e below s _ _ _ (T177.setTop (mkF m 46 #[.val (.ref ar), .val (.int (3 : Int32)), .val (.ref ds), .val (.int (3 : Int32)), .val (.int (3 : Int32)), .val (.int (3 : Int32)), .val (.int c2)] [(.int (3 : Int32))]))
  exact Run.retI hS (by first | exact Nat.le_refl _ | (rw [e177]; exact (Nat.le_trans (Nat.le_trans (Nat.le_trans (Nat.zero_le _) (Keep.of_wr W169).1) (Keep.of_wr W173).1) (Keep.of_wr W177).1))) X177 hx hret hlk (hb hby d8_46) (by first | (rw [e177]; exact ⟨rfl, N177, K177, V_ds_177⟩) | exact ⟨rfl, N177, K177, V_ds_177⟩) (by decide) (by decide)
set_option maxRecDepth 65536 in
set_option maxHeartbeats 40000000 in
theorem rmNL_3 (l : Launch) (Z : State) (a0 : Array Value) (hw : ∀ d ∈ tables_1, d.before a0 Z = true)  (h0 : Heap) (n0 : Nat) (Z0 : n0 ≤ h0.size) :
    Con l (⟨"java/lang/StringUTF16", "newBytesLength", "(I)I"⟩ : MethodName) jdk_52_method_3_code 1 (some .int) ({ frames := 0, cells := 0, slots := 0, locals := 0 } : Room) Z #[(.int (3 : Int32))] h0 (fun _ => True) (fun v h L vm => v = some (.int 6) ∧ Fr n0 L ∧ h = h0) := by
  refine Con.mk (plainFor_of_name pn_11) (fun m => show entryFrame m #[(.int (3 : Int32))] 1 = mkF m 0 #[.val (.int (3 : Int32))] [] by first | (simp [entryFrame, mkF, argsToLocals, Value.category]; done) | rfl) ?_
  intro p e s m below meth c s₁ vm0 hx hby hml hown hnm hret hlk hZ X0 e0 hS hs0 hP0
  have N0 := Fr.nil n0
  show Run p e below s _ _ _ (s₁.setTop (mkF m 0 #[.val (.int (3 : Int32))] []))
  refine Run.pre (fun _ k => XS.iloadN X0.here hx rfl (hb hby d11_0) rfl  k) ?_
  show Run p e below s _ _ _ (s₁.setTop (mkF m 1 #[.val (.int (3 : Int32))] [(.int (3 : Int32))]))
  refine Run.pre (fun _ k => XS.ifYes X0.here hx rfl (pc0 := 1) (pc' := 12) rfl (hb hby d11_1) rfl ((if0 _ _).trans (flt ((by decide) : ¬ ((3 : Int32) < (0 : Int32)))).2.1) (by decide) (by decide) k) ?_
  show Run p e below s _ _ _ (s₁.setTop (mkF m 12 #[.val (.int (3 : Int32))] []))
  refine Run.pre (fun _ k => XS.iloadN X0.here hx rfl (hb hby d11_12) rfl  k) ?_
  show Run p e below s _ _ _ (s₁.setTop (mkF m 13 #[.val (.int (3 : Int32))] [(.int (3 : Int32))]))
  refine Run.pre (X0.ldcInt hx hown (mvT hZ (hw _ (List.mem_of_getElem? (i := 53) rfl))) (g := (mkF m 13 #[.val (.int (3 : Int32))] [(.int (3 : Int32))])) rfl (hb hby d11_13)) ?_
  show Run p e below s _ _ _ (s₁.setTop (mkF m 15 #[.val (.int (3 : Int32))] [(.int (1073741823 : Int32)), (.int (3 : Int32))]))
  refine Run.pre (fun _ k => XS.icmpYes X0.here hx rfl (pc0 := 15) (pc' := 55) rfl (hb hby d11_15) rfl (tlt ((by decide) : (3 : Int32) < (1073741823 : Int32))).1 (by decide) (by decide) k) ?_
  show Run p e below s _ _ _ (s₁.setTop (mkF m 55 #[.val (.int (3 : Int32))] []))
  refine Run.pre (fun _ k => XS.iloadN X0.here hx rfl (hb hby d11_55) rfl  k) ?_
  show Run p e below s _ _ _ (s₁.setTop (mkF m 56 #[.val (.int (3 : Int32))] [(.int (3 : Int32))]))
  refine Run.pre (fun _ k => XS.iconst X0.here hx rfl (hb hby d11_56) k) ?_
  show Run p e below s _ _ _ (s₁.setTop (mkF m 57 #[.val (.int (3 : Int32))] [(.int (1 : Int32)), (.int (3 : Int32))]))
  refine Run.pre (fun _ k => XS.ishl X0.here hx rfl (hb hby d11_57) rfl k) ?_
  show Run p e below s _ _ _ (s₁.setTop (mkF m 58 #[.val (.int (3 : Int32))] [(.int (6 : Int32))]))
  exact Run.retI hS (by first | exact Nat.le_refl _ | (rw [e0]; exact (Nat.zero_le _))) X0 hx hret hlk (hb hby d11_58) (by first | (rw [e0]; exact ⟨rfl, N0, rfl⟩) | exact ⟨rfl, N0, rfl⟩) (by decide) (by decide)
set_option maxRecDepth 65536 in
set_option maxHeartbeats 40000000 in
theorem rmNF_3 (l : Launch) (Z : State) (a0 : Array Value) (hw : ∀ d ∈ tables_1, d.before a0 Z = true)  (h0 : Heap) (n0 : Nat) (Z0 : n0 ≤ h0.size) :
    Con l (⟨"java/lang/StringUTF16", "newBytesFor", "(I)[B"⟩ : MethodName) jdk_52_method_2_code 1 (some (.array .byte)) ({ frames := 1, cells := 1, slots := 6, locals := 12 } : Room) Z #[(.int (3 : Int32))] h0 (fun _ => True) (fun v h L vm => ∃ b : Addr, ∃ k : ClassId, v = some (.ref b) ∧ Fr n0 L ∧ Keep h0 h [] ∧ h0.size ≤ b ∧ Arv Z h b k .byte 6 [(.int (0 : Int32)), (.int (0 : Int32)), (.int (0 : Int32)), (.int (0 : Int32)), (.int (0 : Int32)), (.int (0 : Int32))] (.int 0)) := by
  refine Con.mk (plainFor_of_name pn_10) (fun m => show entryFrame m #[(.int (3 : Int32))] 1 = mkF m 0 #[.val (.int (3 : Int32))] [] by first | (simp [entryFrame, mkF, argsToLocals, Value.category]; done) | rfl) ?_
  intro p e s m below meth c s₁ vm0 hx hby hml hown hnm hret hlk hZ X0 e0 hS hs0 hP0
  have N0 := Fr.nil n0
  show Run p e below s _ _ _ (s₁.setTop (mkF m 0 #[.val (.int (3 : Int32))] []))
  refine Run.pre (fun _ k => XS.iloadN X0.here hx rfl (hb hby d10_0) rfl  k) ?_
  show Run p e below s _ _ _ (s₁.setTop (mkF m 1 #[.val (.int (3 : Int32))] [(.int (3 : Int32))]))
  refine Run.callS hS (by first | exact Nat.le_refl _ | (rw [e0]; exact (Nat.zero_le _))) X0 hx hZ (y := (⟨"java/lang/StringUTF16", "newBytesLength", "(I)I"⟩ : MethodName)) hown (hw _ (List.mem_of_getElem? (i := 50) rfl)) (hw _ (List.mem_of_getElem? (i := 51) rfl)) (hw _ (List.mem_of_getElem? (i := 39) rfl)) (hw _ (List.mem_of_getElem? (i := 52) rfl)) (by decide) (W := 0) (rmNL_3 l Z a0 hw h0 n0 (Nat.le_trans Z0 (Keep.refl h0 []).1)) e0 (by decide) (by decide) (by decide) (by decide) (fun _ _ => trivial) (g := (mkF m 1 #[.val (.int (3 : Int32))] [(.int (3 : Int32))])) rfl (by rw [hml]; rfl) (argsL := [(.int (3 : Int32))]) (rest := []) (lenOf pd_0 rfl) rfl (by show 2 * 0 + _ ≤ _; exact Nat.le_of_eq rfl) (hb hby d10_1) ?_
  intro v178 T178 L178 X178 hS hZ hown hV178 hQ178
  obtain ⟨rfl, Nq178, he178⟩ := hQ178
  have N178 := Fr.app N0 Nq178
  have e178 : T178.heap = h0 := he178
  show Run p e below s _ _ _ (T178.setTop (mkF m 4 #[.val (.int (3 : Int32))] [(.int (6 : Int32))]))
  obtain ⟨T179, h179, k179, X179, e179, E179, A179, st179⟩ := newP X178 hx hZ (hw _ (List.mem_of_getElem? (i := 20) rfl)) e178 (g := (mkF m 4 #[.val (.int (3 : Int32))] [(.int (6 : Int32))])) rfl (hb hby d10_4) rfl (by decide) (cap := 6) (by decide) (by decide) (by decide) (by decide)
  obtain ⟨b179, g179⟩ : ∃ z, z = h0.size := ⟨_, rfl⟩
  rw [← g179] at A179 st179
  refine Run.pre st179 ?_
  have V_b179 : Arv Z h179 b179 k179 .byte (6 : Int32) [(.int (0 : Int32)), (.int (0 : Int32)), (.int (0 : Int32)), (.int (0 : Int32)), (.int (0 : Int32)), (.int (0 : Int32))] (.int (0 : Int32)) := (Arv.new A179 (by decide)).pad (pad_rep [] (.int (0 : Int32)) 6)
  have gn_b179 : n0 ≤ b179 := Nat.le_trans (Nat.le_trans Z0 (Keep.refl h0 []).1) (Nat.le_of_eq g179.symm)
  have sz_b179 : h0.size ≤ b179 := Nat.le_trans (Keep.refl h0 []).1 (Nat.le_of_eq g179.symm)
  have K179 : Keep h0 h179 [] := (Keep.refl h0 []).ext E179
  show Run p e below s _ _ _ (T179.setTop (mkF m 6 #[.val (.int (3 : Int32))] [(.ref b179)]))
  exact Run.retA hS (by first | exact Nat.le_refl _ | (rw [e179]; exact (Nat.le_trans (Nat.le_of_eq (congrArg Array.size e178)) E179.1))) X179 hx hret rfl rfl hlk (hb hby d10_6) (by first | (rw [e179]; exact ⟨b179, k179, rfl, N178, K179, sz_b179, V_b179⟩) | exact ⟨b179, k179, rfl, N178, K179, sz_b179, V_b179⟩) (by decide) (by decide)
set_option maxRecDepth 65536 in
set_option maxHeartbeats 40000000 in
theorem rmPC_3_0 (l : Launch) (Z : State) (a0 : Array Value) (hw : ∀ d ∈ tables_1, d.before a0 Z = true) (b : Addr) (kb : ClassId) (cj : Int32) (y0 : Int32) (y1 : Int32) (y2 : Int32) (y3 : Int32) (y4 : Int32) (y5 : Int32) (h0 : Heap) (n0 : Nat) (Z0 : n0 ≤ h0.size) (OL : Old Z n0 h0) (SA : Sta Z Z.heap "java/lang/StringUTF16" "$assertionsDisabled" "Z" (.int 1)) (SH : Sta Z Z.heap "java/lang/StringUTF16" "HI_BYTE_SHIFT" "I" (.int 0)) (SL : Sta Z Z.heap "java/lang/StringUTF16" "LO_BYTE_SHIFT" "I" (.int 8)) (AB : Arv Z h0 b kb .byte 6 [(.int y0), (.int y1), (.int y2), (.int y3), (.int y4), (.int y5)] (.int 0)) (g_b : n0 ≤ b) :
    Con l (⟨"java/lang/StringUTF16", "putChar", "([BII)V"⟩ : MethodName) jdk_52_method_4_code 3 none ({ frames := 0, cells := 0, slots := 0, locals := 0 } : Room) Z #[(.ref b), (.int (0 : Int32)), (.int cj)] h0 (fun _ => True) (fun v h L vm => v = none ∧ Fr n0 L ∧ Keep h0 h [b] ∧ Arv Z h b kb .byte 6 [(.int (own_b0 cj)), (.int (own_b1 cj)), (.int y2), (.int y3), (.int y4), (.int y5)] (.int 0)) := by
  refine Con.mk (plainFor_of_name pn_12) (fun m => show entryFrame m #[(.ref b), (.int (0 : Int32)), (.int cj)] 3 = mkF m 0 #[.val (.ref b), .val (.int (0 : Int32)), .val (.int cj)] [] by first | (simp [entryFrame, mkF, argsToLocals, Value.category]; done) | rfl) ?_
  intro p e s m below meth c s₁ vm0 hx hby hml hown hnm hret hlk hZ X0 e0 hS hs0 hP0
  have N0 := Fr.nil n0
  show Run p e below s _ _ _ (s₁.setTop (mkF m 0 #[.val (.ref b), .val (.int (0 : Int32)), .val (.int cj)] []))
  obtain ⟨T180, X180, e180, st180⟩ := getS2 X0 hx hZ hown (host := "") (Or.inl (hw _ (List.mem_of_getElem? (i := 57) rfl))) Via.refl e0 (SA.ext OL.2) (g := (mkF m 0 #[.val (.ref b), .val (.int (0 : Int32)), .val (.int cj)] [])) rfl (hb hby d12_0)
  refine Run.pre st180 ?_
  show Run p e below s _ _ _ (T180.setTop (mkF m 3 #[.val (.ref b), .val (.int (0 : Int32)), .val (.int cj)] [(.int (1 : Int32))]))
  refine Run.pre (fun _ k => XS.ifYes X180.here hx rfl (pc0 := 3) (pc' := 28) rfl (hb hby d12_3) rfl ((if0 _ _).trans (feq ((by decide) : ¬ ((1 : Int32) = (0 : Int32)))).2) (by decide) (by decide) k) ?_
  show Run p e below s _ _ _ (T180.setTop (mkF m 28 #[.val (.ref b), .val (.int (0 : Int32)), .val (.int cj)] []))
  refine Run.pre (fun _ k => XS.iloadN X180.here hx rfl (hb hby d12_28) rfl  k) ?_
  show Run p e below s _ _ _ (T180.setTop (mkF m 29 #[.val (.ref b), .val (.int (0 : Int32)), .val (.int cj)] [(.int (0 : Int32))]))
  refine Run.pre (fun _ k => XS.iconst X180.here hx rfl (hb hby d12_29) k) ?_
  show Run p e below s _ _ _ (T180.setTop (mkF m 30 #[.val (.ref b), .val (.int (0 : Int32)), .val (.int cj)] [(.int (1 : Int32)), (.int (0 : Int32))]))
  refine Run.pre (fun _ k => XS.ishl X180.here hx rfl (hb hby d12_30) rfl k) ?_
  show Run p e below s _ _ _ (T180.setTop (mkF m 31 #[.val (.ref b), .val (.int (0 : Int32)), .val (.int cj)] [(.int (0 : Int32))]))
  refine Run.pre (fun _ k => XS.istoreN X180.here hx rfl (hb hby d12_31) rfl (l' := #[.val (.ref b), .val (.int (0 : Int32)), .val (.int cj)]) rfl k) ?_
  show Run p e below s _ _ _ (T180.setTop (mkF m 32 #[.val (.ref b), .val (.int (0 : Int32)), .val (.int cj)] []))
  refine Run.pre (fun _ k => XS.aloadN X180.here hx rfl (hb hby d12_32) rfl rfl k) ?_
  show Run p e below s _ _ _ (T180.setTop (mkF m 33 #[.val (.ref b), .val (.int (0 : Int32)), .val (.int cj)] [(.ref b)]))
  refine Run.pre (fun _ k => XS.iloadN X180.here hx rfl (hb hby d12_33) rfl  k) ?_
  show Run p e below s _ _ _ (T180.setTop (mkF m 34 #[.val (.ref b), .val (.int (0 : Int32)), .val (.int cj)] [(.int (0 : Int32)), (.ref b)]))
  refine Run.pre (fun _ k => XS.iinc X180.here hx rfl (hb hby d12_34) rfl (l' := #[.val (.ref b), .val (.int (1 : Int32)), .val (.int cj)]) rfl k) ?_
  show Run p e below s _ _ _ (T180.setTop (mkF m 37 #[.val (.ref b), .val (.int (1 : Int32)), .val (.int cj)] [(.int (0 : Int32)), (.ref b)]))
  refine Run.pre (fun _ k => XS.iloadN X180.here hx rfl (hb hby d12_37) rfl  k) ?_
  show Run p e below s _ _ _ (T180.setTop (mkF m 38 #[.val (.ref b), .val (.int (1 : Int32)), .val (.int cj)] [(.int cj), (.int (0 : Int32)), (.ref b)]))
  obtain ⟨T181, X181, e181, st181⟩ := getS2 X180 hx hZ hown (host := "") (Or.inl (hw _ (List.mem_of_getElem? (i := 58) rfl))) Via.refl e180 (SH.ext OL.2) (g := (mkF m 38 #[.val (.ref b), .val (.int (1 : Int32)), .val (.int cj)] [(.int cj), (.int (0 : Int32)), (.ref b)])) rfl (hb hby d12_38)
  refine Run.pre st181 ?_
  show Run p e below s _ _ _ (T181.setTop (mkF m 41 #[.val (.ref b), .val (.int (1 : Int32)), .val (.int cj)] [(.int (0 : Int32)), (.int cj), (.int (0 : Int32)), (.ref b)]))
  refine Run.pre (fun _ k => XS.ishr X181.here hx rfl (hb hby d12_41) rfl k) ?_
  show Run p e below s _ _ _ (T181.setTop (mkF m 42 #[.val (.ref b), .val (.int (1 : Int32)), .val (.int cj)] [(.int (cj >>> ((0 : Int32) &&& 31))), (.int (0 : Int32)), (.ref b)]))
  refine Run.pre (fun _ k => XS.i2b X181.here hx rfl (hb hby d12_42) rfl k) ?_
  show Run p e below s _ _ _ (T181.setTop (mkF m 43 #[.val (.ref b), .val (.int (1 : Int32)), .val (.int cj)] [(.int ((cj >>> ((0 : Int32) &&& 31)).toInt8.toInt32)), (.int (0 : Int32)), (.ref b)]))
  obtain ⟨c182, Ar182, q182, S182, N182, H182, G182⟩ := id AB
  have hin182 : ¬ ((0 : Int32) < 0 ∨ c182.slots.size ≤ ((0 : Int32)).toNatClampNeg) := inb_of S182 ⟨by decide, by decide⟩
  obtain ⟨T183, h183, X183, e183, W183, st183⟩ := stB X181 hx hZ e181 Ar182 (j := (0 : Int32)) hin182 (g := (mkF m 43 #[.val (.ref b), .val (.int (1 : Int32)), .val (.int cj)] [(.int ((cj >>> ((0 : Int32) &&& 31)).toInt8.toInt32)), (.int (0 : Int32)), (.ref b)])) rfl rfl (hb hby d12_43)
  refine Run.pre st183 ?_
  have V_b_183 : Arv Z h183 b kb .byte (6 : Int32) [(.int (nar .byte ((cj >>> ((0 : Int32) &&& 31)).toInt8.toInt32))), (.int y1), (.int y2), (.int y3), (.int y4), (.int y5)] (.int (0 : Int32)) := Arv.set Ar182 q182 S182 N182 H182 G182 (fits_nar_byte _) W183 0 rfl (Nat.le_of_ble_eq_true rfl)
  have K183 : Keep h0 h183 [b] := (Keep.refl h0 [b]).wr W183 (Or.inl (by simp))
  have N183 := Fr.snoc X183 N0 g_b
  show Run p e below s _ _ _ (T183.setTop (mkF m 44 #[.val (.ref b), .val (.int (1 : Int32)), .val (.int cj)] []))
  refine Run.pre (fun _ k => XS.aloadN X183.here hx rfl (hb hby d12_44) rfl rfl k) ?_
  show Run p e below s _ _ _ (T183.setTop (mkF m 45 #[.val (.ref b), .val (.int (1 : Int32)), .val (.int cj)] [(.ref b)]))
  refine Run.pre (fun _ k => XS.iloadN X183.here hx rfl (hb hby d12_45) rfl  k) ?_
  show Run p e below s _ _ _ (T183.setTop (mkF m 46 #[.val (.ref b), .val (.int (1 : Int32)), .val (.int cj)] [(.int (1 : Int32)), (.ref b)]))
  refine Run.pre (fun _ k => XS.iloadN X183.here hx rfl (hb hby d12_46) rfl  k) ?_
  show Run p e below s _ _ _ (T183.setTop (mkF m 47 #[.val (.ref b), .val (.int (1 : Int32)), .val (.int cj)] [(.int cj), (.int (1 : Int32)), (.ref b)]))
  have f184 := (OL.wr W183 g_b)
  obtain ⟨T185, X185, e185, st185⟩ := getS2 X183 hx hZ hown (host := "") (Or.inl (hw _ (List.mem_of_getElem? (i := 59) rfl))) Via.refl e183 (SL.ext f184.2) (g := (mkF m 47 #[.val (.ref b), .val (.int (1 : Int32)), .val (.int cj)] [(.int cj), (.int (1 : Int32)), (.ref b)])) rfl (hb hby d12_47)
  refine Run.pre st185 ?_
  show Run p e below s _ _ _ (T185.setTop (mkF m 50 #[.val (.ref b), .val (.int (1 : Int32)), .val (.int cj)] [(.int (8 : Int32)), (.int cj), (.int (1 : Int32)), (.ref b)]))
  refine Run.pre (fun _ k => XS.ishr X185.here hx rfl (hb hby d12_50) rfl k) ?_
  show Run p e below s _ _ _ (T185.setTop (mkF m 51 #[.val (.ref b), .val (.int (1 : Int32)), .val (.int cj)] [(.int (cj >>> ((8 : Int32) &&& 31))), (.int (1 : Int32)), (.ref b)]))
  refine Run.pre (fun _ k => XS.i2b X185.here hx rfl (hb hby d12_51) rfl k) ?_
  show Run p e below s _ _ _ (T185.setTop (mkF m 52 #[.val (.ref b), .val (.int (1 : Int32)), .val (.int cj)] [(.int ((cj >>> ((8 : Int32) &&& 31)).toInt8.toInt32)), (.int (1 : Int32)), (.ref b)]))
  obtain ⟨c186, Ar186, q186, S186, N186, H186, G186⟩ := id V_b_183
  have hin186 : ¬ ((1 : Int32) < 0 ∨ c186.slots.size ≤ ((1 : Int32)).toNatClampNeg) := inb_of S186 ⟨by decide, by decide⟩
  obtain ⟨T187, h187, X187, e187, W187, st187⟩ := stB X185 hx hZ e185 Ar186 (j := (1 : Int32)) hin186 (g := (mkF m 52 #[.val (.ref b), .val (.int (1 : Int32)), .val (.int cj)] [(.int ((cj >>> ((8 : Int32) &&& 31)).toInt8.toInt32)), (.int (1 : Int32)), (.ref b)])) rfl rfl (hb hby d12_52)
  refine Run.pre st187 ?_
  have V_b_187 : Arv Z h187 b kb .byte (6 : Int32) [(.int (nar .byte ((cj >>> ((0 : Int32) &&& 31)).toInt8.toInt32))), (.int (nar .byte ((cj >>> ((8 : Int32) &&& 31)).toInt8.toInt32))), (.int y2), (.int y3), (.int y4), (.int y5)] (.int (0 : Int32)) := Arv.set Ar186 q186 S186 N186 H186 G186 (fits_nar_byte _) W187 1 rfl (Nat.le_of_ble_eq_true rfl)
  have K187 : Keep h0 h187 [b] := K183.wr W187 (Or.inl (by simp))
  have N187 := Fr.snoc X187 N183 g_b
  show Run p e below s _ _ _ (T187.setTop (mkF m 53 #[.val (.ref b), .val (.int (1 : Int32)), .val (.int cj)] []))
  exact Run.retV hS (by first | exact Nat.le_refl _ | (rw [e187]; exact (Nat.le_trans (Nat.le_trans (Nat.zero_le _) (Keep.of_wr W183).1) (Keep.of_wr W187).1))) X187 hx hret hlk (hb hby d12_53) (by first | (rw [e187]; exact ⟨rfl, N187, K187, V_b_187⟩) | exact ⟨rfl, N187, K187, V_b_187⟩) (by decide) (by decide)
set_option maxRecDepth 65536 in
set_option maxHeartbeats 40000000 in
theorem rmGC_3_0 (l : Launch) (Z : State) (a0 : Array Value) (hw : ∀ d ∈ tables_1, d.before a0 Z = true) (b : Addr) (kb : ClassId) (y0 : Int32) (y1 : Int32) (y2 : Int32) (y3 : Int32) (y4 : Int32) (y5 : Int32) (h0 : Heap) (n0 : Nat) (Z0 : n0 ≤ h0.size) (OL : Old Z n0 h0) (SA : Sta Z Z.heap "java/lang/StringUTF16" "$assertionsDisabled" "Z" (.int 1)) (SH : Sta Z Z.heap "java/lang/StringUTF16" "HI_BYTE_SHIFT" "I" (.int 0)) (SL : Sta Z Z.heap "java/lang/StringUTF16" "LO_BYTE_SHIFT" "I" (.int 8)) (AB : Arv Z h0 b kb .byte 6 [(.int y0), (.int y1), (.int y2), (.int y3), (.int y4), (.int y5)] (.int 0)) :
    Con l (⟨"java/lang/StringUTF16", "getChar", "([BI)C"⟩ : MethodName) jdk_52_method_5_code 2 (some .char) ({ frames := 0, cells := 0, slots := 0, locals := 0 } : Room) Z #[(.ref b), (.int (0 : Int32))] h0 (fun _ => True) (fun v h L vm => v = some (.int (own_gcv y0 y1)) ∧ Fr n0 L ∧ h = h0) := by
  refine Con.mk (plainFor_of_name pn_13) (fun m => show entryFrame m #[(.ref b), (.int (0 : Int32))] 2 = mkF m 0 #[.val (.ref b), .val (.int (0 : Int32))] [] by first | (simp [entryFrame, mkF, argsToLocals, Value.category]; done) | rfl) ?_
  intro p e s m below meth c s₁ vm0 hx hby hml hown hnm hret hlk hZ X0 e0 hS hs0 hP0
  have N0 := Fr.nil n0
  show Run p e below s _ _ _ (s₁.setTop (mkF m 0 #[.val (.ref b), .val (.int (0 : Int32))] []))
  obtain ⟨T188, X188, e188, st188⟩ := getS2 X0 hx hZ hown (host := "") (Or.inl (hw _ (List.mem_of_getElem? (i := 57) rfl))) Via.refl e0 (SA.ext OL.2) (g := (mkF m 0 #[.val (.ref b), .val (.int (0 : Int32))] [])) rfl (hb hby d13_0)
  refine Run.pre st188 ?_
  show Run p e below s _ _ _ (T188.setTop (mkF m 3 #[.val (.ref b), .val (.int (0 : Int32))] [(.int (1 : Int32))]))
  refine Run.pre (fun _ k => XS.ifYes X188.here hx rfl (pc0 := 3) (pc' := 28) rfl (hb hby d13_3) rfl ((if0 _ _).trans (feq ((by decide) : ¬ ((1 : Int32) = (0 : Int32)))).2) (by decide) (by decide) k) ?_
  show Run p e below s _ _ _ (T188.setTop (mkF m 28 #[.val (.ref b), .val (.int (0 : Int32))] []))
  refine Run.pre (fun _ k => XS.iloadN X188.here hx rfl (hb hby d13_28) rfl  k) ?_
  show Run p e below s _ _ _ (T188.setTop (mkF m 29 #[.val (.ref b), .val (.int (0 : Int32))] [(.int (0 : Int32))]))
  refine Run.pre (fun _ k => XS.iconst X188.here hx rfl (hb hby d13_29) k) ?_
  show Run p e below s _ _ _ (T188.setTop (mkF m 30 #[.val (.ref b), .val (.int (0 : Int32))] [(.int (1 : Int32)), (.int (0 : Int32))]))
  refine Run.pre (fun _ k => XS.ishl X188.here hx rfl (hb hby d13_30) rfl k) ?_
  show Run p e below s _ _ _ (T188.setTop (mkF m 31 #[.val (.ref b), .val (.int (0 : Int32))] [(.int (0 : Int32))]))
  refine Run.pre (fun _ k => XS.istoreN X188.here hx rfl (hb hby d13_31) rfl (l' := #[.val (.ref b), .val (.int (0 : Int32))]) rfl k) ?_
  show Run p e below s _ _ _ (T188.setTop (mkF m 32 #[.val (.ref b), .val (.int (0 : Int32))] []))
  refine Run.pre (fun _ k => XS.aloadN X188.here hx rfl (hb hby d13_32) rfl rfl k) ?_
  show Run p e below s _ _ _ (T188.setTop (mkF m 33 #[.val (.ref b), .val (.int (0 : Int32))] [(.ref b)]))
  refine Run.pre (fun _ k => XS.iloadN X188.here hx rfl (hb hby d13_33) rfl  k) ?_
  show Run p e below s _ _ _ (T188.setTop (mkF m 34 #[.val (.ref b), .val (.int (0 : Int32))] [(.int (0 : Int32)), (.ref b)]))
  refine Run.pre (fun _ k => XS.iinc X188.here hx rfl (hb hby d13_34) rfl (l' := #[.val (.ref b), .val (.int (1 : Int32))]) rfl k) ?_
  show Run p e below s _ _ _ (T188.setTop (mkF m 37 #[.val (.ref b), .val (.int (1 : Int32))] [(.int (0 : Int32)), (.ref b)]))
  obtain ⟨c189, Ar189, -, S189, N189, H189, -⟩ := id AB
  have hin189 : ¬ ((0 : Int32) < 0 ∨ c189.slots.size ≤ ((0 : Int32)).toNatClampNeg) := inb_of S189 ⟨by decide, by decide⟩
  refine Run.pre (X188.baloadBytes hx (j := (0 : Int32)) (v := (.int y0)) (by rw [e188]; exact Ar189.1) (State.isArrayOf_alike hZ.alike Ar189.2.1) Ar189.2.2 hin189 (H189.at hin189 rfl) (g := (mkF m 37 #[.val (.ref b), .val (.int (1 : Int32))] [(.int (0 : Int32)), (.ref b)])) rfl rfl (hb hby d13_37)) ?_
  show Run p e below s _ _ _ (T188.setTop (mkF m 38 #[.val (.ref b), .val (.int (1 : Int32))] [(.int y0)]))
  refine Run.pre (fun _ k => XS.sipush X188.here hx rfl (hb hby d13_38) k) ?_
  show Run p e below s _ _ _ (T188.setTop (mkF m 41 #[.val (.ref b), .val (.int (1 : Int32))] [(.int (255 : Int32)), (.int y0)]))
  refine Run.pre (fun _ k => XS.iand X188.here hx rfl (hb hby d13_41) rfl k) ?_
  show Run p e below s _ _ _ (T188.setTop (mkF m 42 #[.val (.ref b), .val (.int (1 : Int32))] [(.int (y0 &&& (255 : Int32)))]))
  obtain ⟨T190, X190, e190, st190⟩ := getS2 X188 hx hZ hown (host := "") (Or.inl (hw _ (List.mem_of_getElem? (i := 58) rfl))) Via.refl e188 (SH.ext OL.2) (g := (mkF m 42 #[.val (.ref b), .val (.int (1 : Int32))] [(.int (y0 &&& (255 : Int32)))])) rfl (hb hby d13_42)
  refine Run.pre st190 ?_
  show Run p e below s _ _ _ (T190.setTop (mkF m 45 #[.val (.ref b), .val (.int (1 : Int32))] [(.int (0 : Int32)), (.int (y0 &&& (255 : Int32)))]))
  refine Run.pre (fun _ k => XS.ishl X190.here hx rfl (hb hby d13_45) rfl k) ?_
  show Run p e below s _ _ _ (T190.setTop (mkF m 46 #[.val (.ref b), .val (.int (1 : Int32))] [(.int ((y0 &&& (255 : Int32)) <<< ((0 : Int32) &&& 31)))]))
  refine Run.pre (fun _ k => XS.aloadN X190.here hx rfl (hb hby d13_46) rfl rfl k) ?_
  show Run p e below s _ _ _ (T190.setTop (mkF m 47 #[.val (.ref b), .val (.int (1 : Int32))] [(.ref b), (.int ((y0 &&& (255 : Int32)) <<< ((0 : Int32) &&& 31)))]))
  refine Run.pre (fun _ k => XS.iloadN X190.here hx rfl (hb hby d13_47) rfl  k) ?_
  show Run p e below s _ _ _ (T190.setTop (mkF m 48 #[.val (.ref b), .val (.int (1 : Int32))] [(.int (1 : Int32)), (.ref b), (.int ((y0 &&& (255 : Int32)) <<< ((0 : Int32) &&& 31)))]))
  obtain ⟨c191, Ar191, -, S191, N191, H191, -⟩ := id AB
  have hin191 : ¬ ((1 : Int32) < 0 ∨ c191.slots.size ≤ ((1 : Int32)).toNatClampNeg) := inb_of S191 ⟨by decide, by decide⟩
  refine Run.pre (X190.baloadBytes hx (j := (1 : Int32)) (v := (.int y1)) (by rw [e190]; exact Ar191.1) (State.isArrayOf_alike hZ.alike Ar191.2.1) Ar191.2.2 hin191 (H191.at hin191 rfl) (g := (mkF m 48 #[.val (.ref b), .val (.int (1 : Int32))] [(.int (1 : Int32)), (.ref b), (.int ((y0 &&& (255 : Int32)) <<< ((0 : Int32) &&& 31)))])) rfl rfl (hb hby d13_48)) ?_
  show Run p e below s _ _ _ (T190.setTop (mkF m 49 #[.val (.ref b), .val (.int (1 : Int32))] [(.int y1), (.int ((y0 &&& (255 : Int32)) <<< ((0 : Int32) &&& 31)))]))
  refine Run.pre (fun _ k => XS.sipush X190.here hx rfl (hb hby d13_49) k) ?_
  show Run p e below s _ _ _ (T190.setTop (mkF m 52 #[.val (.ref b), .val (.int (1 : Int32))] [(.int (255 : Int32)), (.int y1), (.int ((y0 &&& (255 : Int32)) <<< ((0 : Int32) &&& 31)))]))
  refine Run.pre (fun _ k => XS.iand X190.here hx rfl (hb hby d13_52) rfl k) ?_
  show Run p e below s _ _ _ (T190.setTop (mkF m 53 #[.val (.ref b), .val (.int (1 : Int32))] [(.int (y1 &&& (255 : Int32))), (.int ((y0 &&& (255 : Int32)) <<< ((0 : Int32) &&& 31)))]))
  obtain ⟨T192, X192, e192, st192⟩ := getS2 X190 hx hZ hown (host := "") (Or.inl (hw _ (List.mem_of_getElem? (i := 59) rfl))) Via.refl e190 (SL.ext OL.2) (g := (mkF m 53 #[.val (.ref b), .val (.int (1 : Int32))] [(.int (y1 &&& (255 : Int32))), (.int ((y0 &&& (255 : Int32)) <<< ((0 : Int32) &&& 31)))])) rfl (hb hby d13_53)
  refine Run.pre st192 ?_
  show Run p e below s _ _ _ (T192.setTop (mkF m 56 #[.val (.ref b), .val (.int (1 : Int32))] [(.int (8 : Int32)), (.int (y1 &&& (255 : Int32))), (.int ((y0 &&& (255 : Int32)) <<< ((0 : Int32) &&& 31)))]))
  refine Run.pre (fun _ k => XS.ishl X192.here hx rfl (hb hby d13_56) rfl k) ?_
  show Run p e below s _ _ _ (T192.setTop (mkF m 57 #[.val (.ref b), .val (.int (1 : Int32))] [(.int ((y1 &&& (255 : Int32)) <<< ((8 : Int32) &&& 31))), (.int ((y0 &&& (255 : Int32)) <<< ((0 : Int32) &&& 31)))]))
  refine Run.pre (fun _ k => XS.ior X192.here hx rfl (hb hby d13_57) rfl k) ?_
  show Run p e below s _ _ _ (T192.setTop (mkF m 58 #[.val (.ref b), .val (.int (1 : Int32))] [(.int (((y0 &&& (255 : Int32)) <<< ((0 : Int32) &&& 31)) ||| ((y1 &&& (255 : Int32)) <<< ((8 : Int32) &&& 31))))]))
  refine Run.pre (fun _ k => XS.i2c X192.here hx rfl (hb hby d13_58) rfl k) ?_
  show Run p e below s _ _ _ (T192.setTop (mkF m 59 #[.val (.ref b), .val (.int (1 : Int32))] [(.int ((((y0 &&& (255 : Int32)) <<< ((0 : Int32) &&& 31)) ||| ((y1 &&& (255 : Int32)) <<< ((8 : Int32) &&& 31))).toUInt32.toUInt16.toUInt32.toInt32))]))
  exact Run.retN hS (by first | exact Nat.le_refl _ | (rw [e192]; exact (Nat.zero_le _))) X192 hx hret (t := .char) (by simp) hlk (hb hby d13_59) (by first | (rw [e192]; exact ⟨rfl, N0, rfl⟩) | exact ⟨rfl, N0, rfl⟩) (by decide) (by decide)
set_option maxRecDepth 65536 in
set_option maxHeartbeats 40000000 in
theorem rmPC_3_1 (l : Launch) (Z : State) (a0 : Array Value) (hw : ∀ d ∈ tables_1, d.before a0 Z = true) (b : Addr) (kb : ClassId) (cj : Int32) (y0 : Int32) (y1 : Int32) (y2 : Int32) (y3 : Int32) (y4 : Int32) (y5 : Int32) (h0 : Heap) (n0 : Nat) (Z0 : n0 ≤ h0.size) (OL : Old Z n0 h0) (SA : Sta Z Z.heap "java/lang/StringUTF16" "$assertionsDisabled" "Z" (.int 1)) (SH : Sta Z Z.heap "java/lang/StringUTF16" "HI_BYTE_SHIFT" "I" (.int 0)) (SL : Sta Z Z.heap "java/lang/StringUTF16" "LO_BYTE_SHIFT" "I" (.int 8)) (AB : Arv Z h0 b kb .byte 6 [(.int y0), (.int y1), (.int y2), (.int y3), (.int y4), (.int y5)] (.int 0)) (g_b : n0 ≤ b) :
    Con l (⟨"java/lang/StringUTF16", "putChar", "([BII)V"⟩ : MethodName) jdk_52_method_4_code 3 none ({ frames := 0, cells := 0, slots := 0, locals := 0 } : Room) Z #[(.ref b), (.int (1 : Int32)), (.int cj)] h0 (fun _ => True) (fun v h L vm => v = none ∧ Fr n0 L ∧ Keep h0 h [b] ∧ Arv Z h b kb .byte 6 [(.int y0), (.int y1), (.int (own_b0 cj)), (.int (own_b1 cj)), (.int y4), (.int y5)] (.int 0)) := by
  refine Con.mk (plainFor_of_name pn_12) (fun m => show entryFrame m #[(.ref b), (.int (1 : Int32)), (.int cj)] 3 = mkF m 0 #[.val (.ref b), .val (.int (1 : Int32)), .val (.int cj)] [] by first | (simp [entryFrame, mkF, argsToLocals, Value.category]; done) | rfl) ?_
  intro p e s m below meth c s₁ vm0 hx hby hml hown hnm hret hlk hZ X0 e0 hS hs0 hP0
  have N0 := Fr.nil n0
  show Run p e below s _ _ _ (s₁.setTop (mkF m 0 #[.val (.ref b), .val (.int (1 : Int32)), .val (.int cj)] []))
  obtain ⟨T193, X193, e193, st193⟩ := getS2 X0 hx hZ hown (host := "") (Or.inl (hw _ (List.mem_of_getElem? (i := 57) rfl))) Via.refl e0 (SA.ext OL.2) (g := (mkF m 0 #[.val (.ref b), .val (.int (1 : Int32)), .val (.int cj)] [])) rfl (hb hby d12_0)
  refine Run.pre st193 ?_
  show Run p e below s _ _ _ (T193.setTop (mkF m 3 #[.val (.ref b), .val (.int (1 : Int32)), .val (.int cj)] [(.int (1 : Int32))]))
  refine Run.pre (fun _ k => XS.ifYes X193.here hx rfl (pc0 := 3) (pc' := 28) rfl (hb hby d12_3) rfl ((if0 _ _).trans (feq ((by decide) : ¬ ((1 : Int32) = (0 : Int32)))).2) (by decide) (by decide) k) ?_
  show Run p e below s _ _ _ (T193.setTop (mkF m 28 #[.val (.ref b), .val (.int (1 : Int32)), .val (.int cj)] []))
  refine Run.pre (fun _ k => XS.iloadN X193.here hx rfl (hb hby d12_28) rfl  k) ?_
  show Run p e below s _ _ _ (T193.setTop (mkF m 29 #[.val (.ref b), .val (.int (1 : Int32)), .val (.int cj)] [(.int (1 : Int32))]))
  refine Run.pre (fun _ k => XS.iconst X193.here hx rfl (hb hby d12_29) k) ?_
  show Run p e below s _ _ _ (T193.setTop (mkF m 30 #[.val (.ref b), .val (.int (1 : Int32)), .val (.int cj)] [(.int (1 : Int32)), (.int (1 : Int32))]))
  refine Run.pre (fun _ k => XS.ishl X193.here hx rfl (hb hby d12_30) rfl k) ?_
  show Run p e below s _ _ _ (T193.setTop (mkF m 31 #[.val (.ref b), .val (.int (1 : Int32)), .val (.int cj)] [(.int (2 : Int32))]))
  refine Run.pre (fun _ k => XS.istoreN X193.here hx rfl (hb hby d12_31) rfl (l' := #[.val (.ref b), .val (.int (2 : Int32)), .val (.int cj)]) rfl k) ?_
  show Run p e below s _ _ _ (T193.setTop (mkF m 32 #[.val (.ref b), .val (.int (2 : Int32)), .val (.int cj)] []))
  refine Run.pre (fun _ k => XS.aloadN X193.here hx rfl (hb hby d12_32) rfl rfl k) ?_
  show Run p e below s _ _ _ (T193.setTop (mkF m 33 #[.val (.ref b), .val (.int (2 : Int32)), .val (.int cj)] [(.ref b)]))
  refine Run.pre (fun _ k => XS.iloadN X193.here hx rfl (hb hby d12_33) rfl  k) ?_
  show Run p e below s _ _ _ (T193.setTop (mkF m 34 #[.val (.ref b), .val (.int (2 : Int32)), .val (.int cj)] [(.int (2 : Int32)), (.ref b)]))
  refine Run.pre (fun _ k => XS.iinc X193.here hx rfl (hb hby d12_34) rfl (l' := #[.val (.ref b), .val (.int (3 : Int32)), .val (.int cj)]) rfl k) ?_
  show Run p e below s _ _ _ (T193.setTop (mkF m 37 #[.val (.ref b), .val (.int (3 : Int32)), .val (.int cj)] [(.int (2 : Int32)), (.ref b)]))
  refine Run.pre (fun _ k => XS.iloadN X193.here hx rfl (hb hby d12_37) rfl  k) ?_
  show Run p e below s _ _ _ (T193.setTop (mkF m 38 #[.val (.ref b), .val (.int (3 : Int32)), .val (.int cj)] [(.int cj), (.int (2 : Int32)), (.ref b)]))
  obtain ⟨T194, X194, e194, st194⟩ := getS2 X193 hx hZ hown (host := "") (Or.inl (hw _ (List.mem_of_getElem? (i := 58) rfl))) Via.refl e193 (SH.ext OL.2) (g := (mkF m 38 #[.val (.ref b), .val (.int (3 : Int32)), .val (.int cj)] [(.int cj), (.int (2 : Int32)), (.ref b)])) rfl (hb hby d12_38)
  refine Run.pre st194 ?_
  show Run p e below s _ _ _ (T194.setTop (mkF m 41 #[.val (.ref b), .val (.int (3 : Int32)), .val (.int cj)] [(.int (0 : Int32)), (.int cj), (.int (2 : Int32)), (.ref b)]))
  refine Run.pre (fun _ k => XS.ishr X194.here hx rfl (hb hby d12_41) rfl k) ?_
  show Run p e below s _ _ _ (T194.setTop (mkF m 42 #[.val (.ref b), .val (.int (3 : Int32)), .val (.int cj)] [(.int (cj >>> ((0 : Int32) &&& 31))), (.int (2 : Int32)), (.ref b)]))
  refine Run.pre (fun _ k => XS.i2b X194.here hx rfl (hb hby d12_42) rfl k) ?_
  show Run p e below s _ _ _ (T194.setTop (mkF m 43 #[.val (.ref b), .val (.int (3 : Int32)), .val (.int cj)] [(.int ((cj >>> ((0 : Int32) &&& 31)).toInt8.toInt32)), (.int (2 : Int32)), (.ref b)]))
  obtain ⟨c195, Ar195, q195, S195, N195, H195, G195⟩ := id AB
  have hin195 : ¬ ((2 : Int32) < 0 ∨ c195.slots.size ≤ ((2 : Int32)).toNatClampNeg) := inb_of S195 ⟨by decide, by decide⟩
  obtain ⟨T196, h196, X196, e196, W196, st196⟩ := stB X194 hx hZ e194 Ar195 (j := (2 : Int32)) hin195 (g := (mkF m 43 #[.val (.ref b), .val (.int (3 : Int32)), .val (.int cj)] [(.int ((cj >>> ((0 : Int32) &&& 31)).toInt8.toInt32)), (.int (2 : Int32)), (.ref b)])) rfl rfl (hb hby d12_43)
  refine Run.pre st196 ?_
  have V_b_196 : Arv Z h196 b kb .byte (6 : Int32) [(.int y0), (.int y1), (.int (nar .byte ((cj >>> ((0 : Int32) &&& 31)).toInt8.toInt32))), (.int y3), (.int y4), (.int y5)] (.int (0 : Int32)) := Arv.set Ar195 q195 S195 N195 H195 G195 (fits_nar_byte _) W196 2 rfl (Nat.le_of_ble_eq_true rfl)
  have K196 : Keep h0 h196 [b] := (Keep.refl h0 [b]).wr W196 (Or.inl (by simp))
  have N196 := Fr.snoc X196 N0 g_b
  show Run p e below s _ _ _ (T196.setTop (mkF m 44 #[.val (.ref b), .val (.int (3 : Int32)), .val (.int cj)] []))
  refine Run.pre (fun _ k => XS.aloadN X196.here hx rfl (hb hby d12_44) rfl rfl k) ?_
  show Run p e below s _ _ _ (T196.setTop (mkF m 45 #[.val (.ref b), .val (.int (3 : Int32)), .val (.int cj)] [(.ref b)]))
  refine Run.pre (fun _ k => XS.iloadN X196.here hx rfl (hb hby d12_45) rfl  k) ?_
  show Run p e below s _ _ _ (T196.setTop (mkF m 46 #[.val (.ref b), .val (.int (3 : Int32)), .val (.int cj)] [(.int (3 : Int32)), (.ref b)]))
  refine Run.pre (fun _ k => XS.iloadN X196.here hx rfl (hb hby d12_46) rfl  k) ?_
  show Run p e below s _ _ _ (T196.setTop (mkF m 47 #[.val (.ref b), .val (.int (3 : Int32)), .val (.int cj)] [(.int cj), (.int (3 : Int32)), (.ref b)]))
  have f197 := (OL.wr W196 g_b)
  obtain ⟨T198, X198, e198, st198⟩ := getS2 X196 hx hZ hown (host := "") (Or.inl (hw _ (List.mem_of_getElem? (i := 59) rfl))) Via.refl e196 (SL.ext f197.2) (g := (mkF m 47 #[.val (.ref b), .val (.int (3 : Int32)), .val (.int cj)] [(.int cj), (.int (3 : Int32)), (.ref b)])) rfl (hb hby d12_47)
  refine Run.pre st198 ?_
  show Run p e below s _ _ _ (T198.setTop (mkF m 50 #[.val (.ref b), .val (.int (3 : Int32)), .val (.int cj)] [(.int (8 : Int32)), (.int cj), (.int (3 : Int32)), (.ref b)]))
  refine Run.pre (fun _ k => XS.ishr X198.here hx rfl (hb hby d12_50) rfl k) ?_
  show Run p e below s _ _ _ (T198.setTop (mkF m 51 #[.val (.ref b), .val (.int (3 : Int32)), .val (.int cj)] [(.int (cj >>> ((8 : Int32) &&& 31))), (.int (3 : Int32)), (.ref b)]))
  refine Run.pre (fun _ k => XS.i2b X198.here hx rfl (hb hby d12_51) rfl k) ?_
  show Run p e below s _ _ _ (T198.setTop (mkF m 52 #[.val (.ref b), .val (.int (3 : Int32)), .val (.int cj)] [(.int ((cj >>> ((8 : Int32) &&& 31)).toInt8.toInt32)), (.int (3 : Int32)), (.ref b)]))
  obtain ⟨c199, Ar199, q199, S199, N199, H199, G199⟩ := id V_b_196
  have hin199 : ¬ ((3 : Int32) < 0 ∨ c199.slots.size ≤ ((3 : Int32)).toNatClampNeg) := inb_of S199 ⟨by decide, by decide⟩
  obtain ⟨T200, h200, X200, e200, W200, st200⟩ := stB X198 hx hZ e198 Ar199 (j := (3 : Int32)) hin199 (g := (mkF m 52 #[.val (.ref b), .val (.int (3 : Int32)), .val (.int cj)] [(.int ((cj >>> ((8 : Int32) &&& 31)).toInt8.toInt32)), (.int (3 : Int32)), (.ref b)])) rfl rfl (hb hby d12_52)
  refine Run.pre st200 ?_
  have V_b_200 : Arv Z h200 b kb .byte (6 : Int32) [(.int y0), (.int y1), (.int (nar .byte ((cj >>> ((0 : Int32) &&& 31)).toInt8.toInt32))), (.int (nar .byte ((cj >>> ((8 : Int32) &&& 31)).toInt8.toInt32))), (.int y4), (.int y5)] (.int (0 : Int32)) := Arv.set Ar199 q199 S199 N199 H199 G199 (fits_nar_byte _) W200 3 rfl (Nat.le_of_ble_eq_true rfl)
  have K200 : Keep h0 h200 [b] := K196.wr W200 (Or.inl (by simp))
  have N200 := Fr.snoc X200 N196 g_b
  show Run p e below s _ _ _ (T200.setTop (mkF m 53 #[.val (.ref b), .val (.int (3 : Int32)), .val (.int cj)] []))
  exact Run.retV hS (by first | exact Nat.le_refl _ | (rw [e200]; exact (Nat.le_trans (Nat.le_trans (Nat.zero_le _) (Keep.of_wr W196).1) (Keep.of_wr W200).1))) X200 hx hret hlk (hb hby d12_53) (by first | (rw [e200]; exact ⟨rfl, N200, K200, V_b_200⟩) | exact ⟨rfl, N200, K200, V_b_200⟩) (by decide) (by decide)
set_option maxRecDepth 65536 in
set_option maxHeartbeats 40000000 in
theorem rmGC_3_1 (l : Launch) (Z : State) (a0 : Array Value) (hw : ∀ d ∈ tables_1, d.before a0 Z = true) (b : Addr) (kb : ClassId) (y0 : Int32) (y1 : Int32) (y2 : Int32) (y3 : Int32) (y4 : Int32) (y5 : Int32) (h0 : Heap) (n0 : Nat) (Z0 : n0 ≤ h0.size) (OL : Old Z n0 h0) (SA : Sta Z Z.heap "java/lang/StringUTF16" "$assertionsDisabled" "Z" (.int 1)) (SH : Sta Z Z.heap "java/lang/StringUTF16" "HI_BYTE_SHIFT" "I" (.int 0)) (SL : Sta Z Z.heap "java/lang/StringUTF16" "LO_BYTE_SHIFT" "I" (.int 8)) (AB : Arv Z h0 b kb .byte 6 [(.int y0), (.int y1), (.int y2), (.int y3), (.int y4), (.int y5)] (.int 0)) :
    Con l (⟨"java/lang/StringUTF16", "getChar", "([BI)C"⟩ : MethodName) jdk_52_method_5_code 2 (some .char) ({ frames := 0, cells := 0, slots := 0, locals := 0 } : Room) Z #[(.ref b), (.int (1 : Int32))] h0 (fun _ => True) (fun v h L vm => v = some (.int (own_gcv y2 y3)) ∧ Fr n0 L ∧ h = h0) := by
  refine Con.mk (plainFor_of_name pn_13) (fun m => show entryFrame m #[(.ref b), (.int (1 : Int32))] 2 = mkF m 0 #[.val (.ref b), .val (.int (1 : Int32))] [] by first | (simp [entryFrame, mkF, argsToLocals, Value.category]; done) | rfl) ?_
  intro p e s m below meth c s₁ vm0 hx hby hml hown hnm hret hlk hZ X0 e0 hS hs0 hP0
  have N0 := Fr.nil n0
  show Run p e below s _ _ _ (s₁.setTop (mkF m 0 #[.val (.ref b), .val (.int (1 : Int32))] []))
  obtain ⟨T201, X201, e201, st201⟩ := getS2 X0 hx hZ hown (host := "") (Or.inl (hw _ (List.mem_of_getElem? (i := 57) rfl))) Via.refl e0 (SA.ext OL.2) (g := (mkF m 0 #[.val (.ref b), .val (.int (1 : Int32))] [])) rfl (hb hby d13_0)
  refine Run.pre st201 ?_
  show Run p e below s _ _ _ (T201.setTop (mkF m 3 #[.val (.ref b), .val (.int (1 : Int32))] [(.int (1 : Int32))]))
  refine Run.pre (fun _ k => XS.ifYes X201.here hx rfl (pc0 := 3) (pc' := 28) rfl (hb hby d13_3) rfl ((if0 _ _).trans (feq ((by decide) : ¬ ((1 : Int32) = (0 : Int32)))).2) (by decide) (by decide) k) ?_
  show Run p e below s _ _ _ (T201.setTop (mkF m 28 #[.val (.ref b), .val (.int (1 : Int32))] []))
  refine Run.pre (fun _ k => XS.iloadN X201.here hx rfl (hb hby d13_28) rfl  k) ?_
  show Run p e below s _ _ _ (T201.setTop (mkF m 29 #[.val (.ref b), .val (.int (1 : Int32))] [(.int (1 : Int32))]))
  refine Run.pre (fun _ k => XS.iconst X201.here hx rfl (hb hby d13_29) k) ?_
  show Run p e below s _ _ _ (T201.setTop (mkF m 30 #[.val (.ref b), .val (.int (1 : Int32))] [(.int (1 : Int32)), (.int (1 : Int32))]))
  refine Run.pre (fun _ k => XS.ishl X201.here hx rfl (hb hby d13_30) rfl k) ?_
  show Run p e below s _ _ _ (T201.setTop (mkF m 31 #[.val (.ref b), .val (.int (1 : Int32))] [(.int (2 : Int32))]))
  refine Run.pre (fun _ k => XS.istoreN X201.here hx rfl (hb hby d13_31) rfl (l' := #[.val (.ref b), .val (.int (2 : Int32))]) rfl k) ?_
  show Run p e below s _ _ _ (T201.setTop (mkF m 32 #[.val (.ref b), .val (.int (2 : Int32))] []))
  refine Run.pre (fun _ k => XS.aloadN X201.here hx rfl (hb hby d13_32) rfl rfl k) ?_
  show Run p e below s _ _ _ (T201.setTop (mkF m 33 #[.val (.ref b), .val (.int (2 : Int32))] [(.ref b)]))
  refine Run.pre (fun _ k => XS.iloadN X201.here hx rfl (hb hby d13_33) rfl  k) ?_
  show Run p e below s _ _ _ (T201.setTop (mkF m 34 #[.val (.ref b), .val (.int (2 : Int32))] [(.int (2 : Int32)), (.ref b)]))
  refine Run.pre (fun _ k => XS.iinc X201.here hx rfl (hb hby d13_34) rfl (l' := #[.val (.ref b), .val (.int (3 : Int32))]) rfl k) ?_
  show Run p e below s _ _ _ (T201.setTop (mkF m 37 #[.val (.ref b), .val (.int (3 : Int32))] [(.int (2 : Int32)), (.ref b)]))
  obtain ⟨c202, Ar202, -, S202, N202, H202, -⟩ := id AB
  have hin202 : ¬ ((2 : Int32) < 0 ∨ c202.slots.size ≤ ((2 : Int32)).toNatClampNeg) := inb_of S202 ⟨by decide, by decide⟩
  refine Run.pre (X201.baloadBytes hx (j := (2 : Int32)) (v := (.int y2)) (by rw [e201]; exact Ar202.1) (State.isArrayOf_alike hZ.alike Ar202.2.1) Ar202.2.2 hin202 (H202.at hin202 rfl) (g := (mkF m 37 #[.val (.ref b), .val (.int (3 : Int32))] [(.int (2 : Int32)), (.ref b)])) rfl rfl (hb hby d13_37)) ?_
  show Run p e below s _ _ _ (T201.setTop (mkF m 38 #[.val (.ref b), .val (.int (3 : Int32))] [(.int y2)]))
  refine Run.pre (fun _ k => XS.sipush X201.here hx rfl (hb hby d13_38) k) ?_
  show Run p e below s _ _ _ (T201.setTop (mkF m 41 #[.val (.ref b), .val (.int (3 : Int32))] [(.int (255 : Int32)), (.int y2)]))
  refine Run.pre (fun _ k => XS.iand X201.here hx rfl (hb hby d13_41) rfl k) ?_
  show Run p e below s _ _ _ (T201.setTop (mkF m 42 #[.val (.ref b), .val (.int (3 : Int32))] [(.int (y2 &&& (255 : Int32)))]))
  obtain ⟨T203, X203, e203, st203⟩ := getS2 X201 hx hZ hown (host := "") (Or.inl (hw _ (List.mem_of_getElem? (i := 58) rfl))) Via.refl e201 (SH.ext OL.2) (g := (mkF m 42 #[.val (.ref b), .val (.int (3 : Int32))] [(.int (y2 &&& (255 : Int32)))])) rfl (hb hby d13_42)
  refine Run.pre st203 ?_
  show Run p e below s _ _ _ (T203.setTop (mkF m 45 #[.val (.ref b), .val (.int (3 : Int32))] [(.int (0 : Int32)), (.int (y2 &&& (255 : Int32)))]))
  refine Run.pre (fun _ k => XS.ishl X203.here hx rfl (hb hby d13_45) rfl k) ?_
  show Run p e below s _ _ _ (T203.setTop (mkF m 46 #[.val (.ref b), .val (.int (3 : Int32))] [(.int ((y2 &&& (255 : Int32)) <<< ((0 : Int32) &&& 31)))]))
  refine Run.pre (fun _ k => XS.aloadN X203.here hx rfl (hb hby d13_46) rfl rfl k) ?_
  show Run p e below s _ _ _ (T203.setTop (mkF m 47 #[.val (.ref b), .val (.int (3 : Int32))] [(.ref b), (.int ((y2 &&& (255 : Int32)) <<< ((0 : Int32) &&& 31)))]))
  refine Run.pre (fun _ k => XS.iloadN X203.here hx rfl (hb hby d13_47) rfl  k) ?_
  show Run p e below s _ _ _ (T203.setTop (mkF m 48 #[.val (.ref b), .val (.int (3 : Int32))] [(.int (3 : Int32)), (.ref b), (.int ((y2 &&& (255 : Int32)) <<< ((0 : Int32) &&& 31)))]))
  obtain ⟨c204, Ar204, -, S204, N204, H204, -⟩ := id AB
  have hin204 : ¬ ((3 : Int32) < 0 ∨ c204.slots.size ≤ ((3 : Int32)).toNatClampNeg) := inb_of S204 ⟨by decide, by decide⟩
  refine Run.pre (X203.baloadBytes hx (j := (3 : Int32)) (v := (.int y3)) (by rw [e203]; exact Ar204.1) (State.isArrayOf_alike hZ.alike Ar204.2.1) Ar204.2.2 hin204 (H204.at hin204 rfl) (g := (mkF m 48 #[.val (.ref b), .val (.int (3 : Int32))] [(.int (3 : Int32)), (.ref b), (.int ((y2 &&& (255 : Int32)) <<< ((0 : Int32) &&& 31)))])) rfl rfl (hb hby d13_48)) ?_
  show Run p e below s _ _ _ (T203.setTop (mkF m 49 #[.val (.ref b), .val (.int (3 : Int32))] [(.int y3), (.int ((y2 &&& (255 : Int32)) <<< ((0 : Int32) &&& 31)))]))
  refine Run.pre (fun _ k => XS.sipush X203.here hx rfl (hb hby d13_49) k) ?_
  show Run p e below s _ _ _ (T203.setTop (mkF m 52 #[.val (.ref b), .val (.int (3 : Int32))] [(.int (255 : Int32)), (.int y3), (.int ((y2 &&& (255 : Int32)) <<< ((0 : Int32) &&& 31)))]))
  refine Run.pre (fun _ k => XS.iand X203.here hx rfl (hb hby d13_52) rfl k) ?_
  show Run p e below s _ _ _ (T203.setTop (mkF m 53 #[.val (.ref b), .val (.int (3 : Int32))] [(.int (y3 &&& (255 : Int32))), (.int ((y2 &&& (255 : Int32)) <<< ((0 : Int32) &&& 31)))]))
  obtain ⟨T205, X205, e205, st205⟩ := getS2 X203 hx hZ hown (host := "") (Or.inl (hw _ (List.mem_of_getElem? (i := 59) rfl))) Via.refl e203 (SL.ext OL.2) (g := (mkF m 53 #[.val (.ref b), .val (.int (3 : Int32))] [(.int (y3 &&& (255 : Int32))), (.int ((y2 &&& (255 : Int32)) <<< ((0 : Int32) &&& 31)))])) rfl (hb hby d13_53)
  refine Run.pre st205 ?_
  show Run p e below s _ _ _ (T205.setTop (mkF m 56 #[.val (.ref b), .val (.int (3 : Int32))] [(.int (8 : Int32)), (.int (y3 &&& (255 : Int32))), (.int ((y2 &&& (255 : Int32)) <<< ((0 : Int32) &&& 31)))]))
  refine Run.pre (fun _ k => XS.ishl X205.here hx rfl (hb hby d13_56) rfl k) ?_
  show Run p e below s _ _ _ (T205.setTop (mkF m 57 #[.val (.ref b), .val (.int (3 : Int32))] [(.int ((y3 &&& (255 : Int32)) <<< ((8 : Int32) &&& 31))), (.int ((y2 &&& (255 : Int32)) <<< ((0 : Int32) &&& 31)))]))
  refine Run.pre (fun _ k => XS.ior X205.here hx rfl (hb hby d13_57) rfl k) ?_
  show Run p e below s _ _ _ (T205.setTop (mkF m 58 #[.val (.ref b), .val (.int (3 : Int32))] [(.int (((y2 &&& (255 : Int32)) <<< ((0 : Int32) &&& 31)) ||| ((y3 &&& (255 : Int32)) <<< ((8 : Int32) &&& 31))))]))
  refine Run.pre (fun _ k => XS.i2c X205.here hx rfl (hb hby d13_58) rfl k) ?_
  show Run p e below s _ _ _ (T205.setTop (mkF m 59 #[.val (.ref b), .val (.int (3 : Int32))] [(.int ((((y2 &&& (255 : Int32)) <<< ((0 : Int32) &&& 31)) ||| ((y3 &&& (255 : Int32)) <<< ((8 : Int32) &&& 31))).toUInt32.toUInt16.toUInt32.toInt32))]))
  exact Run.retN hS (by first | exact Nat.le_refl _ | (rw [e205]; exact (Nat.zero_le _))) X205 hx hret (t := .char) (by simp) hlk (hb hby d13_59) (by first | (rw [e205]; exact ⟨rfl, N0, rfl⟩) | exact ⟨rfl, N0, rfl⟩) (by decide) (by decide)
set_option maxRecDepth 65536 in
set_option maxHeartbeats 40000000 in
theorem rmPC_3_2 (l : Launch) (Z : State) (a0 : Array Value) (hw : ∀ d ∈ tables_1, d.before a0 Z = true) (b : Addr) (kb : ClassId) (cj : Int32) (y0 : Int32) (y1 : Int32) (y2 : Int32) (y3 : Int32) (y4 : Int32) (y5 : Int32) (h0 : Heap) (n0 : Nat) (Z0 : n0 ≤ h0.size) (OL : Old Z n0 h0) (SA : Sta Z Z.heap "java/lang/StringUTF16" "$assertionsDisabled" "Z" (.int 1)) (SH : Sta Z Z.heap "java/lang/StringUTF16" "HI_BYTE_SHIFT" "I" (.int 0)) (SL : Sta Z Z.heap "java/lang/StringUTF16" "LO_BYTE_SHIFT" "I" (.int 8)) (AB : Arv Z h0 b kb .byte 6 [(.int y0), (.int y1), (.int y2), (.int y3), (.int y4), (.int y5)] (.int 0)) (g_b : n0 ≤ b) :
    Con l (⟨"java/lang/StringUTF16", "putChar", "([BII)V"⟩ : MethodName) jdk_52_method_4_code 3 none ({ frames := 0, cells := 0, slots := 0, locals := 0 } : Room) Z #[(.ref b), (.int (2 : Int32)), (.int cj)] h0 (fun _ => True) (fun v h L vm => v = none ∧ Fr n0 L ∧ Keep h0 h [b] ∧ Arv Z h b kb .byte 6 [(.int y0), (.int y1), (.int y2), (.int y3), (.int (own_b0 cj)), (.int (own_b1 cj))] (.int 0)) := by
  refine Con.mk (plainFor_of_name pn_12) (fun m => show entryFrame m #[(.ref b), (.int (2 : Int32)), (.int cj)] 3 = mkF m 0 #[.val (.ref b), .val (.int (2 : Int32)), .val (.int cj)] [] by first | (simp [entryFrame, mkF, argsToLocals, Value.category]; done) | rfl) ?_
  intro p e s m below meth c s₁ vm0 hx hby hml hown hnm hret hlk hZ X0 e0 hS hs0 hP0
  have N0 := Fr.nil n0
  show Run p e below s _ _ _ (s₁.setTop (mkF m 0 #[.val (.ref b), .val (.int (2 : Int32)), .val (.int cj)] []))
  obtain ⟨T206, X206, e206, st206⟩ := getS2 X0 hx hZ hown (host := "") (Or.inl (hw _ (List.mem_of_getElem? (i := 57) rfl))) Via.refl e0 (SA.ext OL.2) (g := (mkF m 0 #[.val (.ref b), .val (.int (2 : Int32)), .val (.int cj)] [])) rfl (hb hby d12_0)
  refine Run.pre st206 ?_
  show Run p e below s _ _ _ (T206.setTop (mkF m 3 #[.val (.ref b), .val (.int (2 : Int32)), .val (.int cj)] [(.int (1 : Int32))]))
  refine Run.pre (fun _ k => XS.ifYes X206.here hx rfl (pc0 := 3) (pc' := 28) rfl (hb hby d12_3) rfl ((if0 _ _).trans (feq ((by decide) : ¬ ((1 : Int32) = (0 : Int32)))).2) (by decide) (by decide) k) ?_
  show Run p e below s _ _ _ (T206.setTop (mkF m 28 #[.val (.ref b), .val (.int (2 : Int32)), .val (.int cj)] []))
  refine Run.pre (fun _ k => XS.iloadN X206.here hx rfl (hb hby d12_28) rfl  k) ?_
  show Run p e below s _ _ _ (T206.setTop (mkF m 29 #[.val (.ref b), .val (.int (2 : Int32)), .val (.int cj)] [(.int (2 : Int32))]))
  refine Run.pre (fun _ k => XS.iconst X206.here hx rfl (hb hby d12_29) k) ?_
  show Run p e below s _ _ _ (T206.setTop (mkF m 30 #[.val (.ref b), .val (.int (2 : Int32)), .val (.int cj)] [(.int (1 : Int32)), (.int (2 : Int32))]))
  refine Run.pre (fun _ k => XS.ishl X206.here hx rfl (hb hby d12_30) rfl k) ?_
  show Run p e below s _ _ _ (T206.setTop (mkF m 31 #[.val (.ref b), .val (.int (2 : Int32)), .val (.int cj)] [(.int (4 : Int32))]))
  refine Run.pre (fun _ k => XS.istoreN X206.here hx rfl (hb hby d12_31) rfl (l' := #[.val (.ref b), .val (.int (4 : Int32)), .val (.int cj)]) rfl k) ?_
  show Run p e below s _ _ _ (T206.setTop (mkF m 32 #[.val (.ref b), .val (.int (4 : Int32)), .val (.int cj)] []))
  refine Run.pre (fun _ k => XS.aloadN X206.here hx rfl (hb hby d12_32) rfl rfl k) ?_
  show Run p e below s _ _ _ (T206.setTop (mkF m 33 #[.val (.ref b), .val (.int (4 : Int32)), .val (.int cj)] [(.ref b)]))
  refine Run.pre (fun _ k => XS.iloadN X206.here hx rfl (hb hby d12_33) rfl  k) ?_
  show Run p e below s _ _ _ (T206.setTop (mkF m 34 #[.val (.ref b), .val (.int (4 : Int32)), .val (.int cj)] [(.int (4 : Int32)), (.ref b)]))
  refine Run.pre (fun _ k => XS.iinc X206.here hx rfl (hb hby d12_34) rfl (l' := #[.val (.ref b), .val (.int (5 : Int32)), .val (.int cj)]) rfl k) ?_
  show Run p e below s _ _ _ (T206.setTop (mkF m 37 #[.val (.ref b), .val (.int (5 : Int32)), .val (.int cj)] [(.int (4 : Int32)), (.ref b)]))
  refine Run.pre (fun _ k => XS.iloadN X206.here hx rfl (hb hby d12_37) rfl  k) ?_
  show Run p e below s _ _ _ (T206.setTop (mkF m 38 #[.val (.ref b), .val (.int (5 : Int32)), .val (.int cj)] [(.int cj), (.int (4 : Int32)), (.ref b)]))
  obtain ⟨T207, X207, e207, st207⟩ := getS2 X206 hx hZ hown (host := "") (Or.inl (hw _ (List.mem_of_getElem? (i := 58) rfl))) Via.refl e206 (SH.ext OL.2) (g := (mkF m 38 #[.val (.ref b), .val (.int (5 : Int32)), .val (.int cj)] [(.int cj), (.int (4 : Int32)), (.ref b)])) rfl (hb hby d12_38)
  refine Run.pre st207 ?_
  show Run p e below s _ _ _ (T207.setTop (mkF m 41 #[.val (.ref b), .val (.int (5 : Int32)), .val (.int cj)] [(.int (0 : Int32)), (.int cj), (.int (4 : Int32)), (.ref b)]))
  refine Run.pre (fun _ k => XS.ishr X207.here hx rfl (hb hby d12_41) rfl k) ?_
  show Run p e below s _ _ _ (T207.setTop (mkF m 42 #[.val (.ref b), .val (.int (5 : Int32)), .val (.int cj)] [(.int (cj >>> ((0 : Int32) &&& 31))), (.int (4 : Int32)), (.ref b)]))
  refine Run.pre (fun _ k => XS.i2b X207.here hx rfl (hb hby d12_42) rfl k) ?_
  show Run p e below s _ _ _ (T207.setTop (mkF m 43 #[.val (.ref b), .val (.int (5 : Int32)), .val (.int cj)] [(.int ((cj >>> ((0 : Int32) &&& 31)).toInt8.toInt32)), (.int (4 : Int32)), (.ref b)]))
  obtain ⟨c208, Ar208, q208, S208, N208, H208, G208⟩ := id AB
  have hin208 : ¬ ((4 : Int32) < 0 ∨ c208.slots.size ≤ ((4 : Int32)).toNatClampNeg) := inb_of S208 ⟨by decide, by decide⟩
  obtain ⟨T209, h209, X209, e209, W209, st209⟩ := stB X207 hx hZ e207 Ar208 (j := (4 : Int32)) hin208 (g := (mkF m 43 #[.val (.ref b), .val (.int (5 : Int32)), .val (.int cj)] [(.int ((cj >>> ((0 : Int32) &&& 31)).toInt8.toInt32)), (.int (4 : Int32)), (.ref b)])) rfl rfl (hb hby d12_43)
  refine Run.pre st209 ?_
  have V_b_209 : Arv Z h209 b kb .byte (6 : Int32) [(.int y0), (.int y1), (.int y2), (.int y3), (.int (nar .byte ((cj >>> ((0 : Int32) &&& 31)).toInt8.toInt32))), (.int y5)] (.int (0 : Int32)) := Arv.set Ar208 q208 S208 N208 H208 G208 (fits_nar_byte _) W209 4 rfl (Nat.le_of_ble_eq_true rfl)
  have K209 : Keep h0 h209 [b] := (Keep.refl h0 [b]).wr W209 (Or.inl (by simp))
  have N209 := Fr.snoc X209 N0 g_b
  show Run p e below s _ _ _ (T209.setTop (mkF m 44 #[.val (.ref b), .val (.int (5 : Int32)), .val (.int cj)] []))
  refine Run.pre (fun _ k => XS.aloadN X209.here hx rfl (hb hby d12_44) rfl rfl k) ?_
  show Run p e below s _ _ _ (T209.setTop (mkF m 45 #[.val (.ref b), .val (.int (5 : Int32)), .val (.int cj)] [(.ref b)]))
  refine Run.pre (fun _ k => XS.iloadN X209.here hx rfl (hb hby d12_45) rfl  k) ?_
  show Run p e below s _ _ _ (T209.setTop (mkF m 46 #[.val (.ref b), .val (.int (5 : Int32)), .val (.int cj)] [(.int (5 : Int32)), (.ref b)]))
  refine Run.pre (fun _ k => XS.iloadN X209.here hx rfl (hb hby d12_46) rfl  k) ?_
  show Run p e below s _ _ _ (T209.setTop (mkF m 47 #[.val (.ref b), .val (.int (5 : Int32)), .val (.int cj)] [(.int cj), (.int (5 : Int32)), (.ref b)]))
  have f210 := (OL.wr W209 g_b)
  obtain ⟨T211, X211, e211, st211⟩ := getS2 X209 hx hZ hown (host := "") (Or.inl (hw _ (List.mem_of_getElem? (i := 59) rfl))) Via.refl e209 (SL.ext f210.2) (g := (mkF m 47 #[.val (.ref b), .val (.int (5 : Int32)), .val (.int cj)] [(.int cj), (.int (5 : Int32)), (.ref b)])) rfl (hb hby d12_47)
  refine Run.pre st211 ?_
  show Run p e below s _ _ _ (T211.setTop (mkF m 50 #[.val (.ref b), .val (.int (5 : Int32)), .val (.int cj)] [(.int (8 : Int32)), (.int cj), (.int (5 : Int32)), (.ref b)]))
  refine Run.pre (fun _ k => XS.ishr X211.here hx rfl (hb hby d12_50) rfl k) ?_
  show Run p e below s _ _ _ (T211.setTop (mkF m 51 #[.val (.ref b), .val (.int (5 : Int32)), .val (.int cj)] [(.int (cj >>> ((8 : Int32) &&& 31))), (.int (5 : Int32)), (.ref b)]))
  refine Run.pre (fun _ k => XS.i2b X211.here hx rfl (hb hby d12_51) rfl k) ?_
  show Run p e below s _ _ _ (T211.setTop (mkF m 52 #[.val (.ref b), .val (.int (5 : Int32)), .val (.int cj)] [(.int ((cj >>> ((8 : Int32) &&& 31)).toInt8.toInt32)), (.int (5 : Int32)), (.ref b)]))
  obtain ⟨c212, Ar212, q212, S212, N212, H212, G212⟩ := id V_b_209
  have hin212 : ¬ ((5 : Int32) < 0 ∨ c212.slots.size ≤ ((5 : Int32)).toNatClampNeg) := inb_of S212 ⟨by decide, by decide⟩
  obtain ⟨T213, h213, X213, e213, W213, st213⟩ := stB X211 hx hZ e211 Ar212 (j := (5 : Int32)) hin212 (g := (mkF m 52 #[.val (.ref b), .val (.int (5 : Int32)), .val (.int cj)] [(.int ((cj >>> ((8 : Int32) &&& 31)).toInt8.toInt32)), (.int (5 : Int32)), (.ref b)])) rfl rfl (hb hby d12_52)
  refine Run.pre st213 ?_
  have V_b_213 : Arv Z h213 b kb .byte (6 : Int32) [(.int y0), (.int y1), (.int y2), (.int y3), (.int (nar .byte ((cj >>> ((0 : Int32) &&& 31)).toInt8.toInt32))), (.int (nar .byte ((cj >>> ((8 : Int32) &&& 31)).toInt8.toInt32)))] (.int (0 : Int32)) := Arv.set Ar212 q212 S212 N212 H212 G212 (fits_nar_byte _) W213 5 rfl (Nat.le_of_ble_eq_true rfl)
  have K213 : Keep h0 h213 [b] := K209.wr W213 (Or.inl (by simp))
  have N213 := Fr.snoc X213 N209 g_b
  show Run p e below s _ _ _ (T213.setTop (mkF m 53 #[.val (.ref b), .val (.int (5 : Int32)), .val (.int cj)] []))
  exact Run.retV hS (by first | exact Nat.le_refl _ | (rw [e213]; exact (Nat.le_trans (Nat.le_trans (Nat.zero_le _) (Keep.of_wr W209).1) (Keep.of_wr W213).1))) X213 hx hret hlk (hb hby d12_53) (by first | (rw [e213]; exact ⟨rfl, N213, K213, V_b_213⟩) | exact ⟨rfl, N213, K213, V_b_213⟩) (by decide) (by decide)
set_option maxRecDepth 65536 in
set_option maxHeartbeats 40000000 in
theorem rmGC_3_2 (l : Launch) (Z : State) (a0 : Array Value) (hw : ∀ d ∈ tables_1, d.before a0 Z = true) (b : Addr) (kb : ClassId) (y0 : Int32) (y1 : Int32) (y2 : Int32) (y3 : Int32) (y4 : Int32) (y5 : Int32) (h0 : Heap) (n0 : Nat) (Z0 : n0 ≤ h0.size) (OL : Old Z n0 h0) (SA : Sta Z Z.heap "java/lang/StringUTF16" "$assertionsDisabled" "Z" (.int 1)) (SH : Sta Z Z.heap "java/lang/StringUTF16" "HI_BYTE_SHIFT" "I" (.int 0)) (SL : Sta Z Z.heap "java/lang/StringUTF16" "LO_BYTE_SHIFT" "I" (.int 8)) (AB : Arv Z h0 b kb .byte 6 [(.int y0), (.int y1), (.int y2), (.int y3), (.int y4), (.int y5)] (.int 0)) :
    Con l (⟨"java/lang/StringUTF16", "getChar", "([BI)C"⟩ : MethodName) jdk_52_method_5_code 2 (some .char) ({ frames := 0, cells := 0, slots := 0, locals := 0 } : Room) Z #[(.ref b), (.int (2 : Int32))] h0 (fun _ => True) (fun v h L vm => v = some (.int (own_gcv y4 y5)) ∧ Fr n0 L ∧ h = h0) := by
  refine Con.mk (plainFor_of_name pn_13) (fun m => show entryFrame m #[(.ref b), (.int (2 : Int32))] 2 = mkF m 0 #[.val (.ref b), .val (.int (2 : Int32))] [] by first | (simp [entryFrame, mkF, argsToLocals, Value.category]; done) | rfl) ?_
  intro p e s m below meth c s₁ vm0 hx hby hml hown hnm hret hlk hZ X0 e0 hS hs0 hP0
  have N0 := Fr.nil n0
  show Run p e below s _ _ _ (s₁.setTop (mkF m 0 #[.val (.ref b), .val (.int (2 : Int32))] []))
  obtain ⟨T214, X214, e214, st214⟩ := getS2 X0 hx hZ hown (host := "") (Or.inl (hw _ (List.mem_of_getElem? (i := 57) rfl))) Via.refl e0 (SA.ext OL.2) (g := (mkF m 0 #[.val (.ref b), .val (.int (2 : Int32))] [])) rfl (hb hby d13_0)
  refine Run.pre st214 ?_
  show Run p e below s _ _ _ (T214.setTop (mkF m 3 #[.val (.ref b), .val (.int (2 : Int32))] [(.int (1 : Int32))]))
  refine Run.pre (fun _ k => XS.ifYes X214.here hx rfl (pc0 := 3) (pc' := 28) rfl (hb hby d13_3) rfl ((if0 _ _).trans (feq ((by decide) : ¬ ((1 : Int32) = (0 : Int32)))).2) (by decide) (by decide) k) ?_
  show Run p e below s _ _ _ (T214.setTop (mkF m 28 #[.val (.ref b), .val (.int (2 : Int32))] []))
  refine Run.pre (fun _ k => XS.iloadN X214.here hx rfl (hb hby d13_28) rfl  k) ?_
  show Run p e below s _ _ _ (T214.setTop (mkF m 29 #[.val (.ref b), .val (.int (2 : Int32))] [(.int (2 : Int32))]))
  refine Run.pre (fun _ k => XS.iconst X214.here hx rfl (hb hby d13_29) k) ?_
  show Run p e below s _ _ _ (T214.setTop (mkF m 30 #[.val (.ref b), .val (.int (2 : Int32))] [(.int (1 : Int32)), (.int (2 : Int32))]))
  refine Run.pre (fun _ k => XS.ishl X214.here hx rfl (hb hby d13_30) rfl k) ?_
  show Run p e below s _ _ _ (T214.setTop (mkF m 31 #[.val (.ref b), .val (.int (2 : Int32))] [(.int (4 : Int32))]))
  refine Run.pre (fun _ k => XS.istoreN X214.here hx rfl (hb hby d13_31) rfl (l' := #[.val (.ref b), .val (.int (4 : Int32))]) rfl k) ?_
  show Run p e below s _ _ _ (T214.setTop (mkF m 32 #[.val (.ref b), .val (.int (4 : Int32))] []))
  refine Run.pre (fun _ k => XS.aloadN X214.here hx rfl (hb hby d13_32) rfl rfl k) ?_
  show Run p e below s _ _ _ (T214.setTop (mkF m 33 #[.val (.ref b), .val (.int (4 : Int32))] [(.ref b)]))
  refine Run.pre (fun _ k => XS.iloadN X214.here hx rfl (hb hby d13_33) rfl  k) ?_
  show Run p e below s _ _ _ (T214.setTop (mkF m 34 #[.val (.ref b), .val (.int (4 : Int32))] [(.int (4 : Int32)), (.ref b)]))
  refine Run.pre (fun _ k => XS.iinc X214.here hx rfl (hb hby d13_34) rfl (l' := #[.val (.ref b), .val (.int (5 : Int32))]) rfl k) ?_
  show Run p e below s _ _ _ (T214.setTop (mkF m 37 #[.val (.ref b), .val (.int (5 : Int32))] [(.int (4 : Int32)), (.ref b)]))
  obtain ⟨c215, Ar215, -, S215, N215, H215, -⟩ := id AB
  have hin215 : ¬ ((4 : Int32) < 0 ∨ c215.slots.size ≤ ((4 : Int32)).toNatClampNeg) := inb_of S215 ⟨by decide, by decide⟩
  refine Run.pre (X214.baloadBytes hx (j := (4 : Int32)) (v := (.int y4)) (by rw [e214]; exact Ar215.1) (State.isArrayOf_alike hZ.alike Ar215.2.1) Ar215.2.2 hin215 (H215.at hin215 rfl) (g := (mkF m 37 #[.val (.ref b), .val (.int (5 : Int32))] [(.int (4 : Int32)), (.ref b)])) rfl rfl (hb hby d13_37)) ?_
  show Run p e below s _ _ _ (T214.setTop (mkF m 38 #[.val (.ref b), .val (.int (5 : Int32))] [(.int y4)]))
  refine Run.pre (fun _ k => XS.sipush X214.here hx rfl (hb hby d13_38) k) ?_
  show Run p e below s _ _ _ (T214.setTop (mkF m 41 #[.val (.ref b), .val (.int (5 : Int32))] [(.int (255 : Int32)), (.int y4)]))
  refine Run.pre (fun _ k => XS.iand X214.here hx rfl (hb hby d13_41) rfl k) ?_
  show Run p e below s _ _ _ (T214.setTop (mkF m 42 #[.val (.ref b), .val (.int (5 : Int32))] [(.int (y4 &&& (255 : Int32)))]))
  obtain ⟨T216, X216, e216, st216⟩ := getS2 X214 hx hZ hown (host := "") (Or.inl (hw _ (List.mem_of_getElem? (i := 58) rfl))) Via.refl e214 (SH.ext OL.2) (g := (mkF m 42 #[.val (.ref b), .val (.int (5 : Int32))] [(.int (y4 &&& (255 : Int32)))])) rfl (hb hby d13_42)
  refine Run.pre st216 ?_
  show Run p e below s _ _ _ (T216.setTop (mkF m 45 #[.val (.ref b), .val (.int (5 : Int32))] [(.int (0 : Int32)), (.int (y4 &&& (255 : Int32)))]))
  refine Run.pre (fun _ k => XS.ishl X216.here hx rfl (hb hby d13_45) rfl k) ?_
  show Run p e below s _ _ _ (T216.setTop (mkF m 46 #[.val (.ref b), .val (.int (5 : Int32))] [(.int ((y4 &&& (255 : Int32)) <<< ((0 : Int32) &&& 31)))]))
  refine Run.pre (fun _ k => XS.aloadN X216.here hx rfl (hb hby d13_46) rfl rfl k) ?_
  show Run p e below s _ _ _ (T216.setTop (mkF m 47 #[.val (.ref b), .val (.int (5 : Int32))] [(.ref b), (.int ((y4 &&& (255 : Int32)) <<< ((0 : Int32) &&& 31)))]))
  refine Run.pre (fun _ k => XS.iloadN X216.here hx rfl (hb hby d13_47) rfl  k) ?_
  show Run p e below s _ _ _ (T216.setTop (mkF m 48 #[.val (.ref b), .val (.int (5 : Int32))] [(.int (5 : Int32)), (.ref b), (.int ((y4 &&& (255 : Int32)) <<< ((0 : Int32) &&& 31)))]))
  obtain ⟨c217, Ar217, -, S217, N217, H217, -⟩ := id AB
  have hin217 : ¬ ((5 : Int32) < 0 ∨ c217.slots.size ≤ ((5 : Int32)).toNatClampNeg) := inb_of S217 ⟨by decide, by decide⟩
  refine Run.pre (X216.baloadBytes hx (j := (5 : Int32)) (v := (.int y5)) (by rw [e216]; exact Ar217.1) (State.isArrayOf_alike hZ.alike Ar217.2.1) Ar217.2.2 hin217 (H217.at hin217 rfl) (g := (mkF m 48 #[.val (.ref b), .val (.int (5 : Int32))] [(.int (5 : Int32)), (.ref b), (.int ((y4 &&& (255 : Int32)) <<< ((0 : Int32) &&& 31)))])) rfl rfl (hb hby d13_48)) ?_
  show Run p e below s _ _ _ (T216.setTop (mkF m 49 #[.val (.ref b), .val (.int (5 : Int32))] [(.int y5), (.int ((y4 &&& (255 : Int32)) <<< ((0 : Int32) &&& 31)))]))
  refine Run.pre (fun _ k => XS.sipush X216.here hx rfl (hb hby d13_49) k) ?_
  show Run p e below s _ _ _ (T216.setTop (mkF m 52 #[.val (.ref b), .val (.int (5 : Int32))] [(.int (255 : Int32)), (.int y5), (.int ((y4 &&& (255 : Int32)) <<< ((0 : Int32) &&& 31)))]))
  refine Run.pre (fun _ k => XS.iand X216.here hx rfl (hb hby d13_52) rfl k) ?_
  show Run p e below s _ _ _ (T216.setTop (mkF m 53 #[.val (.ref b), .val (.int (5 : Int32))] [(.int (y5 &&& (255 : Int32))), (.int ((y4 &&& (255 : Int32)) <<< ((0 : Int32) &&& 31)))]))
  obtain ⟨T218, X218, e218, st218⟩ := getS2 X216 hx hZ hown (host := "") (Or.inl (hw _ (List.mem_of_getElem? (i := 59) rfl))) Via.refl e216 (SL.ext OL.2) (g := (mkF m 53 #[.val (.ref b), .val (.int (5 : Int32))] [(.int (y5 &&& (255 : Int32))), (.int ((y4 &&& (255 : Int32)) <<< ((0 : Int32) &&& 31)))])) rfl (hb hby d13_53)
  refine Run.pre st218 ?_
  show Run p e below s _ _ _ (T218.setTop (mkF m 56 #[.val (.ref b), .val (.int (5 : Int32))] [(.int (8 : Int32)), (.int (y5 &&& (255 : Int32))), (.int ((y4 &&& (255 : Int32)) <<< ((0 : Int32) &&& 31)))]))
  refine Run.pre (fun _ k => XS.ishl X218.here hx rfl (hb hby d13_56) rfl k) ?_
  show Run p e below s _ _ _ (T218.setTop (mkF m 57 #[.val (.ref b), .val (.int (5 : Int32))] [(.int ((y5 &&& (255 : Int32)) <<< ((8 : Int32) &&& 31))), (.int ((y4 &&& (255 : Int32)) <<< ((0 : Int32) &&& 31)))]))
  refine Run.pre (fun _ k => XS.ior X218.here hx rfl (hb hby d13_57) rfl k) ?_
  show Run p e below s _ _ _ (T218.setTop (mkF m 58 #[.val (.ref b), .val (.int (5 : Int32))] [(.int (((y4 &&& (255 : Int32)) <<< ((0 : Int32) &&& 31)) ||| ((y5 &&& (255 : Int32)) <<< ((8 : Int32) &&& 31))))]))
  refine Run.pre (fun _ k => XS.i2c X218.here hx rfl (hb hby d13_58) rfl k) ?_
  show Run p e below s _ _ _ (T218.setTop (mkF m 59 #[.val (.ref b), .val (.int (5 : Int32))] [(.int ((((y4 &&& (255 : Int32)) <<< ((0 : Int32) &&& 31)) ||| ((y5 &&& (255 : Int32)) <<< ((8 : Int32) &&& 31))).toUInt32.toUInt16.toUInt32.toInt32))]))
  exact Run.retN hS (by first | exact Nat.le_refl _ | (rw [e218]; exact (Nat.zero_le _))) X218 hx hret (t := .char) (by simp) hlk (hb hby d13_59) (by first | (rw [e218]; exact ⟨rfl, N0, rfl⟩) | exact ⟨rfl, N0, rfl⟩) (by decide) (by decide)
set_option maxRecDepth 65536 in
set_option maxHeartbeats 40000000 in
theorem rmTB_3 (l : Launch) (Z : State) (a0 : Array Value) (hw : ∀ d ∈ tables_1, d.before a0 Z = true) (ar : Addr) (kc : ClassId) (c0 : Int32) (c1 : Int32) (c2 : Int32) (h0 : Heap) (n0 : Nat) (Z0 : n0 ≤ h0.size) (OL : Old Z n0 h0) (SA : Sta Z Z.heap "java/lang/StringUTF16" "$assertionsDisabled" "Z" (.int 1)) (SH : Sta Z Z.heap "java/lang/StringUTF16" "HI_BYTE_SHIFT" "I" (.int 0)) (SL : Sta Z Z.heap "java/lang/StringUTF16" "LO_BYTE_SHIFT" "I" (.int 8)) (AC : Arv Z h0 ar kc .char 3 [(.int c0), (.int c1), (.int c2)] (.int 0)) :
    Con l (⟨"java/lang/StringUTF16", "toBytes", "([CII)[B"⟩ : MethodName) jdk_52_method_14_code 5 (some (.array .byte)) ({ frames := 2, cells := 1, slots := 6, locals := 24 } : Room) Z #[(.ref ar), (.int (0 : Int32)), (.int (3 : Int32))] h0 (fun _ => True) (fun v h L vm => ∃ b : Addr, ∃ k : ClassId, v = some (.ref b) ∧ Fr n0 L ∧ Keep h0 h [] ∧ h0.size ≤ b ∧ Arv Z h b k .byte 6 [(.int (own_b0 c0)), (.int (own_b1 c0)), (.int (own_b0 c1)), (.int (own_b1 c1)), (.int (own_b0 c2)), (.int (own_b1 c2))] (.int 0)) := by
  refine Con.mk (plainFor_of_name pn_9) (fun m => show entryFrame m #[(.ref ar), (.int (0 : Int32)), (.int (3 : Int32))] 5 = mkF m 0 #[.val (.ref ar), .val (.int (0 : Int32)), .val (.int (3 : Int32)), .unset, .unset] [] by first | (simp [entryFrame, mkF, argsToLocals, Value.category]; done) | rfl) ?_
  intro p e s m below meth c s₁ vm0 hx hby hml hown hnm hret hlk hZ X0 e0 hS hs0 hP0
  have N0 := Fr.nil n0
  show Run p e below s _ _ _ (s₁.setTop (mkF m 0 #[.val (.ref ar), .val (.int (0 : Int32)), .val (.int (3 : Int32)), .unset, .unset] []))
  refine Run.pre (fun _ k => XS.iloadN X0.here hx rfl (hb hby d9_0) rfl  k) ?_
  show Run p e below s _ _ _ (s₁.setTop (mkF m 1 #[.val (.ref ar), .val (.int (0 : Int32)), .val (.int (3 : Int32)), .unset, .unset] [(.int (3 : Int32))]))
  refine Run.callS hS (by first | exact Nat.le_refl _ | (rw [e0]; exact (Nat.zero_le _))) X0 hx hZ (y := (⟨"java/lang/StringUTF16", "newBytesFor", "(I)[B"⟩ : MethodName)) hown (hw _ (List.mem_of_getElem? (i := 47) rfl)) (hw _ (List.mem_of_getElem? (i := 48) rfl)) (hw _ (List.mem_of_getElem? (i := 39) rfl)) (hw _ (List.mem_of_getElem? (i := 49) rfl)) (by decide) (W := 0) (rmNF_3 l Z a0 hw h0 n0 (Nat.le_trans Z0 (Keep.refl h0 []).1)) e0 (by decide) (by decide) (by decide) (by decide) (fun _ _ => trivial) (g := (mkF m 1 #[.val (.ref ar), .val (.int (0 : Int32)), .val (.int (3 : Int32)), .unset, .unset] [(.int (3 : Int32))])) rfl (by rw [hml]; rfl) (argsL := [(.int (3 : Int32))]) (rest := []) (lenOf pd_1 rfl) rfl (by show 2 * 0 + _ ≤ _; exact Nat.le_of_eq rfl) (hb hby d9_1) ?_
  intro v219 T219 L219 X219 hS hZ hown hV219 hQ219
  obtain ⟨b219, k219, rfl, Nq219, Kc219, sz219, vb219⟩ := hQ219
  have N219 := Fr.app N0 Nq219
  have K219 : Keep h0 T219.heap [] := (Keep.refl h0 []).trans Kc219 all0
  have sz_b219 : h0.size ≤ b219 := Nat.le_trans (Keep.refl h0 []).1 sz219
  have gn_b219 : n0 ≤ b219 := Nat.le_trans Z0 sz_b219
  show Run p e below s _ _ _ (T219.setTop (mkF m 4 #[.val (.ref ar), .val (.int (0 : Int32)), .val (.int (3 : Int32)), .unset, .unset] [(.ref b219)]))
  refine Run.pre (fun _ k => XS.astoreN X219.here hx rfl (hb hby d9_4) rfl rfl (l' := #[.val (.ref ar), .val (.int (0 : Int32)), .val (.int (3 : Int32)), .val (.ref b219), .unset]) rfl k) ?_
  show Run p e below s _ _ _ (T219.setTop (mkF m 5 #[.val (.ref ar), .val (.int (0 : Int32)), .val (.int (3 : Int32)), .val (.ref b219), .unset] []))
  refine Run.pre (fun _ k => XS.iconst X219.here hx rfl (hb hby d9_5) k) ?_
  show Run p e below s _ _ _ (T219.setTop (mkF m 6 #[.val (.ref ar), .val (.int (0 : Int32)), .val (.int (3 : Int32)), .val (.ref b219), .unset] [(.int (0 : Int32))]))
  refine Run.pre (fun _ k => XS.istore X219.here hx rfl (hb hby d9_6) rfl (l' := #[.val (.ref ar), .val (.int (0 : Int32)), .val (.int (3 : Int32)), .val (.ref b219), .val (.int (0 : Int32))]) rfl k) ?_
  show Run p e below s _ _ _ (T219.setTop (mkF m 8 #[.val (.ref ar), .val (.int (0 : Int32)), .val (.int (3 : Int32)), .val (.ref b219), .val (.int (0 : Int32))] []))
  refine Run.pre (fun _ k => XS.iload X219.here hx rfl (hb hby d9_8) rfl  k) ?_
  show Run p e below s _ _ _ (T219.setTop (mkF m 10 #[.val (.ref ar), .val (.int (0 : Int32)), .val (.int (3 : Int32)), .val (.ref b219), .val (.int (0 : Int32))] [(.int (0 : Int32))]))
  refine Run.pre (fun _ k => XS.iloadN X219.here hx rfl (hb hby d9_10) rfl  k) ?_
  show Run p e below s _ _ _ (T219.setTop (mkF m 11 #[.val (.ref ar), .val (.int (0 : Int32)), .val (.int (3 : Int32)), .val (.ref b219), .val (.int (0 : Int32))] [(.int (3 : Int32)), (.int (0 : Int32))]))
  refine Run.pre (fun _ k => XS.icmpNo X219.here hx rfl (hb hby d9_11) rfl (tlt ((by decide) : (0 : Int32) < (3 : Int32))).2.1 k) ?_
  show Run p e below s _ _ _ (T219.setTop (mkF m 14 #[.val (.ref ar), .val (.int (0 : Int32)), .val (.int (3 : Int32)), .val (.ref b219), .val (.int (0 : Int32))] []))
  refine Run.pre (fun _ k => XS.aloadN X219.here hx rfl (hb hby d9_14) rfl rfl k) ?_
  show Run p e below s _ _ _ (T219.setTop (mkF m 15 #[.val (.ref ar), .val (.int (0 : Int32)), .val (.int (3 : Int32)), .val (.ref b219), .val (.int (0 : Int32))] [(.ref b219)]))
  refine Run.pre (fun _ k => XS.iload X219.here hx rfl (hb hby d9_15) rfl  k) ?_
  show Run p e below s _ _ _ (T219.setTop (mkF m 17 #[.val (.ref ar), .val (.int (0 : Int32)), .val (.int (3 : Int32)), .val (.ref b219), .val (.int (0 : Int32))] [(.int (0 : Int32)), (.ref b219)]))
  refine Run.pre (fun _ k => XS.aloadN X219.here hx rfl (hb hby d9_17) rfl rfl k) ?_
  show Run p e below s _ _ _ (T219.setTop (mkF m 18 #[.val (.ref ar), .val (.int (0 : Int32)), .val (.int (3 : Int32)), .val (.ref b219), .val (.int (0 : Int32))] [(.ref ar), (.int (0 : Int32)), (.ref b219)]))
  refine Run.pre (fun _ k => XS.iloadN X219.here hx rfl (hb hby d9_18) rfl  k) ?_
  show Run p e below s _ _ _ (T219.setTop (mkF m 19 #[.val (.ref ar), .val (.int (0 : Int32)), .val (.int (3 : Int32)), .val (.ref b219), .val (.int (0 : Int32))] [(.int (0 : Int32)), (.ref ar), (.int (0 : Int32)), (.ref b219)]))
  have f220 := (AC.keep Kc219 nin0)
  obtain ⟨c221, Ar221, -, S221, N221, H221, -⟩ := id f220
  have hin221 : ¬ ((0 : Int32) < 0 ∨ c221.slots.size ≤ ((0 : Int32)).toNatClampNeg) := inb_of S221 ⟨by decide, by decide⟩
  refine Run.pre (X219.caload hx (j := (0 : Int32)) (v := (.int c0)) Ar221.1 (State.isArrayOf_alike hZ.alike Ar221.2.1) Ar221.2.2 hin221 (H221.at hin221 rfl) (g := (mkF m 19 #[.val (.ref ar), .val (.int (0 : Int32)), .val (.int (3 : Int32)), .val (.ref b219), .val (.int (0 : Int32))] [(.int (0 : Int32)), (.ref ar), (.int (0 : Int32)), (.ref b219)])) rfl rfl (hb hby d9_19)) ?_
  show Run p e below s _ _ _ (T219.setTop (mkF m 20 #[.val (.ref ar), .val (.int (0 : Int32)), .val (.int (3 : Int32)), .val (.ref b219), .val (.int (0 : Int32))] [(.int c0), (.int (0 : Int32)), (.ref b219)]))
  have f222 := (OL.keep Kc219 all0)
  refine Run.callS hS (Nat.le_refl _) X219 hx hZ (y := (⟨"java/lang/StringUTF16", "putChar", "([BII)V"⟩ : MethodName)) hown (hw _ (List.mem_of_getElem? (i := 54) rfl)) (hw _ (List.mem_of_getElem? (i := 55) rfl)) (hw _ (List.mem_of_getElem? (i := 39) rfl)) (hw _ (List.mem_of_getElem? (i := 56) rfl)) (by decide) (W := 0) (rmPC_3_0 l Z a0 hw b219 k219 c0 (0 : Int32) (0 : Int32) (0 : Int32) (0 : Int32) (0 : Int32) (0 : Int32) T219.heap n0 (Nat.le_trans Z0 K219.1) f222 SA SH SL vb219 gn_b219) rfl (by decide) (by decide) (by decide) (by decide) (fun _ _ => trivial) (g := (mkF m 20 #[.val (.ref ar), .val (.int (0 : Int32)), .val (.int (3 : Int32)), .val (.ref b219), .val (.int (0 : Int32))] [(.int c0), (.int (0 : Int32)), (.ref b219)])) rfl (by rw [hml]; rfl) (argsL := [(.ref b219), (.int (0 : Int32)), (.int c0)]) (rest := []) (lenOf pd_2 rfl) rfl (by show 2 * 0 + _ ≤ _; exact Nat.le_of_eq rfl) (hb hby d9_20) ?_
  intro v223 T223 L223 X223 hS hZ hown hV223 hQ223
  obtain ⟨rfl, Nq223, Kc223, vb223⟩ := hQ223
  have N223 := Fr.app N219 Nq223
  have K223 : Keep h0 T223.heap [] := K219.trans Kc223 (allS (Or.inr sz_b219) all0)
  show Run p e below s _ _ _ (T223.setTop (mkF m 23 #[.val (.ref ar), .val (.int (0 : Int32)), .val (.int (3 : Int32)), .val (.ref b219), .val (.int (0 : Int32))] []))
  refine Run.pre (fun _ k => XS.iinc X223.here hx rfl (hb hby d9_23) rfl (l' := #[.val (.ref ar), .val (.int (1 : Int32)), .val (.int (3 : Int32)), .val (.ref b219), .val (.int (0 : Int32))]) rfl k) ?_
  show Run p e below s _ _ _ (T223.setTop (mkF m 26 #[.val (.ref ar), .val (.int (1 : Int32)), .val (.int (3 : Int32)), .val (.ref b219), .val (.int (0 : Int32))] []))
  refine Run.pre (fun _ k => XS.iinc X223.here hx rfl (hb hby d9_26) rfl (l' := #[.val (.ref ar), .val (.int (1 : Int32)), .val (.int (3 : Int32)), .val (.ref b219), .val (.int (1 : Int32))]) rfl k) ?_
  show Run p e below s _ _ _ (T223.setTop (mkF m 29 #[.val (.ref ar), .val (.int (1 : Int32)), .val (.int (3 : Int32)), .val (.ref b219), .val (.int (1 : Int32))] []))
  refine Run.pre (fun _ k => XS.goto X223.here hx rfl (pc0 := 29) (pc' := 8) rfl (hb hby d9_29) (by decide) (by decide) k) ?_
  show Run p e below s _ _ _ (T223.setTop (mkF m 8 #[.val (.ref ar), .val (.int (1 : Int32)), .val (.int (3 : Int32)), .val (.ref b219), .val (.int (1 : Int32))] []))
  refine Run.pre (fun _ k => XS.iload X223.here hx rfl (hb hby d9_8) rfl  k) ?_
  show Run p e below s _ _ _ (T223.setTop (mkF m 10 #[.val (.ref ar), .val (.int (1 : Int32)), .val (.int (3 : Int32)), .val (.ref b219), .val (.int (1 : Int32))] [(.int (1 : Int32))]))
  refine Run.pre (fun _ k => XS.iloadN X223.here hx rfl (hb hby d9_10) rfl  k) ?_
  show Run p e below s _ _ _ (T223.setTop (mkF m 11 #[.val (.ref ar), .val (.int (1 : Int32)), .val (.int (3 : Int32)), .val (.ref b219), .val (.int (1 : Int32))] [(.int (3 : Int32)), (.int (1 : Int32))]))
  refine Run.pre (fun _ k => XS.icmpNo X223.here hx rfl (hb hby d9_11) rfl (tlt ((by decide) : (1 : Int32) < (3 : Int32))).2.1 k) ?_
  show Run p e below s _ _ _ (T223.setTop (mkF m 14 #[.val (.ref ar), .val (.int (1 : Int32)), .val (.int (3 : Int32)), .val (.ref b219), .val (.int (1 : Int32))] []))
  refine Run.pre (fun _ k => XS.aloadN X223.here hx rfl (hb hby d9_14) rfl rfl k) ?_
  show Run p e below s _ _ _ (T223.setTop (mkF m 15 #[.val (.ref ar), .val (.int (1 : Int32)), .val (.int (3 : Int32)), .val (.ref b219), .val (.int (1 : Int32))] [(.ref b219)]))
  refine Run.pre (fun _ k => XS.iload X223.here hx rfl (hb hby d9_15) rfl  k) ?_
  show Run p e below s _ _ _ (T223.setTop (mkF m 17 #[.val (.ref ar), .val (.int (1 : Int32)), .val (.int (3 : Int32)), .val (.ref b219), .val (.int (1 : Int32))] [(.int (1 : Int32)), (.ref b219)]))
  refine Run.pre (fun _ k => XS.aloadN X223.here hx rfl (hb hby d9_17) rfl rfl k) ?_
  show Run p e below s _ _ _ (T223.setTop (mkF m 18 #[.val (.ref ar), .val (.int (1 : Int32)), .val (.int (3 : Int32)), .val (.ref b219), .val (.int (1 : Int32))] [(.ref ar), (.int (1 : Int32)), (.ref b219)]))
  refine Run.pre (fun _ k => XS.iloadN X223.here hx rfl (hb hby d9_18) rfl  k) ?_
  show Run p e below s _ _ _ (T223.setTop (mkF m 19 #[.val (.ref ar), .val (.int (1 : Int32)), .val (.int (3 : Int32)), .val (.ref b219), .val (.int (1 : Int32))] [(.int (1 : Int32)), (.ref ar), (.int (1 : Int32)), (.ref b219)]))
  have f224 := (f220.keep Kc223 (ninS (Nat.ne_of_lt (Nat.lt_of_lt_of_le AC.lt sz219)) nin0))
  obtain ⟨c225, Ar225, -, S225, N225, H225, -⟩ := id f224
  have hin225 : ¬ ((1 : Int32) < 0 ∨ c225.slots.size ≤ ((1 : Int32)).toNatClampNeg) := inb_of S225 ⟨by decide, by decide⟩
  refine Run.pre (X223.caload hx (j := (1 : Int32)) (v := (.int c1)) Ar225.1 (State.isArrayOf_alike hZ.alike Ar225.2.1) Ar225.2.2 hin225 (H225.at hin225 rfl) (g := (mkF m 19 #[.val (.ref ar), .val (.int (1 : Int32)), .val (.int (3 : Int32)), .val (.ref b219), .val (.int (1 : Int32))] [(.int (1 : Int32)), (.ref ar), (.int (1 : Int32)), (.ref b219)])) rfl rfl (hb hby d9_19)) ?_
  show Run p e below s _ _ _ (T223.setTop (mkF m 20 #[.val (.ref ar), .val (.int (1 : Int32)), .val (.int (3 : Int32)), .val (.ref b219), .val (.int (1 : Int32))] [(.int c1), (.int (1 : Int32)), (.ref b219)]))
  have f226 := (f222.keep Kc223 (allS gn_b219 all0))
  refine Run.callS hS (Nat.le_refl _) X223 hx hZ (y := (⟨"java/lang/StringUTF16", "putChar", "([BII)V"⟩ : MethodName)) hown (hw _ (List.mem_of_getElem? (i := 54) rfl)) (hw _ (List.mem_of_getElem? (i := 55) rfl)) (hw _ (List.mem_of_getElem? (i := 39) rfl)) (hw _ (List.mem_of_getElem? (i := 56) rfl)) (by decide) (W := 0) (rmPC_3_1 l Z a0 hw b219 k219 c1 (own_b0 c0) (own_b1 c0) (0 : Int32) (0 : Int32) (0 : Int32) (0 : Int32) T223.heap n0 (Nat.le_trans Z0 K223.1) f226 SA SH SL vb223 gn_b219) rfl (by decide) (by decide) (by decide) (by decide) (fun _ _ => trivial) (g := (mkF m 20 #[.val (.ref ar), .val (.int (1 : Int32)), .val (.int (3 : Int32)), .val (.ref b219), .val (.int (1 : Int32))] [(.int c1), (.int (1 : Int32)), (.ref b219)])) rfl (by rw [hml]; rfl) (argsL := [(.ref b219), (.int (1 : Int32)), (.int c1)]) (rest := []) (lenOf pd_2 rfl) rfl (by show 2 * 0 + _ ≤ _; exact Nat.le_of_eq rfl) (hb hby d9_20) ?_
  intro v227 T227 L227 X227 hS hZ hown hV227 hQ227
  obtain ⟨rfl, Nq227, Kc227, vb227⟩ := hQ227
  have N227 := Fr.app N223 Nq227
  have K227 : Keep h0 T227.heap [] := K223.trans Kc227 (allS (Or.inr sz_b219) all0)
  show Run p e below s _ _ _ (T227.setTop (mkF m 23 #[.val (.ref ar), .val (.int (1 : Int32)), .val (.int (3 : Int32)), .val (.ref b219), .val (.int (1 : Int32))] []))
  refine Run.pre (fun _ k => XS.iinc X227.here hx rfl (hb hby d9_23) rfl (l' := #[.val (.ref ar), .val (.int (2 : Int32)), .val (.int (3 : Int32)), .val (.ref b219), .val (.int (1 : Int32))]) rfl k) ?_
  show Run p e below s _ _ _ (T227.setTop (mkF m 26 #[.val (.ref ar), .val (.int (2 : Int32)), .val (.int (3 : Int32)), .val (.ref b219), .val (.int (1 : Int32))] []))
  refine Run.pre (fun _ k => XS.iinc X227.here hx rfl (hb hby d9_26) rfl (l' := #[.val (.ref ar), .val (.int (2 : Int32)), .val (.int (3 : Int32)), .val (.ref b219), .val (.int (2 : Int32))]) rfl k) ?_
  show Run p e below s _ _ _ (T227.setTop (mkF m 29 #[.val (.ref ar), .val (.int (2 : Int32)), .val (.int (3 : Int32)), .val (.ref b219), .val (.int (2 : Int32))] []))
  refine Run.pre (fun _ k => XS.goto X227.here hx rfl (pc0 := 29) (pc' := 8) rfl (hb hby d9_29) (by decide) (by decide) k) ?_
  show Run p e below s _ _ _ (T227.setTop (mkF m 8 #[.val (.ref ar), .val (.int (2 : Int32)), .val (.int (3 : Int32)), .val (.ref b219), .val (.int (2 : Int32))] []))
  refine Run.pre (fun _ k => XS.iload X227.here hx rfl (hb hby d9_8) rfl  k) ?_
  show Run p e below s _ _ _ (T227.setTop (mkF m 10 #[.val (.ref ar), .val (.int (2 : Int32)), .val (.int (3 : Int32)), .val (.ref b219), .val (.int (2 : Int32))] [(.int (2 : Int32))]))
  refine Run.pre (fun _ k => XS.iloadN X227.here hx rfl (hb hby d9_10) rfl  k) ?_
  show Run p e below s _ _ _ (T227.setTop (mkF m 11 #[.val (.ref ar), .val (.int (2 : Int32)), .val (.int (3 : Int32)), .val (.ref b219), .val (.int (2 : Int32))] [(.int (3 : Int32)), (.int (2 : Int32))]))
  refine Run.pre (fun _ k => XS.icmpNo X227.here hx rfl (hb hby d9_11) rfl (tlt ((by decide) : (2 : Int32) < (3 : Int32))).2.1 k) ?_
  show Run p e below s _ _ _ (T227.setTop (mkF m 14 #[.val (.ref ar), .val (.int (2 : Int32)), .val (.int (3 : Int32)), .val (.ref b219), .val (.int (2 : Int32))] []))
  refine Run.pre (fun _ k => XS.aloadN X227.here hx rfl (hb hby d9_14) rfl rfl k) ?_
  show Run p e below s _ _ _ (T227.setTop (mkF m 15 #[.val (.ref ar), .val (.int (2 : Int32)), .val (.int (3 : Int32)), .val (.ref b219), .val (.int (2 : Int32))] [(.ref b219)]))
  refine Run.pre (fun _ k => XS.iload X227.here hx rfl (hb hby d9_15) rfl  k) ?_
  show Run p e below s _ _ _ (T227.setTop (mkF m 17 #[.val (.ref ar), .val (.int (2 : Int32)), .val (.int (3 : Int32)), .val (.ref b219), .val (.int (2 : Int32))] [(.int (2 : Int32)), (.ref b219)]))
  refine Run.pre (fun _ k => XS.aloadN X227.here hx rfl (hb hby d9_17) rfl rfl k) ?_
  show Run p e below s _ _ _ (T227.setTop (mkF m 18 #[.val (.ref ar), .val (.int (2 : Int32)), .val (.int (3 : Int32)), .val (.ref b219), .val (.int (2 : Int32))] [(.ref ar), (.int (2 : Int32)), (.ref b219)]))
  refine Run.pre (fun _ k => XS.iloadN X227.here hx rfl (hb hby d9_18) rfl  k) ?_
  show Run p e below s _ _ _ (T227.setTop (mkF m 19 #[.val (.ref ar), .val (.int (2 : Int32)), .val (.int (3 : Int32)), .val (.ref b219), .val (.int (2 : Int32))] [(.int (2 : Int32)), (.ref ar), (.int (2 : Int32)), (.ref b219)]))
  have f228 := (f224.keep Kc227 (ninS (Nat.ne_of_lt (Nat.lt_of_lt_of_le AC.lt sz219)) nin0))
  obtain ⟨c229, Ar229, -, S229, N229, H229, -⟩ := id f228
  have hin229 : ¬ ((2 : Int32) < 0 ∨ c229.slots.size ≤ ((2 : Int32)).toNatClampNeg) := inb_of S229 ⟨by decide, by decide⟩
  refine Run.pre (X227.caload hx (j := (2 : Int32)) (v := (.int c2)) Ar229.1 (State.isArrayOf_alike hZ.alike Ar229.2.1) Ar229.2.2 hin229 (H229.at hin229 rfl) (g := (mkF m 19 #[.val (.ref ar), .val (.int (2 : Int32)), .val (.int (3 : Int32)), .val (.ref b219), .val (.int (2 : Int32))] [(.int (2 : Int32)), (.ref ar), (.int (2 : Int32)), (.ref b219)])) rfl rfl (hb hby d9_19)) ?_
  show Run p e below s _ _ _ (T227.setTop (mkF m 20 #[.val (.ref ar), .val (.int (2 : Int32)), .val (.int (3 : Int32)), .val (.ref b219), .val (.int (2 : Int32))] [(.int c2), (.int (2 : Int32)), (.ref b219)]))
  have f230 := (f226.keep Kc227 (allS gn_b219 all0))
  refine Run.callS hS (Nat.le_refl _) X227 hx hZ (y := (⟨"java/lang/StringUTF16", "putChar", "([BII)V"⟩ : MethodName)) hown (hw _ (List.mem_of_getElem? (i := 54) rfl)) (hw _ (List.mem_of_getElem? (i := 55) rfl)) (hw _ (List.mem_of_getElem? (i := 39) rfl)) (hw _ (List.mem_of_getElem? (i := 56) rfl)) (by decide) (W := 0) (rmPC_3_2 l Z a0 hw b219 k219 c2 (own_b0 c0) (own_b1 c0) (own_b0 c1) (own_b1 c1) (0 : Int32) (0 : Int32) T227.heap n0 (Nat.le_trans Z0 K227.1) f230 SA SH SL vb227 gn_b219) rfl (by decide) (by decide) (by decide) (by decide) (fun _ _ => trivial) (g := (mkF m 20 #[.val (.ref ar), .val (.int (2 : Int32)), .val (.int (3 : Int32)), .val (.ref b219), .val (.int (2 : Int32))] [(.int c2), (.int (2 : Int32)), (.ref b219)])) rfl (by rw [hml]; rfl) (argsL := [(.ref b219), (.int (2 : Int32)), (.int c2)]) (rest := []) (lenOf pd_2 rfl) rfl (by show 2 * 0 + _ ≤ _; exact Nat.le_of_eq rfl) (hb hby d9_20) ?_
  intro v231 T231 L231 X231 hS hZ hown hV231 hQ231
  obtain ⟨rfl, Nq231, Kc231, vb231⟩ := hQ231
  have N231 := Fr.app N227 Nq231
  have K231 : Keep h0 T231.heap [] := K227.trans Kc231 (allS (Or.inr sz_b219) all0)
  show Run p e below s _ _ _ (T231.setTop (mkF m 23 #[.val (.ref ar), .val (.int (2 : Int32)), .val (.int (3 : Int32)), .val (.ref b219), .val (.int (2 : Int32))] []))
  refine Run.pre (fun _ k => XS.iinc X231.here hx rfl (hb hby d9_23) rfl (l' := #[.val (.ref ar), .val (.int (3 : Int32)), .val (.int (3 : Int32)), .val (.ref b219), .val (.int (2 : Int32))]) rfl k) ?_
  show Run p e below s _ _ _ (T231.setTop (mkF m 26 #[.val (.ref ar), .val (.int (3 : Int32)), .val (.int (3 : Int32)), .val (.ref b219), .val (.int (2 : Int32))] []))
  refine Run.pre (fun _ k => XS.iinc X231.here hx rfl (hb hby d9_26) rfl (l' := #[.val (.ref ar), .val (.int (3 : Int32)), .val (.int (3 : Int32)), .val (.ref b219), .val (.int (3 : Int32))]) rfl k) ?_
  show Run p e below s _ _ _ (T231.setTop (mkF m 29 #[.val (.ref ar), .val (.int (3 : Int32)), .val (.int (3 : Int32)), .val (.ref b219), .val (.int (3 : Int32))] []))
  refine Run.pre (fun _ k => XS.goto X231.here hx rfl (pc0 := 29) (pc' := 8) rfl (hb hby d9_29) (by decide) (by decide) k) ?_
  show Run p e below s _ _ _ (T231.setTop (mkF m 8 #[.val (.ref ar), .val (.int (3 : Int32)), .val (.int (3 : Int32)), .val (.ref b219), .val (.int (3 : Int32))] []))
  refine Run.pre (fun _ k => XS.iload X231.here hx rfl (hb hby d9_8) rfl  k) ?_
  show Run p e below s _ _ _ (T231.setTop (mkF m 10 #[.val (.ref ar), .val (.int (3 : Int32)), .val (.int (3 : Int32)), .val (.ref b219), .val (.int (3 : Int32))] [(.int (3 : Int32))]))
  refine Run.pre (fun _ k => XS.iloadN X231.here hx rfl (hb hby d9_10) rfl  k) ?_
  show Run p e below s _ _ _ (T231.setTop (mkF m 11 #[.val (.ref ar), .val (.int (3 : Int32)), .val (.int (3 : Int32)), .val (.ref b219), .val (.int (3 : Int32))] [(.int (3 : Int32)), (.int (3 : Int32))]))
  refine Run.pre (fun _ k => XS.icmpYes X231.here hx rfl (pc0 := 11) (pc' := 32) rfl (hb hby d9_11) rfl (flt ((by decide) : ¬ ((3 : Int32) < (3 : Int32)))).2.1 (by decide) (by decide) k) ?_
  show Run p e below s _ _ _ (T231.setTop (mkF m 32 #[.val (.ref ar), .val (.int (3 : Int32)), .val (.int (3 : Int32)), .val (.ref b219), .val (.int (3 : Int32))] []))
  refine Run.pre (fun _ k => XS.aloadN X231.here hx rfl (hb hby d9_32) rfl rfl k) ?_
  show Run p e below s _ _ _ (T231.setTop (mkF m 33 #[.val (.ref ar), .val (.int (3 : Int32)), .val (.int (3 : Int32)), .val (.ref b219), .val (.int (3 : Int32))] [(.ref b219)]))
  exact Run.retA hS (Nat.le_refl _) X231 hx hret rfl rfl hlk (hb hby d9_33) ⟨b219, k219, rfl, N231, K231, sz_b219, vb231⟩ (by decide) (by decide)
set_option maxRecDepth 65536 in
set_option maxHeartbeats 40000000 in
theorem rmC1_3 (l : Launch) (Z : State) (a0 : Array Value) (hw : ∀ d ∈ tables_1, d.before a0 Z = true) (ar : Addr) (kc : ClassId) (c0 : Int32) (c1 : Int32) (c2 : Int32) (h0 : Heap) (n0 : Nat) (Z0 : n0 ≤ h0.size) (OL : Old Z n0 h0) (SA : Sta Z Z.heap "java/lang/StringUTF16" "$assertionsDisabled" "Z" (.int 1)) (SH : Sta Z Z.heap "java/lang/StringUTF16" "HI_BYTE_SHIFT" "I" (.int 0)) (SL : Sta Z Z.heap "java/lang/StringUTF16" "LO_BYTE_SHIFT" "I" (.int 8)) (AC : Arv Z h0 ar kc .char 3 [(.int c0), (.int c1), (.int c2)] (.int 0)) (w0 : nar .char c0 = c0) (w1 : nar .char c1 = c1) (w2 : nar .char c2 = c2) :
    Con l (⟨"java/lang/StringUTF16", "compress", "([CII)[B"⟩ : MethodName) jdk_52_method_16_code 6 (some (.array .byte)) ({ frames := 3, cells := 2, slots := 9, locals := 40 } : Room) Z #[(.ref ar), (.int (0 : Int32)), (.int (3 : Int32))] h0 (fun _ => True) (fun v h L vm => ∃ b : Addr, ∃ k : ClassId, v = some (.ref b) ∧ Fr n0 L ∧ Keep h0 h [] ∧ h0.size ≤ b ∧ ((¬ (255 : Int32) < c0 ∧ ¬ (255 : Int32) < c1 ∧ ¬ (255 : Int32) < c2) ∧ Arv Z h b k .byte 3 [(.int (nar .byte (c0.toInt8.toInt32))), (.int (nar .byte (c1.toInt8.toInt32))), (.int (nar .byte (c2.toInt8.toInt32)))] (.int 0) ∨ (¬ (¬ (255 : Int32) < c0 ∧ ¬ (255 : Int32) < c1 ∧ ¬ (255 : Int32) < c2)) ∧ Arv Z h b k .byte 6 [(.int (own_b0 c0)), (.int (own_b1 c0)), (.int (own_b0 c1)), (.int (own_b1 c1)), (.int (own_b0 c2)), (.int (own_b1 c2))] (.int 0))) := by
  refine Con.mk (plainFor_of_name pn_7) (fun m => show entryFrame m #[(.ref ar), (.int (0 : Int32)), (.int (3 : Int32))] 6 = mkF m 0 #[.val (.ref ar), .val (.int (0 : Int32)), .val (.int (3 : Int32)), .unset, .unset, .unset] [] by first | (simp [entryFrame, mkF, argsToLocals, Value.category]; done) | rfl) ?_
  intro p e s m below meth c s₁ vm0 hx hby hml hown hnm hret hlk hZ X0 e0 hS hs0 hP0
  have N0 := Fr.nil n0
  show Run p e below s _ _ _ (s₁.setTop (mkF m 0 #[.val (.ref ar), .val (.int (0 : Int32)), .val (.int (3 : Int32)), .unset, .unset, .unset] []))
  refine Run.pre (fun _ k => XS.iloadN X0.here hx rfl (hb hby d7_0) rfl  k) ?_
  show Run p e below s _ _ _ (s₁.setTop (mkF m 1 #[.val (.ref ar), .val (.int (0 : Int32)), .val (.int (3 : Int32)), .unset, .unset, .unset] [(.int (3 : Int32))]))
  obtain ⟨T232, h232, k232, X232, e232, E232, A232, st232⟩ := newP X0 hx hZ (hw _ (List.mem_of_getElem? (i := 20) rfl)) e0 (g := (mkF m 1 #[.val (.ref ar), .val (.int (0 : Int32)), .val (.int (3 : Int32)), .unset, .unset, .unset] [(.int (3 : Int32))])) rfl (hb hby d7_1) rfl (by decide) (cap := 3) (by decide) (by decide) (by decide) (by decide)
  obtain ⟨b232, g232⟩ : ∃ z, z = h0.size := ⟨_, rfl⟩
  rw [← g232] at A232 st232
  refine Run.pre st232 ?_
  have V_b232 : Arv Z h232 b232 k232 .byte (3 : Int32) [(.int (0 : Int32)), (.int (0 : Int32)), (.int (0 : Int32))] (.int (0 : Int32)) := (Arv.new A232 (by decide)).pad (pad_rep [] (.int (0 : Int32)) 3)
  have gn_b232 : n0 ≤ b232 := Nat.le_trans (Nat.le_trans Z0 (Keep.refl h0 []).1) (Nat.le_of_eq g232.symm)
  have sz_b232 : h0.size ≤ b232 := Nat.le_trans (Keep.refl h0 []).1 (Nat.le_of_eq g232.symm)
  have K232 : Keep h0 h232 [] := (Keep.refl h0 []).ext E232
  show Run p e below s _ _ _ (T232.setTop (mkF m 3 #[.val (.ref ar), .val (.int (0 : Int32)), .val (.int (3 : Int32)), .unset, .unset, .unset] [(.ref b232)]))
  refine Run.pre (fun _ k => XS.astoreN X232.here hx rfl (hb hby d7_3) rfl rfl (l' := #[.val (.ref ar), .val (.int (0 : Int32)), .val (.int (3 : Int32)), .val (.ref b232), .unset, .unset]) rfl k) ?_
  show Run p e below s _ _ _ (T232.setTop (mkF m 4 #[.val (.ref ar), .val (.int (0 : Int32)), .val (.int (3 : Int32)), .val (.ref b232), .unset, .unset] []))
  refine Run.pre (fun _ k => XS.aloadN X232.here hx rfl (hb hby d7_4) rfl rfl k) ?_
  show Run p e below s _ _ _ (T232.setTop (mkF m 5 #[.val (.ref ar), .val (.int (0 : Int32)), .val (.int (3 : Int32)), .val (.ref b232), .unset, .unset] [(.ref ar)]))
  refine Run.pre (fun _ k => XS.iloadN X232.here hx rfl (hb hby d7_5) rfl  k) ?_
  show Run p e below s _ _ _ (T232.setTop (mkF m 6 #[.val (.ref ar), .val (.int (0 : Int32)), .val (.int (3 : Int32)), .val (.ref b232), .unset, .unset] [(.int (0 : Int32)), (.ref ar)]))
  refine Run.pre (fun _ k => XS.aloadN X232.here hx rfl (hb hby d7_6) rfl rfl k) ?_
  show Run p e below s _ _ _ (T232.setTop (mkF m 7 #[.val (.ref ar), .val (.int (0 : Int32)), .val (.int (3 : Int32)), .val (.ref b232), .unset, .unset] [(.ref b232), (.int (0 : Int32)), (.ref ar)]))
  refine Run.pre (fun _ k => XS.iconst X232.here hx rfl (hb hby d7_7) k) ?_
  show Run p e below s _ _ _ (T232.setTop (mkF m 8 #[.val (.ref ar), .val (.int (0 : Int32)), .val (.int (3 : Int32)), .val (.ref b232), .unset, .unset] [(.int (0 : Int32)), (.ref b232), (.int (0 : Int32)), (.ref ar)]))
  refine Run.pre (fun _ k => XS.iloadN X232.here hx rfl (hb hby d7_8) rfl  k) ?_
  show Run p e below s _ _ _ (T232.setTop (mkF m 9 #[.val (.ref ar), .val (.int (0 : Int32)), .val (.int (3 : Int32)), .val (.ref b232), .unset, .unset] [(.int (3 : Int32)), (.int (0 : Int32)), (.ref b232), (.int (0 : Int32)), (.ref ar)]))
  by_cases q0 : (255 : Int32) < c0
  · skip
    show Run p e below s _ _ _ (T232.setTop (mkF m 9 #[.val (.ref ar), .val (.int (0 : Int32)), .val (.int (3 : Int32)), .val (.ref b232), .unset, .unset] [(.int (3 : Int32)), (.int (0 : Int32)), (.ref b232), (.int (0 : Int32)), (.ref ar)]))
    have f233 := (AC.ext E232)
    refine Run.callS hS (by first | exact Nat.le_refl _ | (rw [e232]; exact (Nat.le_trans (Nat.zero_le _) E232.1))) X232 hx hZ (y := (⟨"java/lang/StringUTF16", "compress", "([CI[BII)I"⟩ : MethodName)) hown (hw _ (List.mem_of_getElem? (i := 41) rfl)) (hw _ (List.mem_of_getElem? (i := 42) rfl)) (hw _ (List.mem_of_getElem? (i := 39) rfl)) (hw _ (List.mem_of_getElem? (i := 43) rfl)) (by decide) (W := 0) (rmC2_3_0 l Z a0 hw ar b232 kc k232 c0 c1 c2 h232 n0 (Nat.le_trans Z0 K232.1) f233 V_b232 (Nat.ne_of_lt (Nat.lt_of_lt_of_le AC.lt (Nat.le_of_eq g232.symm))) gn_b232 q0) e232 (by decide) (by decide) (by decide) (by decide) (fun _ _ => trivial) (g := (mkF m 9 #[.val (.ref ar), .val (.int (0 : Int32)), .val (.int (3 : Int32)), .val (.ref b232), .unset, .unset] [(.int (3 : Int32)), (.int (0 : Int32)), (.ref b232), (.int (0 : Int32)), (.ref ar)])) rfl (by rw [hml]; rfl) (argsL := [(.ref ar), (.int (0 : Int32)), (.ref b232), (.int (0 : Int32)), (.int (3 : Int32))]) (rest := []) (lenOf pd_3 rfl) rfl (by show 2 * 0 + _ ≤ _; exact Nat.le_of_eq rfl) (hb hby d7_9) ?_
    intro v234 T234 L234 X234 hS hZ hown hV234 hQ234
    obtain ⟨rfl, Nq234, Kc234⟩ := hQ234
    have N234 := Fr.app N0 Nq234
    have K234 : Keep h0 T234.heap [] := K232.trans Kc234 (allS (Or.inr sz_b232) all0)
    show Run p e below s _ _ _ (T234.setTop (mkF m 12 #[.val (.ref ar), .val (.int (0 : Int32)), .val (.int (3 : Int32)), .val (.ref b232), .unset, .unset] [(.int (0 : Int32))]))
    refine Run.pre (fun _ k => XS.istore X234.here hx rfl (hb hby d7_12) rfl (l' := #[.val (.ref ar), .val (.int (0 : Int32)), .val (.int (3 : Int32)), .val (.ref b232), .val (.int (0 : Int32)), .unset]) rfl k) ?_
    show Run p e below s _ _ _ (T234.setTop (mkF m 14 #[.val (.ref ar), .val (.int (0 : Int32)), .val (.int (3 : Int32)), .val (.ref b232), .val (.int (0 : Int32)), .unset] []))
    refine Run.pre (fun _ k => XS.iload X234.here hx rfl (hb hby d7_14) rfl  k) ?_
    show Run p e below s _ _ _ (T234.setTop (mkF m 16 #[.val (.ref ar), .val (.int (0 : Int32)), .val (.int (3 : Int32)), .val (.ref b232), .val (.int (0 : Int32)), .unset] [(.int (0 : Int32))]))
    refine Run.pre (fun _ k => XS.iloadN X234.here hx rfl (hb hby d7_16) rfl  k) ?_
    show Run p e below s _ _ _ (T234.setTop (mkF m 17 #[.val (.ref ar), .val (.int (0 : Int32)), .val (.int (3 : Int32)), .val (.ref b232), .val (.int (0 : Int32)), .unset] [(.int (3 : Int32)), (.int (0 : Int32))]))
    refine Run.pre (fun _ k => XS.icmpNo X234.here hx rfl (hb hby d7_17) rfl (feq ((by decide) : ¬ ((0 : Int32) = (3 : Int32)))).1 k) ?_
    show Run p e below s _ _ _ (T234.setTop (mkF m 20 #[.val (.ref ar), .val (.int (0 : Int32)), .val (.int (3 : Int32)), .val (.ref b232), .val (.int (0 : Int32)), .unset] []))
    refine Run.pre (fun _ k => XS.aloadN X234.here hx rfl (hb hby d7_20) rfl rfl k) ?_
    show Run p e below s _ _ _ (T234.setTop (mkF m 21 #[.val (.ref ar), .val (.int (0 : Int32)), .val (.int (3 : Int32)), .val (.ref b232), .val (.int (0 : Int32)), .unset] [(.ref ar)]))
    refine Run.pre (fun _ k => XS.iloadN X234.here hx rfl (hb hby d7_21) rfl  k) ?_
    show Run p e below s _ _ _ (T234.setTop (mkF m 22 #[.val (.ref ar), .val (.int (0 : Int32)), .val (.int (3 : Int32)), .val (.ref b232), .val (.int (0 : Int32)), .unset] [(.int (0 : Int32)), (.ref ar)]))
    refine Run.pre (fun _ k => XS.iloadN X234.here hx rfl (hb hby d7_22) rfl  k) ?_
    show Run p e below s _ _ _ (T234.setTop (mkF m 23 #[.val (.ref ar), .val (.int (0 : Int32)), .val (.int (3 : Int32)), .val (.ref b232), .val (.int (0 : Int32)), .unset] [(.int (3 : Int32)), (.int (0 : Int32)), (.ref ar)]))
    have f235 := ((OL.ext E232).keep Kc234 (allS gn_b232 all0))
    have f236 := (f233.keep Kc234 (ninS (Nat.ne_of_lt (Nat.lt_of_lt_of_le AC.lt (Nat.le_of_eq g232.symm))) nin0))
    refine Run.callS hS (Nat.le_refl _) X234 hx hZ (y := (⟨"java/lang/StringUTF16", "toBytes", "([CII)[B"⟩ : MethodName)) hown (hw _ (List.mem_of_getElem? (i := 44) rfl)) (hw _ (List.mem_of_getElem? (i := 45) rfl)) (hw _ (List.mem_of_getElem? (i := 39) rfl)) (hw _ (List.mem_of_getElem? (i := 46) rfl)) (by decide) (W := 0) (rmTB_3 l Z a0 hw ar kc c0 c1 c2 T234.heap n0 (Nat.le_trans Z0 K234.1) f235 SA SH SL f236) rfl (by decide) (by decide) (by decide) (by decide) (fun _ _ => trivial) (g := (mkF m 23 #[.val (.ref ar), .val (.int (0 : Int32)), .val (.int (3 : Int32)), .val (.ref b232), .val (.int (0 : Int32)), .unset] [(.int (3 : Int32)), (.int (0 : Int32)), (.ref ar)])) rfl (by rw [hml]; rfl) (argsL := [(.ref ar), (.int (0 : Int32)), (.int (3 : Int32))]) (rest := []) (lenOf pd_4 rfl) rfl (by show 2 * 0 + _ ≤ _; exact Nat.le_of_eq rfl) (hb hby d7_23) ?_
    intro v237 T237 L237 X237 hS hZ hown hV237 hQ237
    obtain ⟨b237, k237, rfl, Nq237, Kc237, sz237, vb237⟩ := hQ237
    have N237 := Fr.app N234 Nq237
    have K237 : Keep h0 T237.heap [] := K234.trans Kc237 all0
    have sz_b237 : h0.size ≤ b237 := Nat.le_trans K234.1 sz237
    have gn_b237 : n0 ≤ b237 := Nat.le_trans Z0 sz_b237
    show Run p e below s _ _ _ (T237.setTop (mkF m 26 #[.val (.ref ar), .val (.int (0 : Int32)), .val (.int (3 : Int32)), .val (.ref b232), .val (.int (0 : Int32)), .unset] [(.ref b237)]))
    refine Run.pre (fun _ k => XS.astore X237.here hx rfl (hb hby d7_26) rfl rfl (l' := #[.val (.ref ar), .val (.int (0 : Int32)), .val (.int (3 : Int32)), .val (.ref b232), .val (.int (0 : Int32)), .val (.ref b237)]) rfl k) ?_
    show Run p e below s _ _ _ (T237.setTop (mkF m 28 #[.val (.ref ar), .val (.int (0 : Int32)), .val (.int (3 : Int32)), .val (.ref b232), .val (.int (0 : Int32)), .val (.ref b237)] []))
    refine Run.pre (fun _ k => XS.aload X237.here hx rfl (hb hby d7_28) rfl rfl k) ?_
    show Run p e below s _ _ _ (T237.setTop (mkF m 30 #[.val (.ref ar), .val (.int (0 : Int32)), .val (.int (3 : Int32)), .val (.ref b232), .val (.int (0 : Int32)), .val (.ref b237)] [(.ref b237)]))
    refine Run.pre (fun _ k => XS.iload X237.here hx rfl (hb hby d7_30) rfl  k) ?_
    show Run p e below s _ _ _ (T237.setTop (mkF m 32 #[.val (.ref ar), .val (.int (0 : Int32)), .val (.int (3 : Int32)), .val (.ref b232), .val (.int (0 : Int32)), .val (.ref b237)] [(.int (0 : Int32)), (.ref b237)]))
    have f238 := (f235.keep Kc237 all0)
    refine Run.callS hS (Nat.le_refl _) X237 hx hZ (y := (⟨"java/lang/StringUTF16", "getChar", "([BI)C"⟩ : MethodName)) hown (hw _ (List.mem_of_getElem? (i := 60) rfl)) (hw _ (List.mem_of_getElem? (i := 61) rfl)) (hw _ (List.mem_of_getElem? (i := 39) rfl)) (hw _ (List.mem_of_getElem? (i := 62) rfl)) (by decide) (W := 0) (rmGC_3_0 l Z a0 hw b237 k237 (own_b0 c0) (own_b1 c0) (own_b0 c1) (own_b1 c1) (own_b0 c2) (own_b1 c2) T237.heap n0 (Nat.le_trans Z0 K237.1) f238 SA SH SL vb237) rfl (by decide) (by decide) (by decide) (by decide) (fun _ _ => trivial) (g := (mkF m 32 #[.val (.ref ar), .val (.int (0 : Int32)), .val (.int (3 : Int32)), .val (.ref b232), .val (.int (0 : Int32)), .val (.ref b237)] [(.int (0 : Int32)), (.ref b237)])) rfl (by rw [hml]; rfl) (argsL := [(.ref b237), (.int (0 : Int32))]) (rest := []) (lenOf pd_5 rfl) rfl (by show 2 * 0 + _ ≤ _; exact Nat.le_of_eq rfl) (hb hby d7_32) ?_
    intro v239 T239 L239 X239 hS hZ hown hV239 hQ239
    obtain ⟨rfl, Nq239, he239⟩ := hQ239
    have N239 := Fr.app N237 Nq239
    have e239 : T239.heap = T237.heap := he239
    show Run p e below s _ _ _ (T239.setTop (mkF m 35 #[.val (.ref ar), .val (.int (0 : Int32)), .val (.int (3 : Int32)), .val (.ref b232), .val (.int (0 : Int32)), .val (.ref b237)] [(.int (own_gcv (own_b0 c0) (own_b1 c0)))]))
    refine Run.pre (fun _ k => XS.sipush X239.here hx rfl (hb hby d7_35) k) ?_
    show Run p e below s _ _ _ (T239.setTop (mkF m 38 #[.val (.ref ar), .val (.int (0 : Int32)), .val (.int (3 : Int32)), .val (.ref b232), .val (.int (0 : Int32)), .val (.ref b237)] [(.int (255 : Int32)), (.int (own_gcv (own_b0 c0) (own_b1 c0)))]))
    refine Run.pre (fun _ k => XS.icmpYes X239.here hx rfl (pc0 := 38) (pc' := 54) rfl (hb hby d7_38) rfl (tlt ((by rw [own_gc c0 w0]; exact q0) : (255 : Int32) < (own_gcv (own_b0 c0) (own_b1 c0)))).2.2.1 (by decide) (by decide) k) ?_
    show Run p e below s _ _ _ (T239.setTop (mkF m 54 #[.val (.ref ar), .val (.int (0 : Int32)), .val (.int (3 : Int32)), .val (.ref b232), .val (.int (0 : Int32)), .val (.ref b237)] []))
    refine Run.pre (fun _ k => XS.aload X239.here hx rfl (hb hby d7_54) rfl rfl k) ?_
    show Run p e below s _ _ _ (T239.setTop (mkF m 56 #[.val (.ref ar), .val (.int (0 : Int32)), .val (.int (3 : Int32)), .val (.ref b232), .val (.int (0 : Int32)), .val (.ref b237)] [(.ref b237)]))
    exact Run.retA hS (by first | exact Nat.le_refl _ | (rw [e239]; exact (Nat.le_of_eq (congrArg Array.size e239)))) X239 hx hret rfl rfl hlk (hb hby d7_56) (by first | (rw [e239]; exact ⟨b237, k237, rfl, N239, K237, sz_b237, Or.inr ⟨fun q => q.1 q0, vb237⟩⟩) | exact ⟨b237, k237, rfl, N239, K237, sz_b237, Or.inr ⟨fun q => q.1 q0, vb237⟩⟩) (by decide) (by decide)
  · skip
    by_cases q1 : (255 : Int32) < c1
    · skip
      show Run p e below s _ _ _ (T232.setTop (mkF m 9 #[.val (.ref ar), .val (.int (0 : Int32)), .val (.int (3 : Int32)), .val (.ref b232), .unset, .unset] [(.int (3 : Int32)), (.int (0 : Int32)), (.ref b232), (.int (0 : Int32)), (.ref ar)]))
      have f240 := (AC.ext E232)
      refine Run.callS hS (by first | exact Nat.le_refl _ | (rw [e232]; exact (Nat.le_trans (Nat.zero_le _) E232.1))) X232 hx hZ (y := (⟨"java/lang/StringUTF16", "compress", "([CI[BII)I"⟩ : MethodName)) hown (hw _ (List.mem_of_getElem? (i := 41) rfl)) (hw _ (List.mem_of_getElem? (i := 42) rfl)) (hw _ (List.mem_of_getElem? (i := 39) rfl)) (hw _ (List.mem_of_getElem? (i := 43) rfl)) (by decide) (W := 0) (rmC2_3_1 l Z a0 hw ar b232 kc k232 c0 c1 c2 h232 n0 (Nat.le_trans Z0 K232.1) f240 V_b232 (Nat.ne_of_lt (Nat.lt_of_lt_of_le AC.lt (Nat.le_of_eq g232.symm))) gn_b232 q0 q1) e232 (by decide) (by decide) (by decide) (by decide) (fun _ _ => trivial) (g := (mkF m 9 #[.val (.ref ar), .val (.int (0 : Int32)), .val (.int (3 : Int32)), .val (.ref b232), .unset, .unset] [(.int (3 : Int32)), (.int (0 : Int32)), (.ref b232), (.int (0 : Int32)), (.ref ar)])) rfl (by rw [hml]; rfl) (argsL := [(.ref ar), (.int (0 : Int32)), (.ref b232), (.int (0 : Int32)), (.int (3 : Int32))]) (rest := []) (lenOf pd_3 rfl) rfl (by show 2 * 0 + _ ≤ _; exact Nat.le_of_eq rfl) (hb hby d7_9) ?_
      intro v241 T241 L241 X241 hS hZ hown hV241 hQ241
      obtain ⟨rfl, Nq241, Kc241⟩ := hQ241
      have N241 := Fr.app N0 Nq241
      have K241 : Keep h0 T241.heap [] := K232.trans Kc241 (allS (Or.inr sz_b232) all0)
      show Run p e below s _ _ _ (T241.setTop (mkF m 12 #[.val (.ref ar), .val (.int (0 : Int32)), .val (.int (3 : Int32)), .val (.ref b232), .unset, .unset] [(.int (1 : Int32))]))
      refine Run.pre (fun _ k => XS.istore X241.here hx rfl (hb hby d7_12) rfl (l' := #[.val (.ref ar), .val (.int (0 : Int32)), .val (.int (3 : Int32)), .val (.ref b232), .val (.int (1 : Int32)), .unset]) rfl k) ?_
      show Run p e below s _ _ _ (T241.setTop (mkF m 14 #[.val (.ref ar), .val (.int (0 : Int32)), .val (.int (3 : Int32)), .val (.ref b232), .val (.int (1 : Int32)), .unset] []))
      refine Run.pre (fun _ k => XS.iload X241.here hx rfl (hb hby d7_14) rfl  k) ?_
      show Run p e below s _ _ _ (T241.setTop (mkF m 16 #[.val (.ref ar), .val (.int (0 : Int32)), .val (.int (3 : Int32)), .val (.ref b232), .val (.int (1 : Int32)), .unset] [(.int (1 : Int32))]))
      refine Run.pre (fun _ k => XS.iloadN X241.here hx rfl (hb hby d7_16) rfl  k) ?_
      show Run p e below s _ _ _ (T241.setTop (mkF m 17 #[.val (.ref ar), .val (.int (0 : Int32)), .val (.int (3 : Int32)), .val (.ref b232), .val (.int (1 : Int32)), .unset] [(.int (3 : Int32)), (.int (1 : Int32))]))
      refine Run.pre (fun _ k => XS.icmpNo X241.here hx rfl (hb hby d7_17) rfl (feq ((by decide) : ¬ ((1 : Int32) = (3 : Int32)))).1 k) ?_
      show Run p e below s _ _ _ (T241.setTop (mkF m 20 #[.val (.ref ar), .val (.int (0 : Int32)), .val (.int (3 : Int32)), .val (.ref b232), .val (.int (1 : Int32)), .unset] []))
      refine Run.pre (fun _ k => XS.aloadN X241.here hx rfl (hb hby d7_20) rfl rfl k) ?_
      show Run p e below s _ _ _ (T241.setTop (mkF m 21 #[.val (.ref ar), .val (.int (0 : Int32)), .val (.int (3 : Int32)), .val (.ref b232), .val (.int (1 : Int32)), .unset] [(.ref ar)]))
      refine Run.pre (fun _ k => XS.iloadN X241.here hx rfl (hb hby d7_21) rfl  k) ?_
      show Run p e below s _ _ _ (T241.setTop (mkF m 22 #[.val (.ref ar), .val (.int (0 : Int32)), .val (.int (3 : Int32)), .val (.ref b232), .val (.int (1 : Int32)), .unset] [(.int (0 : Int32)), (.ref ar)]))
      refine Run.pre (fun _ k => XS.iloadN X241.here hx rfl (hb hby d7_22) rfl  k) ?_
      show Run p e below s _ _ _ (T241.setTop (mkF m 23 #[.val (.ref ar), .val (.int (0 : Int32)), .val (.int (3 : Int32)), .val (.ref b232), .val (.int (1 : Int32)), .unset] [(.int (3 : Int32)), (.int (0 : Int32)), (.ref ar)]))
      have f242 := ((OL.ext E232).keep Kc241 (allS gn_b232 all0))
      have f243 := (f240.keep Kc241 (ninS (Nat.ne_of_lt (Nat.lt_of_lt_of_le AC.lt (Nat.le_of_eq g232.symm))) nin0))
      refine Run.callS hS (Nat.le_refl _) X241 hx hZ (y := (⟨"java/lang/StringUTF16", "toBytes", "([CII)[B"⟩ : MethodName)) hown (hw _ (List.mem_of_getElem? (i := 44) rfl)) (hw _ (List.mem_of_getElem? (i := 45) rfl)) (hw _ (List.mem_of_getElem? (i := 39) rfl)) (hw _ (List.mem_of_getElem? (i := 46) rfl)) (by decide) (W := 0) (rmTB_3 l Z a0 hw ar kc c0 c1 c2 T241.heap n0 (Nat.le_trans Z0 K241.1) f242 SA SH SL f243) rfl (by decide) (by decide) (by decide) (by decide) (fun _ _ => trivial) (g := (mkF m 23 #[.val (.ref ar), .val (.int (0 : Int32)), .val (.int (3 : Int32)), .val (.ref b232), .val (.int (1 : Int32)), .unset] [(.int (3 : Int32)), (.int (0 : Int32)), (.ref ar)])) rfl (by rw [hml]; rfl) (argsL := [(.ref ar), (.int (0 : Int32)), (.int (3 : Int32))]) (rest := []) (lenOf pd_4 rfl) rfl (by show 2 * 0 + _ ≤ _; exact Nat.le_of_eq rfl) (hb hby d7_23) ?_
      intro v244 T244 L244 X244 hS hZ hown hV244 hQ244
      obtain ⟨b244, k244, rfl, Nq244, Kc244, sz244, vb244⟩ := hQ244
      have N244 := Fr.app N241 Nq244
      have K244 : Keep h0 T244.heap [] := K241.trans Kc244 all0
      have sz_b244 : h0.size ≤ b244 := Nat.le_trans K241.1 sz244
      have gn_b244 : n0 ≤ b244 := Nat.le_trans Z0 sz_b244
      show Run p e below s _ _ _ (T244.setTop (mkF m 26 #[.val (.ref ar), .val (.int (0 : Int32)), .val (.int (3 : Int32)), .val (.ref b232), .val (.int (1 : Int32)), .unset] [(.ref b244)]))
      refine Run.pre (fun _ k => XS.astore X244.here hx rfl (hb hby d7_26) rfl rfl (l' := #[.val (.ref ar), .val (.int (0 : Int32)), .val (.int (3 : Int32)), .val (.ref b232), .val (.int (1 : Int32)), .val (.ref b244)]) rfl k) ?_
      show Run p e below s _ _ _ (T244.setTop (mkF m 28 #[.val (.ref ar), .val (.int (0 : Int32)), .val (.int (3 : Int32)), .val (.ref b232), .val (.int (1 : Int32)), .val (.ref b244)] []))
      refine Run.pre (fun _ k => XS.aload X244.here hx rfl (hb hby d7_28) rfl rfl k) ?_
      show Run p e below s _ _ _ (T244.setTop (mkF m 30 #[.val (.ref ar), .val (.int (0 : Int32)), .val (.int (3 : Int32)), .val (.ref b232), .val (.int (1 : Int32)), .val (.ref b244)] [(.ref b244)]))
      refine Run.pre (fun _ k => XS.iload X244.here hx rfl (hb hby d7_30) rfl  k) ?_
      show Run p e below s _ _ _ (T244.setTop (mkF m 32 #[.val (.ref ar), .val (.int (0 : Int32)), .val (.int (3 : Int32)), .val (.ref b232), .val (.int (1 : Int32)), .val (.ref b244)] [(.int (1 : Int32)), (.ref b244)]))
      have f245 := (f242.keep Kc244 all0)
      refine Run.callS hS (Nat.le_refl _) X244 hx hZ (y := (⟨"java/lang/StringUTF16", "getChar", "([BI)C"⟩ : MethodName)) hown (hw _ (List.mem_of_getElem? (i := 60) rfl)) (hw _ (List.mem_of_getElem? (i := 61) rfl)) (hw _ (List.mem_of_getElem? (i := 39) rfl)) (hw _ (List.mem_of_getElem? (i := 62) rfl)) (by decide) (W := 0) (rmGC_3_1 l Z a0 hw b244 k244 (own_b0 c0) (own_b1 c0) (own_b0 c1) (own_b1 c1) (own_b0 c2) (own_b1 c2) T244.heap n0 (Nat.le_trans Z0 K244.1) f245 SA SH SL vb244) rfl (by decide) (by decide) (by decide) (by decide) (fun _ _ => trivial) (g := (mkF m 32 #[.val (.ref ar), .val (.int (0 : Int32)), .val (.int (3 : Int32)), .val (.ref b232), .val (.int (1 : Int32)), .val (.ref b244)] [(.int (1 : Int32)), (.ref b244)])) rfl (by rw [hml]; rfl) (argsL := [(.ref b244), (.int (1 : Int32))]) (rest := []) (lenOf pd_5 rfl) rfl (by show 2 * 0 + _ ≤ _; exact Nat.le_of_eq rfl) (hb hby d7_32) ?_
      intro v246 T246 L246 X246 hS hZ hown hV246 hQ246
      obtain ⟨rfl, Nq246, he246⟩ := hQ246
      have N246 := Fr.app N244 Nq246
      have e246 : T246.heap = T244.heap := he246
      show Run p e below s _ _ _ (T246.setTop (mkF m 35 #[.val (.ref ar), .val (.int (0 : Int32)), .val (.int (3 : Int32)), .val (.ref b232), .val (.int (1 : Int32)), .val (.ref b244)] [(.int (own_gcv (own_b0 c1) (own_b1 c1)))]))
      refine Run.pre (fun _ k => XS.sipush X246.here hx rfl (hb hby d7_35) k) ?_
      show Run p e below s _ _ _ (T246.setTop (mkF m 38 #[.val (.ref ar), .val (.int (0 : Int32)), .val (.int (3 : Int32)), .val (.ref b232), .val (.int (1 : Int32)), .val (.ref b244)] [(.int (255 : Int32)), (.int (own_gcv (own_b0 c1) (own_b1 c1)))]))
      refine Run.pre (fun _ k => XS.icmpYes X246.here hx rfl (pc0 := 38) (pc' := 54) rfl (hb hby d7_38) rfl (tlt ((by rw [own_gc c1 w1]; exact q1) : (255 : Int32) < (own_gcv (own_b0 c1) (own_b1 c1)))).2.2.1 (by decide) (by decide) k) ?_
      show Run p e below s _ _ _ (T246.setTop (mkF m 54 #[.val (.ref ar), .val (.int (0 : Int32)), .val (.int (3 : Int32)), .val (.ref b232), .val (.int (1 : Int32)), .val (.ref b244)] []))
      refine Run.pre (fun _ k => XS.aload X246.here hx rfl (hb hby d7_54) rfl rfl k) ?_
      show Run p e below s _ _ _ (T246.setTop (mkF m 56 #[.val (.ref ar), .val (.int (0 : Int32)), .val (.int (3 : Int32)), .val (.ref b232), .val (.int (1 : Int32)), .val (.ref b244)] [(.ref b244)]))
      exact Run.retA hS (by first | exact Nat.le_refl _ | (rw [e246]; exact (Nat.le_of_eq (congrArg Array.size e246)))) X246 hx hret rfl rfl hlk (hb hby d7_56) (by first | (rw [e246]; exact ⟨b244, k244, rfl, N246, K244, sz_b244, Or.inr ⟨fun q => q.2.1 q1, vb244⟩⟩) | exact ⟨b244, k244, rfl, N246, K244, sz_b244, Or.inr ⟨fun q => q.2.1 q1, vb244⟩⟩) (by decide) (by decide)
    · skip
      by_cases q2 : (255 : Int32) < c2
      · skip
        show Run p e below s _ _ _ (T232.setTop (mkF m 9 #[.val (.ref ar), .val (.int (0 : Int32)), .val (.int (3 : Int32)), .val (.ref b232), .unset, .unset] [(.int (3 : Int32)), (.int (0 : Int32)), (.ref b232), (.int (0 : Int32)), (.ref ar)]))
        have f247 := (AC.ext E232)
        refine Run.callS hS (by first | exact Nat.le_refl _ | (rw [e232]; exact (Nat.le_trans (Nat.zero_le _) E232.1))) X232 hx hZ (y := (⟨"java/lang/StringUTF16", "compress", "([CI[BII)I"⟩ : MethodName)) hown (hw _ (List.mem_of_getElem? (i := 41) rfl)) (hw _ (List.mem_of_getElem? (i := 42) rfl)) (hw _ (List.mem_of_getElem? (i := 39) rfl)) (hw _ (List.mem_of_getElem? (i := 43) rfl)) (by decide) (W := 0) (rmC2_3_2 l Z a0 hw ar b232 kc k232 c0 c1 c2 h232 n0 (Nat.le_trans Z0 K232.1) f247 V_b232 (Nat.ne_of_lt (Nat.lt_of_lt_of_le AC.lt (Nat.le_of_eq g232.symm))) gn_b232 q0 q1 q2) e232 (by decide) (by decide) (by decide) (by decide) (fun _ _ => trivial) (g := (mkF m 9 #[.val (.ref ar), .val (.int (0 : Int32)), .val (.int (3 : Int32)), .val (.ref b232), .unset, .unset] [(.int (3 : Int32)), (.int (0 : Int32)), (.ref b232), (.int (0 : Int32)), (.ref ar)])) rfl (by rw [hml]; rfl) (argsL := [(.ref ar), (.int (0 : Int32)), (.ref b232), (.int (0 : Int32)), (.int (3 : Int32))]) (rest := []) (lenOf pd_3 rfl) rfl (by show 2 * 0 + _ ≤ _; exact Nat.le_of_eq rfl) (hb hby d7_9) ?_
        intro v248 T248 L248 X248 hS hZ hown hV248 hQ248
        obtain ⟨rfl, Nq248, Kc248⟩ := hQ248
        have N248 := Fr.app N0 Nq248
        have K248 : Keep h0 T248.heap [] := K232.trans Kc248 (allS (Or.inr sz_b232) all0)
        show Run p e below s _ _ _ (T248.setTop (mkF m 12 #[.val (.ref ar), .val (.int (0 : Int32)), .val (.int (3 : Int32)), .val (.ref b232), .unset, .unset] [(.int (2 : Int32))]))
        refine Run.pre (fun _ k => XS.istore X248.here hx rfl (hb hby d7_12) rfl (l' := #[.val (.ref ar), .val (.int (0 : Int32)), .val (.int (3 : Int32)), .val (.ref b232), .val (.int (2 : Int32)), .unset]) rfl k) ?_
        show Run p e below s _ _ _ (T248.setTop (mkF m 14 #[.val (.ref ar), .val (.int (0 : Int32)), .val (.int (3 : Int32)), .val (.ref b232), .val (.int (2 : Int32)), .unset] []))
        refine Run.pre (fun _ k => XS.iload X248.here hx rfl (hb hby d7_14) rfl  k) ?_
        show Run p e below s _ _ _ (T248.setTop (mkF m 16 #[.val (.ref ar), .val (.int (0 : Int32)), .val (.int (3 : Int32)), .val (.ref b232), .val (.int (2 : Int32)), .unset] [(.int (2 : Int32))]))
        refine Run.pre (fun _ k => XS.iloadN X248.here hx rfl (hb hby d7_16) rfl  k) ?_
        show Run p e below s _ _ _ (T248.setTop (mkF m 17 #[.val (.ref ar), .val (.int (0 : Int32)), .val (.int (3 : Int32)), .val (.ref b232), .val (.int (2 : Int32)), .unset] [(.int (3 : Int32)), (.int (2 : Int32))]))
        refine Run.pre (fun _ k => XS.icmpNo X248.here hx rfl (hb hby d7_17) rfl (feq ((by decide) : ¬ ((2 : Int32) = (3 : Int32)))).1 k) ?_
        show Run p e below s _ _ _ (T248.setTop (mkF m 20 #[.val (.ref ar), .val (.int (0 : Int32)), .val (.int (3 : Int32)), .val (.ref b232), .val (.int (2 : Int32)), .unset] []))
        refine Run.pre (fun _ k => XS.aloadN X248.here hx rfl (hb hby d7_20) rfl rfl k) ?_
        show Run p e below s _ _ _ (T248.setTop (mkF m 21 #[.val (.ref ar), .val (.int (0 : Int32)), .val (.int (3 : Int32)), .val (.ref b232), .val (.int (2 : Int32)), .unset] [(.ref ar)]))
        refine Run.pre (fun _ k => XS.iloadN X248.here hx rfl (hb hby d7_21) rfl  k) ?_
        show Run p e below s _ _ _ (T248.setTop (mkF m 22 #[.val (.ref ar), .val (.int (0 : Int32)), .val (.int (3 : Int32)), .val (.ref b232), .val (.int (2 : Int32)), .unset] [(.int (0 : Int32)), (.ref ar)]))
        refine Run.pre (fun _ k => XS.iloadN X248.here hx rfl (hb hby d7_22) rfl  k) ?_
        show Run p e below s _ _ _ (T248.setTop (mkF m 23 #[.val (.ref ar), .val (.int (0 : Int32)), .val (.int (3 : Int32)), .val (.ref b232), .val (.int (2 : Int32)), .unset] [(.int (3 : Int32)), (.int (0 : Int32)), (.ref ar)]))
        have f249 := ((OL.ext E232).keep Kc248 (allS gn_b232 all0))
        have f250 := (f247.keep Kc248 (ninS (Nat.ne_of_lt (Nat.lt_of_lt_of_le AC.lt (Nat.le_of_eq g232.symm))) nin0))
        refine Run.callS hS (Nat.le_refl _) X248 hx hZ (y := (⟨"java/lang/StringUTF16", "toBytes", "([CII)[B"⟩ : MethodName)) hown (hw _ (List.mem_of_getElem? (i := 44) rfl)) (hw _ (List.mem_of_getElem? (i := 45) rfl)) (hw _ (List.mem_of_getElem? (i := 39) rfl)) (hw _ (List.mem_of_getElem? (i := 46) rfl)) (by decide) (W := 0) (rmTB_3 l Z a0 hw ar kc c0 c1 c2 T248.heap n0 (Nat.le_trans Z0 K248.1) f249 SA SH SL f250) rfl (by decide) (by decide) (by decide) (by decide) (fun _ _ => trivial) (g := (mkF m 23 #[.val (.ref ar), .val (.int (0 : Int32)), .val (.int (3 : Int32)), .val (.ref b232), .val (.int (2 : Int32)), .unset] [(.int (3 : Int32)), (.int (0 : Int32)), (.ref ar)])) rfl (by rw [hml]; rfl) (argsL := [(.ref ar), (.int (0 : Int32)), (.int (3 : Int32))]) (rest := []) (lenOf pd_4 rfl) rfl (by show 2 * 0 + _ ≤ _; exact Nat.le_of_eq rfl) (hb hby d7_23) ?_
        intro v251 T251 L251 X251 hS hZ hown hV251 hQ251
        obtain ⟨b251, k251, rfl, Nq251, Kc251, sz251, vb251⟩ := hQ251
        have N251 := Fr.app N248 Nq251
        have K251 : Keep h0 T251.heap [] := K248.trans Kc251 all0
        have sz_b251 : h0.size ≤ b251 := Nat.le_trans K248.1 sz251
        have gn_b251 : n0 ≤ b251 := Nat.le_trans Z0 sz_b251
        show Run p e below s _ _ _ (T251.setTop (mkF m 26 #[.val (.ref ar), .val (.int (0 : Int32)), .val (.int (3 : Int32)), .val (.ref b232), .val (.int (2 : Int32)), .unset] [(.ref b251)]))
        refine Run.pre (fun _ k => XS.astore X251.here hx rfl (hb hby d7_26) rfl rfl (l' := #[.val (.ref ar), .val (.int (0 : Int32)), .val (.int (3 : Int32)), .val (.ref b232), .val (.int (2 : Int32)), .val (.ref b251)]) rfl k) ?_
        show Run p e below s _ _ _ (T251.setTop (mkF m 28 #[.val (.ref ar), .val (.int (0 : Int32)), .val (.int (3 : Int32)), .val (.ref b232), .val (.int (2 : Int32)), .val (.ref b251)] []))
        refine Run.pre (fun _ k => XS.aload X251.here hx rfl (hb hby d7_28) rfl rfl k) ?_
        show Run p e below s _ _ _ (T251.setTop (mkF m 30 #[.val (.ref ar), .val (.int (0 : Int32)), .val (.int (3 : Int32)), .val (.ref b232), .val (.int (2 : Int32)), .val (.ref b251)] [(.ref b251)]))
        refine Run.pre (fun _ k => XS.iload X251.here hx rfl (hb hby d7_30) rfl  k) ?_
        show Run p e below s _ _ _ (T251.setTop (mkF m 32 #[.val (.ref ar), .val (.int (0 : Int32)), .val (.int (3 : Int32)), .val (.ref b232), .val (.int (2 : Int32)), .val (.ref b251)] [(.int (2 : Int32)), (.ref b251)]))
        have f252 := (f249.keep Kc251 all0)
        refine Run.callS hS (Nat.le_refl _) X251 hx hZ (y := (⟨"java/lang/StringUTF16", "getChar", "([BI)C"⟩ : MethodName)) hown (hw _ (List.mem_of_getElem? (i := 60) rfl)) (hw _ (List.mem_of_getElem? (i := 61) rfl)) (hw _ (List.mem_of_getElem? (i := 39) rfl)) (hw _ (List.mem_of_getElem? (i := 62) rfl)) (by decide) (W := 0) (rmGC_3_2 l Z a0 hw b251 k251 (own_b0 c0) (own_b1 c0) (own_b0 c1) (own_b1 c1) (own_b0 c2) (own_b1 c2) T251.heap n0 (Nat.le_trans Z0 K251.1) f252 SA SH SL vb251) rfl (by decide) (by decide) (by decide) (by decide) (fun _ _ => trivial) (g := (mkF m 32 #[.val (.ref ar), .val (.int (0 : Int32)), .val (.int (3 : Int32)), .val (.ref b232), .val (.int (2 : Int32)), .val (.ref b251)] [(.int (2 : Int32)), (.ref b251)])) rfl (by rw [hml]; rfl) (argsL := [(.ref b251), (.int (2 : Int32))]) (rest := []) (lenOf pd_5 rfl) rfl (by show 2 * 0 + _ ≤ _; exact Nat.le_of_eq rfl) (hb hby d7_32) ?_
        intro v253 T253 L253 X253 hS hZ hown hV253 hQ253
        obtain ⟨rfl, Nq253, he253⟩ := hQ253
        have N253 := Fr.app N251 Nq253
        have e253 : T253.heap = T251.heap := he253
        show Run p e below s _ _ _ (T253.setTop (mkF m 35 #[.val (.ref ar), .val (.int (0 : Int32)), .val (.int (3 : Int32)), .val (.ref b232), .val (.int (2 : Int32)), .val (.ref b251)] [(.int (own_gcv (own_b0 c2) (own_b1 c2)))]))
        refine Run.pre (fun _ k => XS.sipush X253.here hx rfl (hb hby d7_35) k) ?_
        show Run p e below s _ _ _ (T253.setTop (mkF m 38 #[.val (.ref ar), .val (.int (0 : Int32)), .val (.int (3 : Int32)), .val (.ref b232), .val (.int (2 : Int32)), .val (.ref b251)] [(.int (255 : Int32)), (.int (own_gcv (own_b0 c2) (own_b1 c2)))]))
        refine Run.pre (fun _ k => XS.icmpYes X253.here hx rfl (pc0 := 38) (pc' := 54) rfl (hb hby d7_38) rfl (tlt ((by rw [own_gc c2 w2]; exact q2) : (255 : Int32) < (own_gcv (own_b0 c2) (own_b1 c2)))).2.2.1 (by decide) (by decide) k) ?_
        show Run p e below s _ _ _ (T253.setTop (mkF m 54 #[.val (.ref ar), .val (.int (0 : Int32)), .val (.int (3 : Int32)), .val (.ref b232), .val (.int (2 : Int32)), .val (.ref b251)] []))
        refine Run.pre (fun _ k => XS.aload X253.here hx rfl (hb hby d7_54) rfl rfl k) ?_
        show Run p e below s _ _ _ (T253.setTop (mkF m 56 #[.val (.ref ar), .val (.int (0 : Int32)), .val (.int (3 : Int32)), .val (.ref b232), .val (.int (2 : Int32)), .val (.ref b251)] [(.ref b251)]))
        exact Run.retA hS (by first | exact Nat.le_refl _ | (rw [e253]; exact (Nat.le_of_eq (congrArg Array.size e253)))) X253 hx hret rfl rfl hlk (hb hby d7_56) (by first | (rw [e253]; exact ⟨b251, k251, rfl, N253, K251, sz_b251, Or.inr ⟨fun q => q.2.2 q2, vb251⟩⟩) | exact ⟨b251, k251, rfl, N253, K251, sz_b251, Or.inr ⟨fun q => q.2.2 q2, vb251⟩⟩) (by decide) (by decide)
      · skip
        show Run p e below s _ _ _ (T232.setTop (mkF m 9 #[.val (.ref ar), .val (.int (0 : Int32)), .val (.int (3 : Int32)), .val (.ref b232), .unset, .unset] [(.int (3 : Int32)), (.int (0 : Int32)), (.ref b232), (.int (0 : Int32)), (.ref ar)]))
        have f254 := (AC.ext E232)
        refine Run.callS hS (by first | exact Nat.le_refl _ | (rw [e232]; exact (Nat.le_trans (Nat.zero_le _) E232.1))) X232 hx hZ (y := (⟨"java/lang/StringUTF16", "compress", "([CI[BII)I"⟩ : MethodName)) hown (hw _ (List.mem_of_getElem? (i := 41) rfl)) (hw _ (List.mem_of_getElem? (i := 42) rfl)) (hw _ (List.mem_of_getElem? (i := 39) rfl)) (hw _ (List.mem_of_getElem? (i := 43) rfl)) (by decide) (W := 0) (rmC2_3_3 l Z a0 hw ar b232 kc k232 c0 c1 c2 h232 n0 (Nat.le_trans Z0 K232.1) f254 V_b232 (Nat.ne_of_lt (Nat.lt_of_lt_of_le AC.lt (Nat.le_of_eq g232.symm))) gn_b232 q0 q1 q2) e232 (by decide) (by decide) (by decide) (by decide) (fun _ _ => trivial) (g := (mkF m 9 #[.val (.ref ar), .val (.int (0 : Int32)), .val (.int (3 : Int32)), .val (.ref b232), .unset, .unset] [(.int (3 : Int32)), (.int (0 : Int32)), (.ref b232), (.int (0 : Int32)), (.ref ar)])) rfl (by rw [hml]; rfl) (argsL := [(.ref ar), (.int (0 : Int32)), (.ref b232), (.int (0 : Int32)), (.int (3 : Int32))]) (rest := []) (lenOf pd_3 rfl) rfl (by show 2 * 0 + _ ≤ _; exact Nat.le_of_eq rfl) (hb hby d7_9) ?_
        intro v255 T255 L255 X255 hS hZ hown hV255 hQ255
        obtain ⟨rfl, Nq255, Kc255, vb255⟩ := hQ255
        have N255 := Fr.app N0 Nq255
        have K255 : Keep h0 T255.heap [] := K232.trans Kc255 (allS (Or.inr sz_b232) all0)
        show Run p e below s _ _ _ (T255.setTop (mkF m 12 #[.val (.ref ar), .val (.int (0 : Int32)), .val (.int (3 : Int32)), .val (.ref b232), .unset, .unset] [(.int (3 : Int32))]))
        refine Run.pre (fun _ k => XS.istore X255.here hx rfl (hb hby d7_12) rfl (l' := #[.val (.ref ar), .val (.int (0 : Int32)), .val (.int (3 : Int32)), .val (.ref b232), .val (.int (3 : Int32)), .unset]) rfl k) ?_
        show Run p e below s _ _ _ (T255.setTop (mkF m 14 #[.val (.ref ar), .val (.int (0 : Int32)), .val (.int (3 : Int32)), .val (.ref b232), .val (.int (3 : Int32)), .unset] []))
        refine Run.pre (fun _ k => XS.iload X255.here hx rfl (hb hby d7_14) rfl  k) ?_
        show Run p e below s _ _ _ (T255.setTop (mkF m 16 #[.val (.ref ar), .val (.int (0 : Int32)), .val (.int (3 : Int32)), .val (.ref b232), .val (.int (3 : Int32)), .unset] [(.int (3 : Int32))]))
        refine Run.pre (fun _ k => XS.iloadN X255.here hx rfl (hb hby d7_16) rfl  k) ?_
        show Run p e below s _ _ _ (T255.setTop (mkF m 17 #[.val (.ref ar), .val (.int (0 : Int32)), .val (.int (3 : Int32)), .val (.ref b232), .val (.int (3 : Int32)), .unset] [(.int (3 : Int32)), (.int (3 : Int32))]))
        refine Run.pre (fun _ k => XS.icmpYes X255.here hx rfl (pc0 := 17) (pc' := 57) rfl (hb hby d7_17) rfl (teq ((by decide) : (3 : Int32) = (3 : Int32))).1 (by decide) (by decide) k) ?_
        show Run p e below s _ _ _ (T255.setTop (mkF m 57 #[.val (.ref ar), .val (.int (0 : Int32)), .val (.int (3 : Int32)), .val (.ref b232), .val (.int (3 : Int32)), .unset] []))
        refine Run.pre (fun _ k => XS.aloadN X255.here hx rfl (hb hby d7_57) rfl rfl k) ?_
        show Run p e below s _ _ _ (T255.setTop (mkF m 58 #[.val (.ref ar), .val (.int (0 : Int32)), .val (.int (3 : Int32)), .val (.ref b232), .val (.int (3 : Int32)), .unset] [(.ref b232)]))
        exact Run.retA hS (Nat.le_refl _) X255 hx hret rfl rfl hlk (hb hby d7_58) ⟨b232, k232, rfl, N255, K255, sz_b232, Or.inl ⟨⟨q0, q1, q2⟩, vb255⟩⟩ (by decide) (by decide)
set_option maxRecDepth 65536 in
set_option maxHeartbeats 40000000 in
theorem rmCo_3L (l : Launch) (Z : State) (a0 : Array Value) (hw : ∀ d ∈ tables_1, d.before a0 Z = true) (b : Addr) (kb : ClassId) (c0 : Int32) (c1 : Int32) (c2 : Int32) (h0 : Heap) (n0 : Nat) (Z0 : n0 ≤ h0.size) (AB : Arv Z h0 b kb .byte 3 [(.int (nar .byte (c0.toInt8.toInt32))), (.int (nar .byte (c1.toInt8.toInt32))), (.int (nar .byte (c2.toInt8.toInt32)))] (.int 0)) :
    Con l (⟨"java/lang/StringUTF16", "coderFromArrayLen", "([BI)B"⟩ : MethodName) jdk_52_method_15_code 2 (some .byte) ({ frames := 0, cells := 0, slots := 0, locals := 0 } : Room) Z #[(.ref b), (.int (3 : Int32))] h0 (fun _ => True) (fun v h L vm => v = some (.int 0) ∧ Fr n0 L ∧ h = h0) := by
  refine Con.mk (plainFor_of_name pn_14) (fun m => show entryFrame m #[(.ref b), (.int (3 : Int32))] 2 = mkF m 0 #[.val (.ref b), .val (.int (3 : Int32))] [] by first | (simp [entryFrame, mkF, argsToLocals, Value.category]; done) | rfl) ?_
  intro p e s m below meth c s₁ vm0 hx hby hml hown hnm hret hlk hZ X0 e0 hS hs0 hP0
  have N0 := Fr.nil n0
  show Run p e below s _ _ _ (s₁.setTop (mkF m 0 #[.val (.ref b), .val (.int (3 : Int32))] []))
  refine Run.pre (fun _ k => XS.iloadN X0.here hx rfl (hb hby d14_0) rfl  k) ?_
  show Run p e below s _ _ _ (s₁.setTop (mkF m 1 #[.val (.ref b), .val (.int (3 : Int32))] [(.int (3 : Int32))]))
  refine Run.pre (fun _ k => XS.aloadN X0.here hx rfl (hb hby d14_1) rfl rfl k) ?_
  show Run p e below s _ _ _ (s₁.setTop (mkF m 2 #[.val (.ref b), .val (.int (3 : Int32))] [(.ref b), (.int (3 : Int32))]))
  obtain ⟨c256, Ar256, -, S256, N256, -, -⟩ := id AB
  refine Run.pre (X0.arraylength hx (by rw [e0]; exact Ar256.1) (State.isArrayOf_alike hZ.alike Ar256.2.1) (g := (mkF m 2 #[.val (.ref b), .val (.int (3 : Int32))] [(.ref b), (.int (3 : Int32))])) rfl rfl (hb hby d14_2)) ?_
  rw [len_of S256 N256]
  show Run p e below s _ _ _ (s₁.setTop (mkF m 3 #[.val (.ref b), .val (.int (3 : Int32))] [(.int (3 : Int32)), (.int (3 : Int32))]))
  refine Run.pre (fun _ k => XS.isub X0.here hx rfl (hb hby d14_3) rfl k) ?_
  show Run p e below s _ _ _ (s₁.setTop (mkF m 4 #[.val (.ref b), .val (.int (3 : Int32))] [(.int (0 : Int32))]))
  refine Run.pre (fun _ k => XS.bipush X0.here hx rfl (hb hby d14_4) k) ?_
  show Run p e below s _ _ _ (s₁.setTop (mkF m 6 #[.val (.ref b), .val (.int (3 : Int32))] [(.int (31 : Int32)), (.int (0 : Int32))]))
  refine Run.pre (fun _ k => XS.iushr X0.here hx rfl (hb hby d14_6) rfl k) ?_
  show Run p e below s _ _ _ (s₁.setTop (mkF m 7 #[.val (.ref b), .val (.int (3 : Int32))] [(.int (0 : Int32))]))
  refine Run.pre (fun _ k => XS.i2b X0.here hx rfl (hb hby d14_7) rfl k) ?_
  show Run p e below s _ _ _ (s₁.setTop (mkF m 8 #[.val (.ref b), .val (.int (3 : Int32))] [(.int ((0 : Int32).toInt8.toInt32))]))
  exact Run.retN hS (by first | exact Nat.le_refl _ | (rw [e0]; exact (Nat.zero_le _))) X0 hx hret (t := .byte) (by simp) hlk (hb hby d14_8) (by first | (rw [e0]; exact ⟨by decide, N0, rfl⟩) | exact ⟨by decide, N0, rfl⟩) (by decide) (by decide)
set_option maxRecDepth 65536 in
set_option maxHeartbeats 40000000 in
theorem rmCo_3U (l : Launch) (Z : State) (a0 : Array Value) (hw : ∀ d ∈ tables_1, d.before a0 Z = true) (b : Addr) (kb : ClassId) (c0 : Int32) (c1 : Int32) (c2 : Int32) (h0 : Heap) (n0 : Nat) (Z0 : n0 ≤ h0.size) (AB : Arv Z h0 b kb .byte 6 [(.int (own_b0 c0)), (.int (own_b1 c0)), (.int (own_b0 c1)), (.int (own_b1 c1)), (.int (own_b0 c2)), (.int (own_b1 c2))] (.int 0)) :
    Con l (⟨"java/lang/StringUTF16", "coderFromArrayLen", "([BI)B"⟩ : MethodName) jdk_52_method_15_code 2 (some .byte) ({ frames := 0, cells := 0, slots := 0, locals := 0 } : Room) Z #[(.ref b), (.int (3 : Int32))] h0 (fun _ => True) (fun v h L vm => v = some (.int 1) ∧ Fr n0 L ∧ h = h0) := by
  refine Con.mk (plainFor_of_name pn_14) (fun m => show entryFrame m #[(.ref b), (.int (3 : Int32))] 2 = mkF m 0 #[.val (.ref b), .val (.int (3 : Int32))] [] by first | (simp [entryFrame, mkF, argsToLocals, Value.category]; done) | rfl) ?_
  intro p e s m below meth c s₁ vm0 hx hby hml hown hnm hret hlk hZ X0 e0 hS hs0 hP0
  have N0 := Fr.nil n0
  show Run p e below s _ _ _ (s₁.setTop (mkF m 0 #[.val (.ref b), .val (.int (3 : Int32))] []))
  refine Run.pre (fun _ k => XS.iloadN X0.here hx rfl (hb hby d14_0) rfl  k) ?_
  show Run p e below s _ _ _ (s₁.setTop (mkF m 1 #[.val (.ref b), .val (.int (3 : Int32))] [(.int (3 : Int32))]))
  refine Run.pre (fun _ k => XS.aloadN X0.here hx rfl (hb hby d14_1) rfl rfl k) ?_
  show Run p e below s _ _ _ (s₁.setTop (mkF m 2 #[.val (.ref b), .val (.int (3 : Int32))] [(.ref b), (.int (3 : Int32))]))
  obtain ⟨c257, Ar257, -, S257, N257, -, -⟩ := id AB
  refine Run.pre (X0.arraylength hx (by rw [e0]; exact Ar257.1) (State.isArrayOf_alike hZ.alike Ar257.2.1) (g := (mkF m 2 #[.val (.ref b), .val (.int (3 : Int32))] [(.ref b), (.int (3 : Int32))])) rfl rfl (hb hby d14_2)) ?_
  rw [len_of S257 N257]
  show Run p e below s _ _ _ (s₁.setTop (mkF m 3 #[.val (.ref b), .val (.int (3 : Int32))] [(.int (6 : Int32)), (.int (3 : Int32))]))
  refine Run.pre (fun _ k => XS.isub X0.here hx rfl (hb hby d14_3) rfl k) ?_
  show Run p e below s _ _ _ (s₁.setTop (mkF m 4 #[.val (.ref b), .val (.int (3 : Int32))] [(.int (-3 : Int32))]))
  refine Run.pre (fun _ k => XS.bipush X0.here hx rfl (hb hby d14_4) k) ?_
  show Run p e below s _ _ _ (s₁.setTop (mkF m 6 #[.val (.ref b), .val (.int (3 : Int32))] [(.int (31 : Int32)), (.int (-3 : Int32))]))
  refine Run.pre (fun _ k => XS.iushr X0.here hx rfl (hb hby d14_6) rfl k) ?_
  show Run p e below s _ _ _ (s₁.setTop (mkF m 7 #[.val (.ref b), .val (.int (3 : Int32))] [(.int (1 : Int32))]))
  refine Run.pre (fun _ k => XS.i2b X0.here hx rfl (hb hby d14_7) rfl k) ?_
  show Run p e below s _ _ _ (s₁.setTop (mkF m 8 #[.val (.ref b), .val (.int (3 : Int32))] [(.int ((1 : Int32).toInt8.toInt32))]))
  exact Run.retN hS (by first | exact Nat.le_refl _ | (rw [e0]; exact (Nat.zero_le _))) X0 hx hret (t := .byte) (by simp) hlk (hb hby d14_8) (by first | (rw [e0]; exact ⟨by decide, N0, rfl⟩) | exact ⟨by decide, N0, rfl⟩) (by decide) (by decide)
set_option maxRecDepth 65536 in
set_option maxHeartbeats 40000000 in
theorem rmI4_3 (l : Launch) (Z : State) (a0 : Array Value) (hw : ∀ d ∈ tables_1, d.before a0 Z = true) (a : Addr) (ar : Addr) (kc : ClassId) (c0 : Int32) (c1 : Int32) (c2 : Int32) (cs : Int32) (h0 : Heap) (n0 : Nat) (Z0 : n0 ≤ h0.size) (OL : Old Z n0 h0) (SC : Sta Z Z.heap "java/lang/String" "COMPACT_STRINGS" "Z" (.int cs)) (hcs : ¬ cs = 0) (SA : Sta Z Z.heap "java/lang/StringUTF16" "$assertionsDisabled" "Z" (.int 1)) (SH : Sta Z Z.heap "java/lang/StringUTF16" "HI_BYTE_SHIFT" "I" (.int 0)) (SL : Sta Z Z.heap "java/lang/StringUTF16" "LO_BYTE_SHIFT" "I" (.int 8)) (AC : Arv Z h0 ar kc .char 3 [(.int c0), (.int c1), (.int c2)] (.int 0)) (E_a : Exa Z h0 a "java/lang/String") (FV : Fld Z h0 a "java/lang/String" "value" "[B" .null) (FCo : Fld Z h0 a "java/lang/String" "coder" "B" (.int 0)) (g_a : n0 ≤ a) (nar_ : ar ≠ a) (w0 : nar .char c0 = c0) (w1 : nar .char c1 = c1) (w2 : nar .char c2 = c2) :
    Con l (⟨"java/lang/String", "<init>", "([CIILjava/lang/Void;)V"⟩ : MethodName) jdk_42_method_149_code 6 none ({ frames := 4, cells := 2, slots := 9, locals := 57 } : Room) Z #[(.ref a), (.ref ar), (.int (0 : Int32)), (.int (3 : Int32)), .null] h0 (fun _ => True) (fun v h L vm => ∃ b : Addr, ∃ k : ClassId, v = none ∧ Fr n0 L ∧ Keep h0 h [a] ∧ h0.size ≤ b ∧ Fld Z h a "java/lang/String" "value" "[B" (.ref b) ∧ (Fld Z h a "java/lang/String" "coder" "B" (.int 0) ∧ (¬ (255 : Int32) < c0 ∧ ¬ (255 : Int32) < c1 ∧ ¬ (255 : Int32) < c2) ∧ Arv Z h b k .byte 3 [(.int (nar .byte (c0.toInt8.toInt32))), (.int (nar .byte (c1.toInt8.toInt32))), (.int (nar .byte (c2.toInt8.toInt32)))] (.int 0) ∨ Fld Z h a "java/lang/String" "coder" "B" (.int 1) ∧ (¬ (¬ (255 : Int32) < c0 ∧ ¬ (255 : Int32) < c1 ∧ ¬ (255 : Int32) < c2)) ∧ Arv Z h b k .byte 6 [(.int (own_b0 c0)), (.int (own_b1 c0)), (.int (own_b0 c1)), (.int (own_b1 c1)), (.int (own_b0 c2)), (.int (own_b1 c2))] (.int 0))) := by
  refine Con.mk (plainFor_of_name pn_3) (fun m => show entryFrame m #[(.ref a), (.ref ar), (.int (0 : Int32)), (.int (3 : Int32)), .null] 6 = mkF m 0 #[.val (.ref a), .val (.ref ar), .val (.int (0 : Int32)), .val (.int (3 : Int32)), .val .null, .unset] [] by first | (simp [entryFrame, mkF, argsToLocals, Value.category]; done) | rfl) ?_
  intro p e s m below meth c s₁ vm0 hx hby hml hown hnm hret hlk hZ X0 e0 hS hs0 hP0
  have N0 := Fr.nil n0
  show Run p e below s _ _ _ (s₁.setTop (mkF m 0 #[.val (.ref a), .val (.ref ar), .val (.int (0 : Int32)), .val (.int (3 : Int32)), .val .null, .unset] []))
  refine Run.pre (fun _ k => XS.aloadN X0.here hx rfl (hb hby d3_0) rfl rfl k) ?_
  show Run p e below s _ _ _ (s₁.setTop (mkF m 1 #[.val (.ref a), .val (.ref ar), .val (.int (0 : Int32)), .val (.int (3 : Int32)), .val .null, .unset] [(.ref a)]))
  obtain ⟨T258, X258, e258, st258⟩ := initO X0 hx hZ hown (hw _ (List.mem_of_getElem? (i := 16) rfl)) (hw _ (List.mem_of_getElem? (i := 17) rfl)) (hw _ (List.mem_of_getElem? (i := 18) rfl)) e0 (g := (mkF m 1 #[.val (.ref a), .val (.ref ar), .val (.int (0 : Int32)), .val (.int (3 : Int32)), .val .null, .unset] [(.ref a)])) rfl (by rw [hml]; rfl) rfl (hb hby d3_1) (by decide) (W := 0) (by show 2 * 0 + _ ≤ _; exact Nat.le_of_eq rfl) (by decide)
  refine Run.pre st258 ?_
  show Run p e below s _ _ _ (T258.setTop (mkF m 4 #[.val (.ref a), .val (.ref ar), .val (.int (0 : Int32)), .val (.int (3 : Int32)), .val .null, .unset] []))
  refine Run.pre (fun _ k => XS.iloadN X258.here hx rfl (hb hby d3_4) rfl  k) ?_
  show Run p e below s _ _ _ (T258.setTop (mkF m 5 #[.val (.ref a), .val (.ref ar), .val (.int (0 : Int32)), .val (.int (3 : Int32)), .val .null, .unset] [(.int (3 : Int32))]))
  refine Run.pre (fun _ k => XS.ifYes X258.here hx rfl (pc0 := 5) (pc' := 27) rfl (hb hby d3_5) rfl ((if0 _ _).trans (feq ((by decide) : ¬ ((3 : Int32) = (0 : Int32)))).2) (by decide) (by decide) k) ?_
  show Run p e below s _ _ _ (T258.setTop (mkF m 27 #[.val (.ref a), .val (.ref ar), .val (.int (0 : Int32)), .val (.int (3 : Int32)), .val .null, .unset] []))
  obtain ⟨T259, X259, e259, st259⟩ := getS2 X258 hx hZ hown (host := "") (Or.inl (hw _ (List.mem_of_getElem? (i := 36) rfl))) Via.refl e258 (SC.ext OL.2) (g := (mkF m 27 #[.val (.ref a), .val (.ref ar), .val (.int (0 : Int32)), .val (.int (3 : Int32)), .val .null, .unset] [])) rfl (hb hby d3_27)
  refine Run.pre st259 ?_
  show Run p e below s _ _ _ (T259.setTop (mkF m 30 #[.val (.ref a), .val (.ref ar), .val (.int (0 : Int32)), .val (.int (3 : Int32)), .val .null, .unset] [(.int cs)]))
  refine Run.pre (fun _ k => XS.ifNo X259.here hx rfl (hb hby d3_30) rfl ((if0 _ _).trans (feq (hcs : ¬ (cs = (0 : Int32)))).1) k) ?_
  show Run p e below s _ _ _ (T259.setTop (mkF m 33 #[.val (.ref a), .val (.ref ar), .val (.int (0 : Int32)), .val (.int (3 : Int32)), .val .null, .unset] []))
  refine Run.pre (fun _ k => XS.aloadN X259.here hx rfl (hb hby d3_33) rfl rfl k) ?_
  show Run p e below s _ _ _ (T259.setTop (mkF m 34 #[.val (.ref a), .val (.ref ar), .val (.int (0 : Int32)), .val (.int (3 : Int32)), .val .null, .unset] [(.ref ar)]))
  refine Run.pre (fun _ k => XS.iloadN X259.here hx rfl (hb hby d3_34) rfl  k) ?_
  show Run p e below s _ _ _ (T259.setTop (mkF m 35 #[.val (.ref a), .val (.ref ar), .val (.int (0 : Int32)), .val (.int (3 : Int32)), .val .null, .unset] [(.int (0 : Int32)), (.ref ar)]))
  refine Run.pre (fun _ k => XS.iloadN X259.here hx rfl (hb hby d3_35) rfl  k) ?_
  show Run p e below s _ _ _ (T259.setTop (mkF m 36 #[.val (.ref a), .val (.ref ar), .val (.int (0 : Int32)), .val (.int (3 : Int32)), .val .null, .unset] [(.int (3 : Int32)), (.int (0 : Int32)), (.ref ar)]))
  refine Run.callS hS (by first | exact Nat.le_refl _ | (rw [e259]; exact (Nat.zero_le _))) X259 hx hZ (y := (⟨"java/lang/StringUTF16", "compress", "([CII)[B"⟩ : MethodName)) hown (hw _ (List.mem_of_getElem? (i := 37) rfl)) (hw _ (List.mem_of_getElem? (i := 38) rfl)) (hw _ (List.mem_of_getElem? (i := 39) rfl)) (hw _ (List.mem_of_getElem? (i := 40) rfl)) (by decide) (W := 0) (rmC1_3 l Z a0 hw ar kc c0 c1 c2 h0 n0 (Nat.le_trans Z0 (Keep.refl h0 [a]).1) OL SA SH SL AC w0 w1 w2) e259 (by decide) (by decide) (by decide) (by decide) (fun _ _ => trivial) (g := (mkF m 36 #[.val (.ref a), .val (.ref ar), .val (.int (0 : Int32)), .val (.int (3 : Int32)), .val .null, .unset] [(.int (3 : Int32)), (.int (0 : Int32)), (.ref ar)])) rfl (by rw [hml]; rfl) (argsL := [(.ref ar), (.int (0 : Int32)), (.int (3 : Int32))]) (rest := []) (lenOf pd_4 rfl) rfl (by show 2 * 0 + _ ≤ _; exact Nat.le_of_eq rfl) (hb hby d3_36) ?_
  intro v260 T260 L260 X260 hS hZ hown hV260 hQ260
  obtain ⟨b260, k260, rfl, Nq260, Kc260, sz260, dj260⟩ := hQ260
  have N260 := Fr.app N0 Nq260
  have K260 : Keep h0 T260.heap [a] := (Keep.refl h0 [a]).trans Kc260 all0
  have sz_b260 : h0.size ≤ b260 := Nat.le_trans (Keep.refl h0 [a]).1 sz260
  have gn_b260 : n0 ≤ b260 := Nat.le_trans Z0 sz_b260
  show Run p e below s _ _ _ (T260.setTop (mkF m 39 #[.val (.ref a), .val (.ref ar), .val (.int (0 : Int32)), .val (.int (3 : Int32)), .val .null, .unset] [(.ref b260)]))
  rcases dj260 with ⟨hl, vv⟩ | ⟨hl, vv⟩
  · skip
    show Run p e below s _ _ _ (T260.setTop (mkF m 39 #[.val (.ref a), .val (.ref ar), .val (.int (0 : Int32)), .val (.int (3 : Int32)), .val .null, .unset] [(.ref b260)]))
    refine Run.pre (fun _ k => XS.astore X260.here hx rfl (hb hby d3_39) rfl rfl (l' := #[.val (.ref a), .val (.ref ar), .val (.int (0 : Int32)), .val (.int (3 : Int32)), .val .null, .val (.ref b260)]) rfl k) ?_
    show Run p e below s _ _ _ (T260.setTop (mkF m 41 #[.val (.ref a), .val (.ref ar), .val (.int (0 : Int32)), .val (.int (3 : Int32)), .val .null, .val (.ref b260)] []))
    refine Run.pre (fun _ k => XS.aloadN X260.here hx rfl (hb hby d3_41) rfl rfl k) ?_
    show Run p e below s _ _ _ (T260.setTop (mkF m 42 #[.val (.ref a), .val (.ref ar), .val (.int (0 : Int32)), .val (.int (3 : Int32)), .val .null, .val (.ref b260)] [(.ref a)]))
    refine Run.pre (fun _ k => XS.aload X260.here hx rfl (hb hby d3_42) rfl rfl k) ?_
    show Run p e below s _ _ _ (T260.setTop (mkF m 44 #[.val (.ref a), .val (.ref ar), .val (.int (0 : Int32)), .val (.int (3 : Int32)), .val .null, .val (.ref b260)] [(.ref b260), (.ref a)]))
    refine Run.pre (fun _ k => XS.iloadN X260.here hx rfl (hb hby d3_44) rfl  k) ?_
    show Run p e below s _ _ _ (T260.setTop (mkF m 45 #[.val (.ref a), .val (.ref ar), .val (.int (0 : Int32)), .val (.int (3 : Int32)), .val .null, .val (.ref b260)] [(.int (3 : Int32)), (.ref b260), (.ref a)]))
    refine Run.callS hS (Nat.le_refl _) X260 hx hZ (y := (⟨"java/lang/StringUTF16", "coderFromArrayLen", "([BI)B"⟩ : MethodName)) hown (hw _ (List.mem_of_getElem? (i := 63) rfl)) (hw _ (List.mem_of_getElem? (i := 64) rfl)) (hw _ (List.mem_of_getElem? (i := 39) rfl)) (hw _ (List.mem_of_getElem? (i := 65) rfl)) (by decide) (W := 1) (rmCo_3L l Z a0 hw b260 k260 c0 c1 c2 T260.heap n0 (Nat.le_trans Z0 K260.1) vv) rfl (by decide) (by decide) (by decide) (by decide) (fun _ _ => trivial) (g := (mkF m 45 #[.val (.ref a), .val (.ref ar), .val (.int (0 : Int32)), .val (.int (3 : Int32)), .val .null, .val (.ref b260)] [(.int (3 : Int32)), (.ref b260), (.ref a)])) rfl (by rw [hml]; rfl) (argsL := [(.ref b260), (.int (3 : Int32))]) (rest := [(.ref a)]) (lenOf pd_6 rfl) rfl (by show 2 * 0 + _ ≤ _; exact Nat.le_of_eq rfl) (hb hby d3_45) ?_
    intro v261 T261 L261 X261 hS hZ hown hV261 hQ261
    obtain ⟨rfl, Nq261, he261⟩ := hQ261
    have N261 := Fr.app N260 Nq261
    have e261 : T261.heap = T260.heap := he261
    show Run p e below s _ _ _ (T261.setTop (mkF m 48 #[.val (.ref a), .val (.ref ar), .val (.int (0 : Int32)), .val (.int (3 : Int32)), .val .null, .val (.ref b260)] [(.int (0 : Int32)), (.ref a)]))
    have f262 := (E_a.keep Kc260)
    have f263 := (FCo.keep Kc260 nin0)
    obtain ⟨T264, h264, X264, e264, W264, st264⟩ := putFN X261 hx hZ hown (hw _ (List.mem_of_getElem? (i := 26) rfl)) Via.refl e261 f263 f262 (Or.inr ⟨(hw _ (List.mem_of_getElem? (i := 22) rfl)), rfl, hnm⟩) (hw _ (List.mem_of_getElem? (i := 6) rfl)) (ty := .byte) (v' := (.int (nar .byte (0 : Int32)))) (by decide) rfl (fits_nar_byte _) (g := (mkF m 48 #[.val (.ref a), .val (.ref ar), .val (.int (0 : Int32)), .val (.int (3 : Int32)), .val .null, .val (.ref b260)] [(.int (0 : Int32)), (.ref a)])) rfl rfl (hb hby d3_48)
    refine Run.pre st264 ?_
    have Fw264 := f263.same W264
    have K264 : Keep h0 h264 [a] := K260.wr W264 (Or.inl (by simp))
    have N264 := Fr.snoc X264 N261 g_a
    show Run p e below s _ _ _ (T264.setTop (mkF m 51 #[.val (.ref a), .val (.ref ar), .val (.int (0 : Int32)), .val (.int (3 : Int32)), .val .null, .val (.ref b260)] []))
    refine Run.pre (fun _ k => XS.aloadN X264.here hx rfl (hb hby d3_51) rfl rfl k) ?_
    show Run p e below s _ _ _ (T264.setTop (mkF m 52 #[.val (.ref a), .val (.ref ar), .val (.int (0 : Int32)), .val (.int (3 : Int32)), .val .null, .val (.ref b260)] [(.ref a)]))
    refine Run.pre (fun _ k => XS.aload X264.here hx rfl (hb hby d3_52) rfl rfl k) ?_
    show Run p e below s _ _ _ (T264.setTop (mkF m 54 #[.val (.ref a), .val (.ref ar), .val (.int (0 : Int32)), .val (.int (3 : Int32)), .val .null, .val (.ref b260)] [(.ref b260), (.ref a)]))
    have f265 := (f262.wr W264)
    have f266 := ((FV.keep Kc260 nin0).other W264 (Or.inr (slot_ne (Or.inr (hw _ (List.mem_of_getElem? (i := 21) rfl))) (Or.inr (hw _ (List.mem_of_getElem? (i := 22) rfl))) (by decide) (t := (.array .byte)) (t' := .byte) (by decide) (by decide))))
    obtain ⟨T267, h267, X267, e267, W267, st267⟩ := putF X264 hx hZ hown (host := "") (Or.inl (hw _ (List.mem_of_getElem? (i := 25) rfl))) Via.refl e264 f266 f265 (Or.inr ⟨(hw _ (List.mem_of_getElem? (i := 21) rfl)), rfl, hnm⟩) (hw _ (List.mem_of_getElem? (i := 6) rfl)) (ty := (.array .byte)) (by decide) rfl rfl (g := (mkF m 54 #[.val (.ref a), .val (.ref ar), .val (.int (0 : Int32)), .val (.int (3 : Int32)), .val .null, .val (.ref b260)] [(.ref b260), (.ref a)])) rfl rfl (hb hby d3_54)
    refine Run.pre st267 ?_
    have Fw267 := f266.same W267
    have K267 : Keep h0 h267 [a] := K264.wr W267 (Or.inl (by simp))
    have N267 := Fr.snoc X267 N264 g_a
    show Run p e below s _ _ _ (T267.setTop (mkF m 57 #[.val (.ref a), .val (.ref ar), .val (.int (0 : Int32)), .val (.int (3 : Int32)), .val .null, .val (.ref b260)] []))
    have f268 := (Fw264.other W267 (Or.inr (slot_ne (Or.inr (hw _ (List.mem_of_getElem? (i := 22) rfl))) (Or.inr (hw _ (List.mem_of_getElem? (i := 21) rfl))) (by decide) (t := .byte) (t' := (.array .byte)) (by decide) (by decide))))
    have f269 := ((vv.other W264 (Ne.symm (Nat.ne_of_lt (Nat.lt_of_lt_of_le E_a.lt sz260)))).other W267 (Ne.symm (Nat.ne_of_lt (Nat.lt_of_lt_of_le E_a.lt sz260))))
    exact Run.retV hS (by first | exact Nat.le_refl _ | (rw [e267]; exact (Nat.le_trans (Nat.le_trans (Nat.le_of_eq (congrArg Array.size e261)) (Keep.of_wr W264).1) (Keep.of_wr W267).1))) X267 hx hret hlk (hb hby d3_57) (by first | (rw [e267]; exact ⟨b260, k260, rfl, N267, K267, sz_b260, Fw267, Or.inl ⟨f268, hl, f269⟩⟩) | exact ⟨b260, k260, rfl, N267, K267, sz_b260, Fw267, Or.inl ⟨f268, hl, f269⟩⟩) (by decide) (by decide)
  · skip
    show Run p e below s _ _ _ (T260.setTop (mkF m 39 #[.val (.ref a), .val (.ref ar), .val (.int (0 : Int32)), .val (.int (3 : Int32)), .val .null, .unset] [(.ref b260)]))
    refine Run.pre (fun _ k => XS.astore X260.here hx rfl (hb hby d3_39) rfl rfl (l' := #[.val (.ref a), .val (.ref ar), .val (.int (0 : Int32)), .val (.int (3 : Int32)), .val .null, .val (.ref b260)]) rfl k) ?_
    show Run p e below s _ _ _ (T260.setTop (mkF m 41 #[.val (.ref a), .val (.ref ar), .val (.int (0 : Int32)), .val (.int (3 : Int32)), .val .null, .val (.ref b260)] []))
    refine Run.pre (fun _ k => XS.aloadN X260.here hx rfl (hb hby d3_41) rfl rfl k) ?_
    show Run p e below s _ _ _ (T260.setTop (mkF m 42 #[.val (.ref a), .val (.ref ar), .val (.int (0 : Int32)), .val (.int (3 : Int32)), .val .null, .val (.ref b260)] [(.ref a)]))
    refine Run.pre (fun _ k => XS.aload X260.here hx rfl (hb hby d3_42) rfl rfl k) ?_
    show Run p e below s _ _ _ (T260.setTop (mkF m 44 #[.val (.ref a), .val (.ref ar), .val (.int (0 : Int32)), .val (.int (3 : Int32)), .val .null, .val (.ref b260)] [(.ref b260), (.ref a)]))
    refine Run.pre (fun _ k => XS.iloadN X260.here hx rfl (hb hby d3_44) rfl  k) ?_
    show Run p e below s _ _ _ (T260.setTop (mkF m 45 #[.val (.ref a), .val (.ref ar), .val (.int (0 : Int32)), .val (.int (3 : Int32)), .val .null, .val (.ref b260)] [(.int (3 : Int32)), (.ref b260), (.ref a)]))
    refine Run.callS hS (Nat.le_refl _) X260 hx hZ (y := (⟨"java/lang/StringUTF16", "coderFromArrayLen", "([BI)B"⟩ : MethodName)) hown (hw _ (List.mem_of_getElem? (i := 63) rfl)) (hw _ (List.mem_of_getElem? (i := 64) rfl)) (hw _ (List.mem_of_getElem? (i := 39) rfl)) (hw _ (List.mem_of_getElem? (i := 65) rfl)) (by decide) (W := 1) (rmCo_3U l Z a0 hw b260 k260 c0 c1 c2 T260.heap n0 (Nat.le_trans Z0 K260.1) vv) rfl (by decide) (by decide) (by decide) (by decide) (fun _ _ => trivial) (g := (mkF m 45 #[.val (.ref a), .val (.ref ar), .val (.int (0 : Int32)), .val (.int (3 : Int32)), .val .null, .val (.ref b260)] [(.int (3 : Int32)), (.ref b260), (.ref a)])) rfl (by rw [hml]; rfl) (argsL := [(.ref b260), (.int (3 : Int32))]) (rest := [(.ref a)]) (lenOf pd_6 rfl) rfl (by show 2 * 0 + _ ≤ _; exact Nat.le_of_eq rfl) (hb hby d3_45) ?_
    intro v270 T270 L270 X270 hS hZ hown hV270 hQ270
    obtain ⟨rfl, Nq270, he270⟩ := hQ270
    have N270 := Fr.app N260 Nq270
    have e270 : T270.heap = T260.heap := he270
    show Run p e below s _ _ _ (T270.setTop (mkF m 48 #[.val (.ref a), .val (.ref ar), .val (.int (0 : Int32)), .val (.int (3 : Int32)), .val .null, .val (.ref b260)] [(.int (1 : Int32)), (.ref a)]))
    have f271 := (E_a.keep Kc260)
    have f272 := (FCo.keep Kc260 nin0)
    obtain ⟨T273, h273, X273, e273, W273, st273⟩ := putFN X270 hx hZ hown (hw _ (List.mem_of_getElem? (i := 26) rfl)) Via.refl e270 f272 f271 (Or.inr ⟨(hw _ (List.mem_of_getElem? (i := 22) rfl)), rfl, hnm⟩) (hw _ (List.mem_of_getElem? (i := 6) rfl)) (ty := .byte) (v' := (.int (nar .byte (1 : Int32)))) (by decide) rfl (fits_nar_byte _) (g := (mkF m 48 #[.val (.ref a), .val (.ref ar), .val (.int (0 : Int32)), .val (.int (3 : Int32)), .val .null, .val (.ref b260)] [(.int (1 : Int32)), (.ref a)])) rfl rfl (hb hby d3_48)
    refine Run.pre st273 ?_
    have Fw273 := f272.same W273
    have K273 : Keep h0 h273 [a] := K260.wr W273 (Or.inl (by simp))
    have N273 := Fr.snoc X273 N270 g_a
    show Run p e below s _ _ _ (T273.setTop (mkF m 51 #[.val (.ref a), .val (.ref ar), .val (.int (0 : Int32)), .val (.int (3 : Int32)), .val .null, .val (.ref b260)] []))
    refine Run.pre (fun _ k => XS.aloadN X273.here hx rfl (hb hby d3_51) rfl rfl k) ?_
    show Run p e below s _ _ _ (T273.setTop (mkF m 52 #[.val (.ref a), .val (.ref ar), .val (.int (0 : Int32)), .val (.int (3 : Int32)), .val .null, .val (.ref b260)] [(.ref a)]))
    refine Run.pre (fun _ k => XS.aload X273.here hx rfl (hb hby d3_52) rfl rfl k) ?_
    show Run p e below s _ _ _ (T273.setTop (mkF m 54 #[.val (.ref a), .val (.ref ar), .val (.int (0 : Int32)), .val (.int (3 : Int32)), .val .null, .val (.ref b260)] [(.ref b260), (.ref a)]))
    have f274 := (f271.wr W273)
    have f275 := ((FV.keep Kc260 nin0).other W273 (Or.inr (slot_ne (Or.inr (hw _ (List.mem_of_getElem? (i := 21) rfl))) (Or.inr (hw _ (List.mem_of_getElem? (i := 22) rfl))) (by decide) (t := (.array .byte)) (t' := .byte) (by decide) (by decide))))
    obtain ⟨T276, h276, X276, e276, W276, st276⟩ := putF X273 hx hZ hown (host := "") (Or.inl (hw _ (List.mem_of_getElem? (i := 25) rfl))) Via.refl e273 f275 f274 (Or.inr ⟨(hw _ (List.mem_of_getElem? (i := 21) rfl)), rfl, hnm⟩) (hw _ (List.mem_of_getElem? (i := 6) rfl)) (ty := (.array .byte)) (by decide) rfl rfl (g := (mkF m 54 #[.val (.ref a), .val (.ref ar), .val (.int (0 : Int32)), .val (.int (3 : Int32)), .val .null, .val (.ref b260)] [(.ref b260), (.ref a)])) rfl rfl (hb hby d3_54)
    refine Run.pre st276 ?_
    have Fw276 := f275.same W276
    have K276 : Keep h0 h276 [a] := K273.wr W276 (Or.inl (by simp))
    have N276 := Fr.snoc X276 N273 g_a
    show Run p e below s _ _ _ (T276.setTop (mkF m 57 #[.val (.ref a), .val (.ref ar), .val (.int (0 : Int32)), .val (.int (3 : Int32)), .val .null, .val (.ref b260)] []))
    have f277 := (Fw273.other W276 (Or.inr (slot_ne (Or.inr (hw _ (List.mem_of_getElem? (i := 22) rfl))) (Or.inr (hw _ (List.mem_of_getElem? (i := 21) rfl))) (by decide) (t := .byte) (t' := (.array .byte)) (by decide) (by decide))))
    have f278 := ((vv.other W273 (Ne.symm (Nat.ne_of_lt (Nat.lt_of_lt_of_le E_a.lt sz260)))).other W276 (Ne.symm (Nat.ne_of_lt (Nat.lt_of_lt_of_le E_a.lt sz260))))
    exact Run.retV hS (by first | exact Nat.le_refl _ | (rw [e276]; exact (Nat.le_trans (Nat.le_trans (Nat.le_of_eq (congrArg Array.size e270)) (Keep.of_wr W273).1) (Keep.of_wr W276).1))) X276 hx hret hlk (hb hby d3_57) (by first | (rw [e276]; exact ⟨b260, k260, rfl, N276, K276, sz_b260, Fw276, Or.inr ⟨f277, hl, f278⟩⟩) | exact ⟨b260, k260, rfl, N276, K276, sz_b260, Fw276, Or.inr ⟨f277, hl, f278⟩⟩) (by decide) (by decide)
set_option maxRecDepth 65536 in
set_option maxHeartbeats 40000000 in
theorem rmI_3 (l : Launch) (Z : State) (a0 : Array Value) (hw : ∀ d ∈ tables_1, d.before a0 Z = true) (a : Addr) (ar : Addr) (kc : ClassId) (c0 : Int32) (c1 : Int32) (c2 : Int32) (cs : Int32) (h0 : Heap) (n0 : Nat) (Z0 : n0 ≤ h0.size) (OL : Old Z n0 h0) (SC : Sta Z Z.heap "java/lang/String" "COMPACT_STRINGS" "Z" (.int cs)) (hcs : ¬ cs = 0) (SA : Sta Z Z.heap "java/lang/StringUTF16" "$assertionsDisabled" "Z" (.int 1)) (SH : Sta Z Z.heap "java/lang/StringUTF16" "HI_BYTE_SHIFT" "I" (.int 0)) (SL : Sta Z Z.heap "java/lang/StringUTF16" "LO_BYTE_SHIFT" "I" (.int 8)) (AC : Arv Z h0 ar kc .char 3 [(.int c0), (.int c1), (.int c2)] (.int 0)) (E_a : Exa Z h0 a "java/lang/String") (FV : Fld Z h0 a "java/lang/String" "value" "[B" .null) (FCo : Fld Z h0 a "java/lang/String" "coder" "B" (.int 0)) (g_a : n0 ≤ a) (nar_ : ar ≠ a) (w0 : nar .char c0 = c0) (w1 : nar .char c1 = c1) (w2 : nar .char c2 = c2) :
    Con l (⟨"java/lang/String", "<init>", "([C)V"⟩ : MethodName) jdk_42_method_3_code 2 none ({ frames := 5, cells := 2, slots := 9, locals := 74 } : Room) Z #[(.ref a), (.ref ar)] h0 (fun _ => True) (fun v h L vm => ∃ b : Addr, ∃ k : ClassId, v = none ∧ Fr n0 L ∧ Keep h0 h [a] ∧ h0.size ≤ b ∧ Fld Z h a "java/lang/String" "value" "[B" (.ref b) ∧ (Fld Z h a "java/lang/String" "coder" "B" (.int 0) ∧ (¬ (255 : Int32) < c0 ∧ ¬ (255 : Int32) < c1 ∧ ¬ (255 : Int32) < c2) ∧ Arv Z h b k .byte 3 [(.int (nar .byte (c0.toInt8.toInt32))), (.int (nar .byte (c1.toInt8.toInt32))), (.int (nar .byte (c2.toInt8.toInt32)))] (.int 0) ∨ Fld Z h a "java/lang/String" "coder" "B" (.int 1) ∧ (¬ (¬ (255 : Int32) < c0 ∧ ¬ (255 : Int32) < c1 ∧ ¬ (255 : Int32) < c2)) ∧ Arv Z h b k .byte 6 [(.int (own_b0 c0)), (.int (own_b1 c0)), (.int (own_b0 c1)), (.int (own_b1 c1)), (.int (own_b0 c2)), (.int (own_b1 c2))] (.int 0))) := by
  refine Con.mk (plainFor_of_name pn_2) (fun m => show entryFrame m #[(.ref a), (.ref ar)] 2 = mkF m 0 #[.val (.ref a), .val (.ref ar)] [] by first | (simp [entryFrame, mkF, argsToLocals, Value.category]; done) | rfl) ?_
  intro p e s m below meth c s₁ vm0 hx hby hml hown hnm hret hlk hZ X0 e0 hS hs0 hP0
  have N0 := Fr.nil n0
  show Run p e below s _ _ _ (s₁.setTop (mkF m 0 #[.val (.ref a), .val (.ref ar)] []))
  refine Run.pre (fun _ k => XS.aloadN X0.here hx rfl (hb hby d2_0) rfl rfl k) ?_
  show Run p e below s _ _ _ (s₁.setTop (mkF m 1 #[.val (.ref a), .val (.ref ar)] [(.ref a)]))
  refine Run.pre (fun _ k => XS.aloadN X0.here hx rfl (hb hby d2_1) rfl rfl k) ?_
  show Run p e below s _ _ _ (s₁.setTop (mkF m 2 #[.val (.ref a), .val (.ref ar)] [(.ref ar), (.ref a)]))
  refine Run.pre (fun _ k => XS.iconst X0.here hx rfl (hb hby d2_2) k) ?_
  show Run p e below s _ _ _ (s₁.setTop (mkF m 3 #[.val (.ref a), .val (.ref ar)] [(.int (0 : Int32)), (.ref ar), (.ref a)]))
  refine Run.pre (fun _ k => XS.aloadN X0.here hx rfl (hb hby d2_3) rfl rfl k) ?_
  show Run p e below s _ _ _ (s₁.setTop (mkF m 4 #[.val (.ref a), .val (.ref ar)] [(.ref ar), (.int (0 : Int32)), (.ref ar), (.ref a)]))
  obtain ⟨c279, Ar279, -, S279, N279, -, -⟩ := id AC
  refine Run.pre (X0.arraylength hx (by rw [e0]; exact Ar279.1) (State.isArrayOf_alike hZ.alike Ar279.2.1) (g := (mkF m 4 #[.val (.ref a), .val (.ref ar)] [(.ref ar), (.int (0 : Int32)), (.ref ar), (.ref a)])) rfl rfl (hb hby d2_4)) ?_
  rw [len_of S279 N279]
  show Run p e below s _ _ _ (s₁.setTop (mkF m 5 #[.val (.ref a), .val (.ref ar)] [(.int (3 : Int32)), (.int (0 : Int32)), (.ref ar), (.ref a)]))
  refine Run.pre (fun _ k => XS.aconstNull X0.here hx rfl (hb hby d2_5) k) ?_
  show Run p e below s _ _ _ (s₁.setTop (mkF m 6 #[.val (.ref a), .val (.ref ar)] [.null, (.int (3 : Int32)), (.int (0 : Int32)), (.ref ar), (.ref a)]))
  refine Run.callI hS (by first | exact Nat.le_refl _ | (rw [e0]; exact (Nat.zero_le _))) X0 hx hZ (y := (⟨"java/lang/String", "<init>", "([CIILjava/lang/Void;)V"⟩ : MethodName)) rfl hown (hw _ (List.mem_of_getElem? (i := 12) rfl)) (hw _ (List.mem_of_getElem? (i := 13) rfl)) (hw _ (List.mem_of_getElem? (i := 15) rfl)) (hw _ (List.mem_of_getElem? (i := 7) rfl)) (by decide) (a := a) (W := 0) (rmI4_3 l Z a0 hw a ar kc c0 c1 c2 cs h0 n0 (Nat.le_trans Z0 (Keep.refl h0 [a]).1) OL SC hcs SA SH SL AC E_a FV FCo g_a nar_ w0 w1 w2) e0 (by decide) (by decide) (by decide) (by decide) (fun _ _ => trivial) (g := (mkF m 6 #[.val (.ref a), .val (.ref ar)] [.null, (.int (3 : Int32)), (.int (0 : Int32)), (.ref ar), (.ref a)])) rfl (by rw [hml]; rfl) (argsL := [(.ref ar), (.int (0 : Int32)), (.int (3 : Int32)), .null]) (rest := []) (lenOf pd_7 rfl) rfl (by show 2 * 0 + _ ≤ _; exact Nat.le_of_eq rfl) (hb hby d2_6) ?_
  intro v280 T280 L280 X280 hS hZ hown hV280 hQ280
  obtain ⟨b280, k280, rfl, Nq280, Kc280, sz280, fv280, dq280⟩ := hQ280
  have N280 := Fr.app N0 Nq280
  have K280 : Keep h0 T280.heap [a] := (Keep.refl h0 [a]).trans Kc280 (allS (Or.inl (by simp)) all0)
  show Run p e below s _ _ _ (T280.setTop (mkF m 9 #[.val (.ref a), .val (.ref ar)] []))
  exact Run.retV hS (Nat.le_refl _) X280 hx hret hlk (hb hby d2_9) ⟨b280, k280, rfl, N280, K280, sz280, fv280, dq280⟩ (by decide) (by decide)
theorem own_strAtoms {Z : State} {a0 : Array Value} (hw : ∀ d ∈ tables_1, d.before a0 Z = true) : ∀ a ∈ Bundle.stringAtoms, a.before a0 Z = true := by
  intro d hd
  simp only [Bundle.stringAtoms, Bundle.sN, List.mem_cons, List.not_mem_nil, or_false] at hd
  rcases hd with rfl | rfl | rfl | rfl | rfl | rfl | rfl
  · exact (hw _ (List.mem_of_getElem? (i := 7) rfl))
  · exact (hw _ (List.mem_of_getElem? (i := 6) rfl))
  · exact (hw _ (List.mem_of_getElem? (i := 20) rfl))
  · exact (hw _ (List.mem_of_getElem? (i := 21) rfl))
  · exact (hw _ (List.mem_of_getElem? (i := 22) rfl))
  · exact (hw _ (List.mem_of_getElem? (i := 23) rfl))
  · exact (hw _ (List.mem_of_getElem? (i := 24) rfl))
theorem d3_8 : decode jdk_42_method_149_code 8 = .ok (.aload_n 0, 1) := by decide +kernel
theorem d3_9 : decode jdk_42_method_149_code 9 = .ok (.ldc 7, 2) := by decide +kernel
theorem d3_11 : decode jdk_42_method_149_code 11 = .ok (.getfield 9, 3) := by decide +kernel
theorem d3_14 : decode jdk_42_method_149_code 14 = .ok (.putfield 9, 3) := by decide +kernel
theorem d3_17 : decode jdk_42_method_149_code 17 = .ok (.aload_n 0, 1) := by decide +kernel
theorem d3_18 : decode jdk_42_method_149_code 18 = .ok (.ldc 7, 2) := by decide +kernel
theorem d3_20 : decode jdk_42_method_149_code 20 = .ok (.getfield 15, 3) := by decide +kernel
theorem d3_23 : decode jdk_42_method_149_code 23 = .ok (.putfield 15, 3) := by decide +kernel
theorem d3_26 : decode jdk_42_method_149_code 26 = .ok (.return_, 1) := by decide +kernel
set_option maxRecDepth 65536 in
set_option maxHeartbeats 40000000 in
theorem rmI4_0 (l : Launch) (Z : State) (a0 : Array Value) (hw : ∀ d ∈ tables_1, d.before a0 Z = true) (a : Addr) (ar : Addr) (h0 : Heap) (n0 : Nat) (Z0 : n0 ≤ h0.size) (OL : Old Z n0 h0) (E_a : Exa Z h0 a "java/lang/String") (FV : Fld Z h0 a "java/lang/String" "value" "[B" .null) (FCo : Fld Z h0 a "java/lang/String" "coder" "B" (.int 0)) (g_a : n0 ≤ a) (hH : Jvm.Lit.constHeld Z "java/lang/String" 7) (hcw : Jvm.Lit.compactW.before a0 Z = true) :
    Con l (⟨"java/lang/String", "<init>", "([CIILjava/lang/Void;)V"⟩ : MethodName) jdk_42_method_149_code 6 none ({ frames := 1, cells := 2, slots := 4, locals := 12 } : Room) Z #[(.ref a), (.ref ar), (.int (0 : Int32)), (.int (0 : Int32)), .null] h0 (fun vm => IB Z vm []) (fun v h L vm => ∃ b : Addr, ∃ k : ClassId, v = none ∧ Fr n0 L ∧ Keep h0 h [a] ∧ b ≠ a ∧ Fld Z h a "java/lang/String" "coder" "B" (.int 0) ∧ Fld Z h a "java/lang/String" "value" "[B" (.ref b) ∧ Arv Z h b k .byte 0 [] (.int 0)) := by
  refine Con.mk (plainFor_of_name pn_3) (fun m => show entryFrame m #[(.ref a), (.ref ar), (.int (0 : Int32)), (.int (0 : Int32)), .null] 6 = mkF m 0 #[.val (.ref a), .val (.ref ar), .val (.int (0 : Int32)), .val (.int (0 : Int32)), .val .null, .unset] [] by first | (simp [entryFrame, mkF, argsToLocals, Value.category]; done) | rfl) ?_
  intro p e s m below meth c s₁ vm0 hx hby hml hown hnm hret hlk hZ X0 e0 hS hs0 hP0
  have N0 := Fr.nil n0
  show Run p e below s _ _ _ (s₁.setTop (mkF m 0 #[.val (.ref a), .val (.ref ar), .val (.int (0 : Int32)), .val (.int (0 : Int32)), .val .null, .unset] []))
  refine Run.pre (fun _ k => XS.aloadN X0.here hx rfl (hb hby d3_0) rfl rfl k) ?_
  show Run p e below s _ _ _ (s₁.setTop (mkF m 1 #[.val (.ref a), .val (.ref ar), .val (.int (0 : Int32)), .val (.int (0 : Int32)), .val .null, .unset] [(.ref a)]))
  obtain ⟨T281, X281, e281, st281⟩ := initO X0 hx hZ hown (hw _ (List.mem_of_getElem? (i := 16) rfl)) (hw _ (List.mem_of_getElem? (i := 17) rfl)) (hw _ (List.mem_of_getElem? (i := 18) rfl)) e0 (g := (mkF m 1 #[.val (.ref a), .val (.ref ar), .val (.int (0 : Int32)), .val (.int (0 : Int32)), .val .null, .unset] [(.ref a)])) rfl (by rw [hml]; rfl) rfl (hb hby d3_1) (by decide) (W := 0) (by show 2 * 0 + _ ≤ _; exact Nat.le_of_eq rfl) (by decide)
  refine Run.pre st281 ?_
  show Run p e below s _ _ _ (T281.setTop (mkF m 4 #[.val (.ref a), .val (.ref ar), .val (.int (0 : Int32)), .val (.int (0 : Int32)), .val .null, .unset] []))
  refine Run.pre (fun _ k => XS.iloadN X281.here hx rfl (hb hby d3_4) rfl  k) ?_
  show Run p e below s _ _ _ (T281.setTop (mkF m 5 #[.val (.ref a), .val (.ref ar), .val (.int (0 : Int32)), .val (.int (0 : Int32)), .val .null, .unset] [(.int (0 : Int32))]))
  refine Run.pre (fun _ k => XS.ifNo X281.here hx rfl (hb hby d3_5) rfl ((if0 _ _).trans (teq ((by decide) : (0 : Int32) = (0 : Int32))).2) k) ?_
  show Run p e below s _ _ _ (T281.setTop (mkF m 8 #[.val (.ref a), .val (.ref ar), .val (.int (0 : Int32)), .val (.int (0 : Int32)), .val .null, .unset] []))
  refine Run.pre (fun _ k => XS.aloadN X281.here hx rfl (hb hby d3_8) rfl rfl k) ?_
  show Run p e below s _ _ _ (T281.setTop (mkF m 9 #[.val (.ref a), .val (.ref ar), .val (.int (0 : Int32)), .val (.int (0 : Int32)), .val .null, .unset] [(.ref a)]))
  obtain ⟨al, T9, h9, k9, bl, kl, X9, e9, E9, hS, hk9, hZ, hown, El, Cl, Vl, Bl, -, -, I9, Lt9, st9⟩ := ldcSVL (s := s) X281 hx hZ hown (hw _ (List.mem_of_getElem? (i := 19) rfl)) (own_strAtoms hw) e281 hS (Nat.zero_le _) (Fr.nil _) (fun b cl q => by rw [hs0]; exact OL.2.2 b cl q) hP0 (by simp) hH hcw (vs := []) (z := 0) ⟨by simp, rfl⟩ (by decide) rfl (g := (mkF m 9 #[.val (.ref a), .val (.ref ar), .val (.int (0 : Int32)), .val (.int (0 : Int32)), .val .null, .unset] [(.ref a)])) rfl (hb hby d3_9) (n := 0) (by decide) (by decide) (by decide) (by decide)
  refine Run.pre st9 ?_
  have K9 : Keep h0 h9 [a] := (Keep.refl h0 [a]).ext E9
  have f282 := (FV.ext E9)
  have nala : al ≠ a := Vl.ne f282 (by simp)
  have f283 := (E_a.ext E9)
  have nbla : bl ≠ a := own_neArv f283 (hw _ (List.mem_of_getElem? (i := 6) rfl)) Bl
  show Run p e below s _ _ _ (T9.setTop (mkF m 11 #[.val (.ref a), .val (.ref ar), .val (.int (0 : Int32)), .val (.int (0 : Int32)), .val .null, .unset] [(.ref al), (.ref a)]))
  obtain ⟨T284, X284, e284, st284⟩ := getF X9 hx hZ hown (host := "") (Or.inl (hw _ (List.mem_of_getElem? (i := 25) rfl))) Via.refl e9 Vl (g := (mkF m 11 #[.val (.ref a), .val (.ref ar), .val (.int (0 : Int32)), .val (.int (0 : Int32)), .val .null, .unset] [(.ref al), (.ref a)])) rfl rfl (hb hby d3_11)
  refine Run.pre st284 ?_
  show Run p e below s _ _ _ (T284.setTop (mkF m 14 #[.val (.ref a), .val (.ref ar), .val (.int (0 : Int32)), .val (.int (0 : Int32)), .val .null, .unset] [(.ref bl), (.ref a)]))
  obtain ⟨T285, h285, X285, e285, W285, st285⟩ := putF X284 hx hZ hown (host := "") (Or.inl (hw _ (List.mem_of_getElem? (i := 25) rfl))) Via.refl e284 f282 f283 (Or.inr ⟨(hw _ (List.mem_of_getElem? (i := 21) rfl)), rfl, hnm⟩) (hw _ (List.mem_of_getElem? (i := 6) rfl)) (ty := (.array .byte)) (by decide) rfl rfl (g := (mkF m 14 #[.val (.ref a), .val (.ref ar), .val (.int (0 : Int32)), .val (.int (0 : Int32)), .val .null, .unset] [(.ref bl), (.ref a)])) rfl rfl (hb hby d3_14)
  refine Run.pre st285 ?_
  have Fw285 := f282.same W285
  have K285 : Keep h0 h285 [a] := K9.wr W285 (Or.inl (by simp))
  have N285 := Fr.snoc X285 N0 g_a
  show Run p e below s _ _ _ (T285.setTop (mkF m 17 #[.val (.ref a), .val (.ref ar), .val (.int (0 : Int32)), .val (.int (0 : Int32)), .val .null, .unset] []))
  refine Run.pre (fun _ k => XS.aloadN X285.here hx rfl (hb hby d3_17) rfl rfl k) ?_
  show Run p e below s _ _ _ (T285.setTop (mkF m 18 #[.val (.ref a), .val (.ref ar), .val (.int (0 : Int32)), .val (.int (0 : Int32)), .val .null, .unset] [(.ref a)]))
  refine Run.pre (ldcAgain (s := s) (vm0 := T9.vm) X285 hx hZ hown (hw _ (List.mem_of_getElem? (i := 19) rfl)) (a := al) Lt9 (g := (mkF m 18 #[.val (.ref a), .val (.ref ar), .val (.int (0 : Int32)), .val (.int (0 : Int32)), .val .null, .unset] [(.ref a)])) rfl (hb hby d3_18)) ?_
  show Run p e below s _ _ _ (T285.setTop (mkF m 20 #[.val (.ref a), .val (.ref ar), .val (.int (0 : Int32)), .val (.int (0 : Int32)), .val .null, .unset] [(.ref al), (.ref a)]))
  have f286 := (Cl.other W285 (Or.inl nala))
  obtain ⟨T287, X287, e287, st287⟩ := getF X285 hx hZ hown (host := "") (Or.inl (hw _ (List.mem_of_getElem? (i := 26) rfl))) Via.refl e285 f286 (g := (mkF m 20 #[.val (.ref a), .val (.ref ar), .val (.int (0 : Int32)), .val (.int (0 : Int32)), .val .null, .unset] [(.ref al), (.ref a)])) rfl rfl (hb hby d3_20)
  refine Run.pre st287 ?_
  show Run p e below s _ _ _ (T287.setTop (mkF m 23 #[.val (.ref a), .val (.ref ar), .val (.int (0 : Int32)), .val (.int (0 : Int32)), .val .null, .unset] [(.int (0 : Int32)), (.ref a)]))
  have f288 := (f283.wr W285)
  have f289 := ((FCo.ext E9).other W285 (Or.inr (slot_ne (Or.inr (hw _ (List.mem_of_getElem? (i := 22) rfl))) (Or.inr (hw _ (List.mem_of_getElem? (i := 21) rfl))) (by decide) (t := .byte) (t' := (.array .byte)) (by decide) (by decide))))
  obtain ⟨T290, h290, X290, e290, W290, st290⟩ := putFN X287 hx hZ hown (hw _ (List.mem_of_getElem? (i := 26) rfl)) Via.refl e287 f289 f288 (Or.inr ⟨(hw _ (List.mem_of_getElem? (i := 22) rfl)), rfl, hnm⟩) (hw _ (List.mem_of_getElem? (i := 6) rfl)) (ty := .byte) (v' := (.int (nar .byte (0 : Int32)))) (by decide) rfl (fits_nar_byte _) (g := (mkF m 23 #[.val (.ref a), .val (.ref ar), .val (.int (0 : Int32)), .val (.int (0 : Int32)), .val .null, .unset] [(.int (0 : Int32)), (.ref a)])) rfl rfl (hb hby d3_23)
  refine Run.pre st290 ?_
  have Fw290 := f289.same W290
  have K290 : Keep h0 h290 [a] := K285.wr W290 (Or.inl (by simp))
  have N290 := Fr.snoc X290 N285 g_a
  show Run p e below s _ _ _ (T290.setTop (mkF m 26 #[.val (.ref a), .val (.ref ar), .val (.int (0 : Int32)), .val (.int (0 : Int32)), .val .null, .unset] []))
  have f291 := (Fw285.other W290 (Or.inr (slot_ne (Or.inr (hw _ (List.mem_of_getElem? (i := 21) rfl))) (Or.inr (hw _ (List.mem_of_getElem? (i := 22) rfl))) (by decide) (t := (.array .byte)) (t' := .byte) (by decide) (by decide))))
  have f292 := ((Bl.other W285 nbla).other W290 nbla)
  exact Run.retV hS (by first | exact Nat.le_refl _ | (rw [e290]; exact (Nat.le_trans (Nat.le_trans hk9 (Keep.of_wr W285).1) (Keep.of_wr W290).1))) X290 hx hret hlk (hb hby d3_26) (by first | (rw [e290]; exact ⟨bl, kl, rfl, N290, K290, nbla, Fw290, f291, f292⟩) | exact ⟨bl, kl, rfl, N290, K290, nbla, Fw290, f291, f292⟩) (by decide) (by decide)
set_option maxRecDepth 65536 in
set_option maxHeartbeats 40000000 in
theorem rmI_0 (l : Launch) (Z : State) (a0 : Array Value) (hw : ∀ d ∈ tables_1, d.before a0 Z = true) (a : Addr) (ar : Addr) (kc : ClassId) (h0 : Heap) (n0 : Nat) (Z0 : n0 ≤ h0.size) (OL : Old Z n0 h0) (E_a : Exa Z h0 a "java/lang/String") (FV : Fld Z h0 a "java/lang/String" "value" "[B" .null) (FCo : Fld Z h0 a "java/lang/String" "coder" "B" (.int 0)) (g_a : n0 ≤ a) (hH : Jvm.Lit.constHeld Z "java/lang/String" 7) (hcw : Jvm.Lit.compactW.before a0 Z = true) (AC : Arv Z h0 ar kc .char 0 [] (.int 0)) :
    Con l (⟨"java/lang/String", "<init>", "([C)V"⟩ : MethodName) jdk_42_method_3_code 2 none ({ frames := 2, cells := 2, slots := 4, locals := 29 } : Room) Z #[(.ref a), (.ref ar)] h0 (fun vm => IB Z vm []) (fun v h L vm => ∃ b : Addr, ∃ k : ClassId, v = none ∧ Fr n0 L ∧ Keep h0 h [a] ∧ b ≠ a ∧ Fld Z h a "java/lang/String" "coder" "B" (.int 0) ∧ Fld Z h a "java/lang/String" "value" "[B" (.ref b) ∧ Arv Z h b k .byte 0 [] (.int 0)) := by
  refine Con.mk (plainFor_of_name pn_2) (fun m => show entryFrame m #[(.ref a), (.ref ar)] 2 = mkF m 0 #[.val (.ref a), .val (.ref ar)] [] by first | (simp [entryFrame, mkF, argsToLocals, Value.category]; done) | rfl) ?_
  intro p e s m below meth c s₁ vm0 hx hby hml hown hnm hret hlk hZ X0 e0 hS hs0 hP0
  have N0 := Fr.nil n0
  show Run p e below s _ _ _ (s₁.setTop (mkF m 0 #[.val (.ref a), .val (.ref ar)] []))
  refine Run.pre (fun _ k => XS.aloadN X0.here hx rfl (hb hby d2_0) rfl rfl k) ?_
  show Run p e below s _ _ _ (s₁.setTop (mkF m 1 #[.val (.ref a), .val (.ref ar)] [(.ref a)]))
  refine Run.pre (fun _ k => XS.aloadN X0.here hx rfl (hb hby d2_1) rfl rfl k) ?_
  show Run p e below s _ _ _ (s₁.setTop (mkF m 2 #[.val (.ref a), .val (.ref ar)] [(.ref ar), (.ref a)]))
  refine Run.pre (fun _ k => XS.iconst X0.here hx rfl (hb hby d2_2) k) ?_
  show Run p e below s _ _ _ (s₁.setTop (mkF m 3 #[.val (.ref a), .val (.ref ar)] [(.int (0 : Int32)), (.ref ar), (.ref a)]))
  refine Run.pre (fun _ k => XS.aloadN X0.here hx rfl (hb hby d2_3) rfl rfl k) ?_
  show Run p e below s _ _ _ (s₁.setTop (mkF m 4 #[.val (.ref a), .val (.ref ar)] [(.ref ar), (.int (0 : Int32)), (.ref ar), (.ref a)]))
  obtain ⟨c293, Ar293, -, S293, N293, -, -⟩ := id AC
  refine Run.pre (X0.arraylength hx (by rw [e0]; exact Ar293.1) (State.isArrayOf_alike hZ.alike Ar293.2.1) (g := (mkF m 4 #[.val (.ref a), .val (.ref ar)] [(.ref ar), (.int (0 : Int32)), (.ref ar), (.ref a)])) rfl rfl (hb hby d2_4)) ?_
  rw [len_of S293 N293]
  show Run p e below s _ _ _ (s₁.setTop (mkF m 5 #[.val (.ref a), .val (.ref ar)] [(.int (0 : Int32)), (.int (0 : Int32)), (.ref ar), (.ref a)]))
  refine Run.pre (fun _ k => XS.aconstNull X0.here hx rfl (hb hby d2_5) k) ?_
  show Run p e below s _ _ _ (s₁.setTop (mkF m 6 #[.val (.ref a), .val (.ref ar)] [.null, (.int (0 : Int32)), (.int (0 : Int32)), (.ref ar), (.ref a)]))
  refine Run.callI hS (by first | exact Nat.le_refl _ | (rw [e0]; exact (Nat.zero_le _))) X0 hx hZ (y := (⟨"java/lang/String", "<init>", "([CIILjava/lang/Void;)V"⟩ : MethodName)) rfl hown (hw _ (List.mem_of_getElem? (i := 12) rfl)) (hw _ (List.mem_of_getElem? (i := 13) rfl)) (hw _ (List.mem_of_getElem? (i := 15) rfl)) (hw _ (List.mem_of_getElem? (i := 7) rfl)) (by decide) (a := a) (W := 0) (rmI4_0 l Z a0 hw a ar h0 n0 (Nat.le_trans Z0 (Keep.refl h0 [a]).1) OL E_a FV FCo g_a hH hcw) e0 (by decide) (by decide) (by decide) (by decide) (fun _ q => own_ibStays hP0 q) (g := (mkF m 6 #[.val (.ref a), .val (.ref ar)] [.null, (.int (0 : Int32)), (.int (0 : Int32)), (.ref ar), (.ref a)])) rfl (by rw [hml]; rfl) (argsL := [(.ref ar), (.int (0 : Int32)), (.int (0 : Int32)), .null]) (rest := []) (lenOf pd_7 rfl) rfl (by show 2 * 0 + _ ≤ _; exact Nat.le_of_eq rfl) (hb hby d2_6) ?_
  intro v294 T294 L294 X294 hS hZ hown hV294 hQ294
  obtain ⟨b294, k294, rfl, Nq294, Kc294, nb294, fc294, fv294, vb294⟩ := hQ294
  have N294 := Fr.app N0 Nq294
  have K294 : Keep h0 T294.heap [a] := (Keep.refl h0 [a]).trans Kc294 (allS (Or.inl (by simp)) all0)
  show Run p e below s _ _ _ (T294.setTop (mkF m 9 #[.val (.ref a), .val (.ref ar)] []))
  exact Run.retV hS (Nat.le_refl _) X294 hx hret hlk (hb hby d2_9) ⟨b294, k294, rfl, N294, K294, nb294, fc294, fv294, vb294⟩ (by decide) (by decide)
theorem d1_0 : decode method_2_code 0 = .ok (.iload_n 0, 1) := by decide +kernel
theorem d1_1 : decode method_2_code 1 = .ok (.ifCond .ne 14, 3) := by decide +kernel
theorem d1_4 : decode method_2_code 4 = .ok (.new 7, 3) := by decide +kernel
theorem d1_7 : decode method_2_code 7 = .ok (.dup, 1) := by decide +kernel
theorem d1_8 : decode method_2_code 8 = .ok (.iconst 0, 1) := by decide +kernel
theorem d1_9 : decode method_2_code 9 = .ok (.newarray .char, 2) := by decide +kernel
theorem pd_8 : parseMethodDescriptor "([C)V" = some ⟨[(.array .char)], none⟩ := by decide +kernel
theorem d1_11 : decode method_2_code 11 = .ok (.invokespecial 9, 3) := by decide +kernel
theorem d1_14 : decode method_2_code 14 = .ok (.areturn, 1) := by decide +kernel
theorem pn_1 : plainName "com/example/humble_issuer/humbleissuer/web/QueryParametersLeftOutIfEmptyPinLaw" = true := by first | (simp [plainName, overriddenIn]; done) | decide +kernel
set_option maxRecDepth 65536 in
set_option maxHeartbeats 40000000 in
theorem rmB_0 (l : Launch) (Z : State) (a0 : Array Value) (hw : ∀ d ∈ tables_1, d.before a0 Z = true) (xa : Int32) (xb : Int32) (xc : Int32) (cs : Int32) (h0 : Heap) (n0 : Nat) (Z0 : n0 ≤ h0.size) (OL : Old Z n0 h0) (SC : Sta Z Z.heap "java/lang/String" "COMPACT_STRINGS" "Z" (.int cs)) (hcs : ¬ cs = 0) (SA : Sta Z Z.heap "java/lang/StringUTF16" "$assertionsDisabled" "Z" (.int 1)) (SH : Sta Z Z.heap "java/lang/StringUTF16" "HI_BYTE_SHIFT" "I" (.int 0)) (SL : Sta Z Z.heap "java/lang/StringUTF16" "LO_BYTE_SHIFT" "I" (.int 8)) (hH : Jvm.Lit.constHeld Z "java/lang/String" 7) (hcw : Jvm.Lit.compactW.before a0 Z = true) :
    Con l (⟨"com/example/humble_issuer/humbleissuer/web/QueryParametersLeftOutIfEmptyPinLaw", "build", "(ICCC)Ljava/lang/String;"⟩ : MethodName) method_2_code 4 (some (.object "java/lang/String")) ({ frames := 3, cells := 4, slots := 8, locals := 43 } : Room) Z #[(.int (0 : Int32)), (.int xa), (.int xb), (.int xc)] h0 (fun vm => IB Z vm []) (fun v h L vm => ∃ o : Addr, ∃ b : Addr, ∃ k : ClassId, ∃ z : Int32, ∃ vs : List Value, v = some (.ref o) ∧ Fr n0 L ∧ Keep h0 h [] ∧ h0.size ≤ o ∧ Exa Z h o "java/lang/String" ∧ Fld Z h o "java/lang/String" "value" "[B" (.ref b) ∧ Arv Z h b k .byte z vs (.int 0) ∧ z = 0) := by
  refine Con.mk (plainFor_of_name pn_1) (fun m => show entryFrame m #[(.int (0 : Int32)), (.int xa), (.int xb), (.int xc)] 4 = mkF m 0 #[.val (.int (0 : Int32)), .val (.int xa), .val (.int xb), .val (.int xc)] [] by first | (simp [entryFrame, mkF, argsToLocals, Value.category]; done) | rfl) ?_
  intro p e s m below meth c s₁ vm0 hx hby hml hown hnm hret hlk hZ X0 e0 hS hs0 hP0
  have N0 := Fr.nil n0
  show Run p e below s _ _ _ (s₁.setTop (mkF m 0 #[.val (.int (0 : Int32)), .val (.int xa), .val (.int xb), .val (.int xc)] []))
  refine Run.pre (fun _ k => XS.iloadN X0.here hx rfl (hb hby d1_0) rfl  k) ?_
  show Run p e below s _ _ _ (s₁.setTop (mkF m 1 #[.val (.int (0 : Int32)), .val (.int xa), .val (.int xb), .val (.int xc)] [(.int (0 : Int32))]))
  refine Run.pre (fun _ k => XS.ifNo X0.here hx rfl (hb hby d1_1) rfl ((if0 _ _).trans (teq ((by decide) : (0 : Int32) = (0 : Int32))).2) k) ?_
  show Run p e below s _ _ _ (s₁.setTop (mkF m 4 #[.val (.int (0 : Int32)), .val (.int xa), .val (.int xb), .val (.int xc)] []))
  obtain ⟨T295, h295, X295, e295, E295, A295, D295, -, st295⟩ := newO X0 hx hZ hown (hw _ (List.mem_of_getElem? (i := 5) rfl)) (hw _ (List.mem_of_getElem? (i := 6) rfl)) (hw _ (List.mem_of_getElem? (i := 7) rfl)) e0 (g := (mkF m 4 #[.val (.int (0 : Int32)), .val (.int xa), .val (.int xb), .val (.int xc)] [])) rfl (hb hby d1_4) (by decide) (by decide)
  obtain ⟨b295, g295⟩ : ∃ z, z = h0.size := ⟨_, rfl⟩
  rw [← g295] at A295 D295 st295
  refine Run.pre st295 ?_
  have gn_b295 : n0 ≤ b295 := Nat.le_trans (Nat.le_trans Z0 (Keep.refl h0 []).1) (Nat.le_of_eq g295.symm)
  have sz_b295 : h0.size ≤ b295 := Nat.le_trans (Keep.refl h0 []).1 (Nat.le_of_eq g295.symm)
  have K295 : Keep h0 h295 [] := (Keep.refl h0 []).ext E295
  have F_value_b295 : Fld Z h295 b295 "java/lang/String" "value" "[B" .null := D295 (Or.inr (hw _ (List.mem_of_getElem? (i := 21) rfl))) (ty := (.array .byte)) (by decide)
  have F_coder_b295 : Fld Z h295 b295 "java/lang/String" "coder" "B" (.int (0 : Int32)) := D295 (Or.inr (hw _ (List.mem_of_getElem? (i := 22) rfl))) (ty := .byte) (by decide)
  show Run p e below s _ _ _ (T295.setTop (mkF m 7 #[.val (.int (0 : Int32)), .val (.int xa), .val (.int xb), .val (.int xc)] [(.ref b295)]))
  refine Run.pre (fun _ k => XS.dup X295.here hx rfl (hb hby d1_7) rfl rfl k) ?_
  show Run p e below s _ _ _ (T295.setTop (mkF m 8 #[.val (.int (0 : Int32)), .val (.int xa), .val (.int xb), .val (.int xc)] [(.ref b295), (.ref b295)]))
  refine Run.pre (fun _ k => XS.iconst X295.here hx rfl (hb hby d1_8) k) ?_
  show Run p e below s _ _ _ (T295.setTop (mkF m 9 #[.val (.int (0 : Int32)), .val (.int xa), .val (.int xb), .val (.int xc)] [(.int (0 : Int32)), (.ref b295), (.ref b295)]))
  obtain ⟨T296, h296, k296, X296, e296, E296, A296, st296⟩ := newP X295 hx hZ (hw _ (List.mem_of_getElem? (i := 8) rfl)) e295 (g := (mkF m 9 #[.val (.int (0 : Int32)), .val (.int xa), .val (.int xb), .val (.int xc)] [(.int (0 : Int32)), (.ref b295), (.ref b295)])) rfl (hb hby d1_9) rfl (by decide) (cap := 0) (by decide) (by decide) (by decide) (by decide)
  obtain ⟨b296, g296⟩ : ∃ z, z = h295.size := ⟨_, rfl⟩
  rw [← g296] at A296 st296
  refine Run.pre st296 ?_
  have V_b296 : Arv Z h296 b296 k296 .char (0 : Int32) [] (.int (0 : Int32)) := Arv.new A296 (by decide)
  have gn_b296 : n0 ≤ b296 := Nat.le_trans (Nat.le_trans Z0 K295.1) (Nat.le_of_eq g296.symm)
  have sz_b296 : h0.size ≤ b296 := Nat.le_trans K295.1 (Nat.le_of_eq g296.symm)
  have K296 : Keep h0 h296 [] := K295.ext E296
  show Run p e below s _ _ _ (T296.setTop (mkF m 11 #[.val (.int (0 : Int32)), .val (.int xa), .val (.int xb), .val (.int xc)] [(.ref b296), (.ref b295), (.ref b295)]))
  have f297 := ((OL.ext E295).ext E296)
  have f298 := (A295.ext E296)
  have f299 := (F_value_b295.ext E296)
  have f300 := (F_coder_b295.ext E296)
  refine Run.callI hS (by first | exact Nat.le_refl _ | (rw [e296]; exact (Nat.le_trans (Nat.le_trans (Nat.zero_le _) E295.1) E296.1))) X296 hx hZ (y := (⟨"java/lang/String", "<init>", "([C)V"⟩ : MethodName)) rfl hown (hw _ (List.mem_of_getElem? (i := 9) rfl)) (hw _ (List.mem_of_getElem? (i := 10) rfl)) (hw _ (List.mem_of_getElem? (i := 11) rfl)) (hw _ (List.mem_of_getElem? (i := 7) rfl)) (by decide) (a := b295) (W := 1) (rmI_0 l Z a0 hw b295 b296 k296 h296 n0 (Nat.le_trans Z0 K296.1) f297 f298 f299 f300 gn_b295 hH hcw V_b296) e296 (by decide) (by decide) (by decide) (by decide) (fun _ q => own_ibStays hP0 q) (g := (mkF m 11 #[.val (.int (0 : Int32)), .val (.int xa), .val (.int xb), .val (.int xc)] [(.ref b296), (.ref b295), (.ref b295)])) rfl (by rw [hml]; rfl) (argsL := [(.ref b296)]) (rest := [(.ref b295)]) (lenOf pd_8 rfl) rfl (by show 2 * 0 + _ ≤ _; exact Nat.le_of_eq rfl) (hb hby d1_11) ?_
  intro v301 T301 L301 X301 hS hZ hown hV301 hQ301
  obtain ⟨b301, k301, rfl, Nq301, Kc301, nb301, fc301, fv301, vb301⟩ := hQ301
  have N301 := Fr.app N0 Nq301
  have K301 : Keep h0 T301.heap [] := K296.trans Kc301 (allS (Or.inr sz_b295) all0)
  show Run p e below s _ _ _ (T301.setTop (mkF m 14 #[.val (.int (0 : Int32)), .val (.int xa), .val (.int xb), .val (.int xc)] [(.ref b295)]))
  have f302 := (f298.keep Kc301)
  exact Run.retA hS (Nat.le_refl _) X301 hx hret rfl rfl hlk (hb hby d1_14) ⟨b295, b301, k301, 0, [], rfl, N301, K301, sz_b295, f302, fv301, vb301, rfl⟩ (by decide) (by decide)
theorem d1_15 : decode method_2_code 15 = .ok (.iload_n 0, 1) := by decide +kernel
theorem d1_16 : decode method_2_code 16 = .ok (.iconst 1, 1) := by decide +kernel
theorem d1_17 : decode method_2_code 17 = .ok (.if_icmp .ne 18, 3) := by decide +kernel
theorem d1_20 : decode method_2_code 20 = .ok (.new 7, 3) := by decide +kernel
theorem d1_23 : decode method_2_code 23 = .ok (.dup, 1) := by decide +kernel
theorem d1_24 : decode method_2_code 24 = .ok (.iconst 1, 1) := by decide +kernel
theorem d1_25 : decode method_2_code 25 = .ok (.newarray .char, 2) := by decide +kernel
theorem d1_27 : decode method_2_code 27 = .ok (.dup, 1) := by decide +kernel
theorem d1_28 : decode method_2_code 28 = .ok (.iconst 0, 1) := by decide +kernel
theorem d1_29 : decode method_2_code 29 = .ok (.iload_n 1, 1) := by decide +kernel
theorem d1_30 : decode method_2_code 30 = .ok (.castore, 1) := by decide +kernel
theorem d1_31 : decode method_2_code 31 = .ok (.invokespecial 9, 3) := by decide +kernel
theorem d1_34 : decode method_2_code 34 = .ok (.areturn, 1) := by decide +kernel
set_option maxRecDepth 65536 in
set_option maxHeartbeats 40000000 in
theorem rmB_1 (l : Launch) (Z : State) (a0 : Array Value) (hw : ∀ d ∈ tables_1, d.before a0 Z = true) (xa : Int32) (xb : Int32) (xc : Int32) (cs : Int32) (h0 : Heap) (n0 : Nat) (Z0 : n0 ≤ h0.size) (OL : Old Z n0 h0) (SC : Sta Z Z.heap "java/lang/String" "COMPACT_STRINGS" "Z" (.int cs)) (hcs : ¬ cs = 0) (SA : Sta Z Z.heap "java/lang/StringUTF16" "$assertionsDisabled" "Z" (.int 1)) (SH : Sta Z Z.heap "java/lang/StringUTF16" "HI_BYTE_SHIFT" "I" (.int 0)) (SL : Sta Z Z.heap "java/lang/StringUTF16" "LO_BYTE_SHIFT" "I" (.int 8)) (hH : Jvm.Lit.constHeld Z "java/lang/String" 7) (hcw : Jvm.Lit.compactW.before a0 Z = true) :
    Con l (⟨"com/example/humble_issuer/humbleissuer/web/QueryParametersLeftOutIfEmptyPinLaw", "build", "(ICCC)Ljava/lang/String;"⟩ : MethodName) method_2_code 4 (some (.object "java/lang/String")) ({ frames := 6, cells := 4, slots := 8, locals := 88 } : Room) Z #[(.int (1 : Int32)), (.int xa), (.int xb), (.int xc)] h0 (fun vm => IB Z vm []) (fun v h L vm => ∃ o : Addr, ∃ b : Addr, ∃ k : ClassId, ∃ z : Int32, ∃ vs : List Value, v = some (.ref o) ∧ Fr n0 L ∧ Keep h0 h [] ∧ h0.size ≤ o ∧ Exa Z h o "java/lang/String" ∧ Fld Z h o "java/lang/String" "value" "[B" (.ref b) ∧ Arv Z h b k .byte z vs (.int 0) ∧ ¬ z = 0) := by
  refine Con.mk (plainFor_of_name pn_1) (fun m => show entryFrame m #[(.int (1 : Int32)), (.int xa), (.int xb), (.int xc)] 4 = mkF m 0 #[.val (.int (1 : Int32)), .val (.int xa), .val (.int xb), .val (.int xc)] [] by first | (simp [entryFrame, mkF, argsToLocals, Value.category]; done) | rfl) ?_
  intro p e s m below meth c s₁ vm0 hx hby hml hown hnm hret hlk hZ X0 e0 hS hs0 hP0
  have N0 := Fr.nil n0
  show Run p e below s _ _ _ (s₁.setTop (mkF m 0 #[.val (.int (1 : Int32)), .val (.int xa), .val (.int xb), .val (.int xc)] []))
  refine Run.pre (fun _ k => XS.iloadN X0.here hx rfl (hb hby d1_0) rfl  k) ?_
  show Run p e below s _ _ _ (s₁.setTop (mkF m 1 #[.val (.int (1 : Int32)), .val (.int xa), .val (.int xb), .val (.int xc)] [(.int (1 : Int32))]))
  refine Run.pre (fun _ k => XS.ifYes X0.here hx rfl (pc0 := 1) (pc' := 15) rfl (hb hby d1_1) rfl ((if0 _ _).trans (feq ((by decide) : ¬ ((1 : Int32) = (0 : Int32)))).2) (by decide) (by decide) k) ?_
  show Run p e below s _ _ _ (s₁.setTop (mkF m 15 #[.val (.int (1 : Int32)), .val (.int xa), .val (.int xb), .val (.int xc)] []))
  refine Run.pre (fun _ k => XS.iloadN X0.here hx rfl (hb hby d1_15) rfl  k) ?_
  show Run p e below s _ _ _ (s₁.setTop (mkF m 16 #[.val (.int (1 : Int32)), .val (.int xa), .val (.int xb), .val (.int xc)] [(.int (1 : Int32))]))
  refine Run.pre (fun _ k => XS.iconst X0.here hx rfl (hb hby d1_16) k) ?_
  show Run p e below s _ _ _ (s₁.setTop (mkF m 17 #[.val (.int (1 : Int32)), .val (.int xa), .val (.int xb), .val (.int xc)] [(.int (1 : Int32)), (.int (1 : Int32))]))
  refine Run.pre (fun _ k => XS.icmpNo X0.here hx rfl (hb hby d1_17) rfl (teq ((by decide) : (1 : Int32) = (1 : Int32))).2 k) ?_
  show Run p e below s _ _ _ (s₁.setTop (mkF m 20 #[.val (.int (1 : Int32)), .val (.int xa), .val (.int xb), .val (.int xc)] []))
  obtain ⟨T303, h303, X303, e303, E303, A303, D303, -, st303⟩ := newO X0 hx hZ hown (hw _ (List.mem_of_getElem? (i := 5) rfl)) (hw _ (List.mem_of_getElem? (i := 6) rfl)) (hw _ (List.mem_of_getElem? (i := 7) rfl)) e0 (g := (mkF m 20 #[.val (.int (1 : Int32)), .val (.int xa), .val (.int xb), .val (.int xc)] [])) rfl (hb hby d1_20) (by decide) (by decide)
  obtain ⟨b303, g303⟩ : ∃ z, z = h0.size := ⟨_, rfl⟩
  rw [← g303] at A303 D303 st303
  refine Run.pre st303 ?_
  have gn_b303 : n0 ≤ b303 := Nat.le_trans (Nat.le_trans Z0 (Keep.refl h0 []).1) (Nat.le_of_eq g303.symm)
  have sz_b303 : h0.size ≤ b303 := Nat.le_trans (Keep.refl h0 []).1 (Nat.le_of_eq g303.symm)
  have K303 : Keep h0 h303 [] := (Keep.refl h0 []).ext E303
  have F_value_b303 : Fld Z h303 b303 "java/lang/String" "value" "[B" .null := D303 (Or.inr (hw _ (List.mem_of_getElem? (i := 21) rfl))) (ty := (.array .byte)) (by decide)
  have F_coder_b303 : Fld Z h303 b303 "java/lang/String" "coder" "B" (.int (0 : Int32)) := D303 (Or.inr (hw _ (List.mem_of_getElem? (i := 22) rfl))) (ty := .byte) (by decide)
  show Run p e below s _ _ _ (T303.setTop (mkF m 23 #[.val (.int (1 : Int32)), .val (.int xa), .val (.int xb), .val (.int xc)] [(.ref b303)]))
  refine Run.pre (fun _ k => XS.dup X303.here hx rfl (hb hby d1_23) rfl rfl k) ?_
  show Run p e below s _ _ _ (T303.setTop (mkF m 24 #[.val (.int (1 : Int32)), .val (.int xa), .val (.int xb), .val (.int xc)] [(.ref b303), (.ref b303)]))
  refine Run.pre (fun _ k => XS.iconst X303.here hx rfl (hb hby d1_24) k) ?_
  show Run p e below s _ _ _ (T303.setTop (mkF m 25 #[.val (.int (1 : Int32)), .val (.int xa), .val (.int xb), .val (.int xc)] [(.int (1 : Int32)), (.ref b303), (.ref b303)]))
  obtain ⟨T304, h304, k304, X304, e304, E304, A304, st304⟩ := newP X303 hx hZ (hw _ (List.mem_of_getElem? (i := 8) rfl)) e303 (g := (mkF m 25 #[.val (.int (1 : Int32)), .val (.int xa), .val (.int xb), .val (.int xc)] [(.int (1 : Int32)), (.ref b303), (.ref b303)])) rfl (hb hby d1_25) rfl (by decide) (cap := 1) (by decide) (by decide) (by decide) (by decide)
  obtain ⟨b304, g304⟩ : ∃ z, z = h303.size := ⟨_, rfl⟩
  rw [← g304] at A304 st304
  refine Run.pre st304 ?_
  have V_b304 : Arv Z h304 b304 k304 .char (1 : Int32) [(.int (0 : Int32))] (.int (0 : Int32)) := (Arv.new A304 (by decide)).pad (pad_rep [] (.int (0 : Int32)) 1)
  have gn_b304 : n0 ≤ b304 := Nat.le_trans (Nat.le_trans Z0 K303.1) (Nat.le_of_eq g304.symm)
  have sz_b304 : h0.size ≤ b304 := Nat.le_trans K303.1 (Nat.le_of_eq g304.symm)
  have K304 : Keep h0 h304 [] := K303.ext E304
  show Run p e below s _ _ _ (T304.setTop (mkF m 27 #[.val (.int (1 : Int32)), .val (.int xa), .val (.int xb), .val (.int xc)] [(.ref b304), (.ref b303), (.ref b303)]))
  refine Run.pre (fun _ k => XS.dup X304.here hx rfl (hb hby d1_27) rfl rfl k) ?_
  show Run p e below s _ _ _ (T304.setTop (mkF m 28 #[.val (.int (1 : Int32)), .val (.int xa), .val (.int xb), .val (.int xc)] [(.ref b304), (.ref b304), (.ref b303), (.ref b303)]))
  refine Run.pre (fun _ k => XS.iconst X304.here hx rfl (hb hby d1_28) k) ?_
  show Run p e below s _ _ _ (T304.setTop (mkF m 29 #[.val (.int (1 : Int32)), .val (.int xa), .val (.int xb), .val (.int xc)] [(.int (0 : Int32)), (.ref b304), (.ref b304), (.ref b303), (.ref b303)]))
  refine Run.pre (fun _ k => XS.iloadN X304.here hx rfl (hb hby d1_29) rfl  k) ?_
  show Run p e below s _ _ _ (T304.setTop (mkF m 30 #[.val (.int (1 : Int32)), .val (.int xa), .val (.int xb), .val (.int xc)] [(.int xa), (.int (0 : Int32)), (.ref b304), (.ref b304), (.ref b303), (.ref b303)]))
  obtain ⟨c305, Ar305, q305, S305, N305, H305, G305⟩ := id V_b304
  have hin305 : ¬ ((0 : Int32) < 0 ∨ c305.slots.size ≤ ((0 : Int32)).toNatClampNeg) := inb_of S305 ⟨by decide, by decide⟩
  obtain ⟨T306, h306, X306, e306, W306, st306⟩ := stC X304 hx hZ e304 Ar305 (j := (0 : Int32)) hin305 (g := (mkF m 30 #[.val (.int (1 : Int32)), .val (.int xa), .val (.int xb), .val (.int xc)] [(.int xa), (.int (0 : Int32)), (.ref b304), (.ref b304), (.ref b303), (.ref b303)])) rfl rfl (hb hby d1_30)
  refine Run.pre st306 ?_
  have V_b304_306 : Arv Z h306 b304 k304 .char (1 : Int32) [(.int (nar .char xa))] (.int (0 : Int32)) := Arv.set Ar305 q305 S305 N305 H305 G305 (fits_nar_char _) W306 0 rfl (Nat.le_of_ble_eq_true rfl)
  have K306 : Keep h0 h306 [] := K304.wr W306 (Or.inr sz_b304)
  have N306 := Fr.snoc X306 N0 gn_b304
  show Run p e below s _ _ _ (T306.setTop (mkF m 31 #[.val (.int (1 : Int32)), .val (.int xa), .val (.int xb), .val (.int xc)] [(.ref b304), (.ref b303), (.ref b303)]))
  have f307 := (((OL.ext E303).ext E304).wr W306 gn_b304)
  have f308 := ((A303.ext E304).wr W306)
  have f309 := ((F_value_b303.ext E304).other W306 (Or.inl (Nat.ne_of_lt (Nat.lt_of_lt_of_le A303.lt (Nat.le_of_eq g304.symm)))))
  have f310 := ((F_coder_b303.ext E304).other W306 (Or.inl (Nat.ne_of_lt (Nat.lt_of_lt_of_le A303.lt (Nat.le_of_eq g304.symm)))))
  refine Run.callI hS (by first | exact Nat.le_refl _ | (rw [e306]; exact (Nat.le_trans (Nat.le_trans (Nat.le_trans (Nat.zero_le _) E303.1) E304.1) (Keep.of_wr W306).1))) X306 hx hZ (y := (⟨"java/lang/String", "<init>", "([C)V"⟩ : MethodName)) rfl hown (hw _ (List.mem_of_getElem? (i := 9) rfl)) (hw _ (List.mem_of_getElem? (i := 10) rfl)) (hw _ (List.mem_of_getElem? (i := 11) rfl)) (hw _ (List.mem_of_getElem? (i := 7) rfl)) (by decide) (a := b303) (W := 1) (rmI_1 l Z a0 hw b303 b304 k304 (nar .char xa) cs h306 n0 (Nat.le_trans Z0 K306.1) f307 SC hcs SA SH SL V_b304_306 f308 f309 f310 gn_b303 (Ne.symm (Nat.ne_of_lt (Nat.lt_of_lt_of_le A303.lt (Nat.le_of_eq g304.symm)))) (own_narc _)) e306 (by decide) (by decide) (by decide) (by decide) (fun _ _ => trivial) (g := (mkF m 31 #[.val (.int (1 : Int32)), .val (.int xa), .val (.int xb), .val (.int xc)] [(.ref b304), (.ref b303), (.ref b303)])) rfl (by rw [hml]; rfl) (argsL := [(.ref b304)]) (rest := [(.ref b303)]) (lenOf pd_8 rfl) rfl (by show 2 * 0 + _ ≤ _; exact Nat.le_of_eq rfl) (hb hby d1_31) ?_
  intro v311 T311 L311 X311 hS hZ hown hV311 hQ311
  obtain ⟨b311, k311, rfl, Nq311, Kc311, sz311, fv311, dq311⟩ := hQ311
  have N311 := Fr.app N306 Nq311
  have K311 : Keep h0 T311.heap [] := K306.trans Kc311 (allS (Or.inr sz_b303) all0)
  have sz_b311 : h0.size ≤ b311 := Nat.le_trans K306.1 sz311
  have gn_b311 : n0 ≤ b311 := Nat.le_trans Z0 sz_b311
  show Run p e below s _ _ _ (T311.setTop (mkF m 34 #[.val (.int (1 : Int32)), .val (.int xa), .val (.int xb), .val (.int xc)] [(.ref b303)]))
  have f312 := (f308.keep Kc311)
  exact Run.retA hS (Nat.le_refl _) X311 hx hret rfl rfl hlk (hb hby d1_34) (dq311.elim (fun q => ⟨b303, b311, k311, _, _, rfl, N311, K311, sz_b303, f312, fv311, q.2.2, by decide⟩) (fun q => ⟨b303, b311, k311, _, _, rfl, N311, K311, sz_b303, f312, fv311, q.2.2, by decide⟩)) (by decide) (by decide)
theorem d1_35 : decode method_2_code 35 = .ok (.iload_n 0, 1) := by decide +kernel
theorem d1_36 : decode method_2_code 36 = .ok (.iconst 2, 1) := by decide +kernel
theorem d1_37 : decode method_2_code 37 = .ok (.if_icmp .ne 22, 3) := by decide +kernel
theorem d1_40 : decode method_2_code 40 = .ok (.new 7, 3) := by decide +kernel
theorem d1_43 : decode method_2_code 43 = .ok (.dup, 1) := by decide +kernel
theorem d1_44 : decode method_2_code 44 = .ok (.iconst 2, 1) := by decide +kernel
theorem d1_45 : decode method_2_code 45 = .ok (.newarray .char, 2) := by decide +kernel
theorem d1_47 : decode method_2_code 47 = .ok (.dup, 1) := by decide +kernel
theorem d1_48 : decode method_2_code 48 = .ok (.iconst 0, 1) := by decide +kernel
theorem d1_49 : decode method_2_code 49 = .ok (.iload_n 1, 1) := by decide +kernel
theorem d1_50 : decode method_2_code 50 = .ok (.castore, 1) := by decide +kernel
theorem d1_51 : decode method_2_code 51 = .ok (.dup, 1) := by decide +kernel
theorem d1_52 : decode method_2_code 52 = .ok (.iconst 1, 1) := by decide +kernel
theorem d1_53 : decode method_2_code 53 = .ok (.iload_n 2, 1) := by decide +kernel
theorem d1_54 : decode method_2_code 54 = .ok (.castore, 1) := by decide +kernel
theorem d1_55 : decode method_2_code 55 = .ok (.invokespecial 9, 3) := by decide +kernel
theorem d1_58 : decode method_2_code 58 = .ok (.areturn, 1) := by decide +kernel
set_option maxRecDepth 65536 in
set_option maxHeartbeats 40000000 in
theorem rmB_2 (l : Launch) (Z : State) (a0 : Array Value) (hw : ∀ d ∈ tables_1, d.before a0 Z = true) (xa : Int32) (xb : Int32) (xc : Int32) (cs : Int32) (h0 : Heap) (n0 : Nat) (Z0 : n0 ≤ h0.size) (OL : Old Z n0 h0) (SC : Sta Z Z.heap "java/lang/String" "COMPACT_STRINGS" "Z" (.int cs)) (hcs : ¬ cs = 0) (SA : Sta Z Z.heap "java/lang/StringUTF16" "$assertionsDisabled" "Z" (.int 1)) (SH : Sta Z Z.heap "java/lang/StringUTF16" "HI_BYTE_SHIFT" "I" (.int 0)) (SL : Sta Z Z.heap "java/lang/StringUTF16" "LO_BYTE_SHIFT" "I" (.int 8)) (hH : Jvm.Lit.constHeld Z "java/lang/String" 7) (hcw : Jvm.Lit.compactW.before a0 Z = true) :
    Con l (⟨"com/example/humble_issuer/humbleissuer/web/QueryParametersLeftOutIfEmptyPinLaw", "build", "(ICCC)Ljava/lang/String;"⟩ : MethodName) method_2_code 4 (some (.object "java/lang/String")) ({ frames := 6, cells := 4, slots := 12, locals := 88 } : Room) Z #[(.int (2 : Int32)), (.int xa), (.int xb), (.int xc)] h0 (fun vm => IB Z vm []) (fun v h L vm => ∃ o : Addr, ∃ b : Addr, ∃ k : ClassId, ∃ z : Int32, ∃ vs : List Value, v = some (.ref o) ∧ Fr n0 L ∧ Keep h0 h [] ∧ h0.size ≤ o ∧ Exa Z h o "java/lang/String" ∧ Fld Z h o "java/lang/String" "value" "[B" (.ref b) ∧ Arv Z h b k .byte z vs (.int 0) ∧ ¬ z = 0) := by
  refine Con.mk (plainFor_of_name pn_1) (fun m => show entryFrame m #[(.int (2 : Int32)), (.int xa), (.int xb), (.int xc)] 4 = mkF m 0 #[.val (.int (2 : Int32)), .val (.int xa), .val (.int xb), .val (.int xc)] [] by first | (simp [entryFrame, mkF, argsToLocals, Value.category]; done) | rfl) ?_
  intro p e s m below meth c s₁ vm0 hx hby hml hown hnm hret hlk hZ X0 e0 hS hs0 hP0
  have N0 := Fr.nil n0
  show Run p e below s _ _ _ (s₁.setTop (mkF m 0 #[.val (.int (2 : Int32)), .val (.int xa), .val (.int xb), .val (.int xc)] []))
  refine Run.pre (fun _ k => XS.iloadN X0.here hx rfl (hb hby d1_0) rfl  k) ?_
  show Run p e below s _ _ _ (s₁.setTop (mkF m 1 #[.val (.int (2 : Int32)), .val (.int xa), .val (.int xb), .val (.int xc)] [(.int (2 : Int32))]))
  refine Run.pre (fun _ k => XS.ifYes X0.here hx rfl (pc0 := 1) (pc' := 15) rfl (hb hby d1_1) rfl ((if0 _ _).trans (feq ((by decide) : ¬ ((2 : Int32) = (0 : Int32)))).2) (by decide) (by decide) k) ?_
  show Run p e below s _ _ _ (s₁.setTop (mkF m 15 #[.val (.int (2 : Int32)), .val (.int xa), .val (.int xb), .val (.int xc)] []))
  refine Run.pre (fun _ k => XS.iloadN X0.here hx rfl (hb hby d1_15) rfl  k) ?_
  show Run p e below s _ _ _ (s₁.setTop (mkF m 16 #[.val (.int (2 : Int32)), .val (.int xa), .val (.int xb), .val (.int xc)] [(.int (2 : Int32))]))
  refine Run.pre (fun _ k => XS.iconst X0.here hx rfl (hb hby d1_16) k) ?_
  show Run p e below s _ _ _ (s₁.setTop (mkF m 17 #[.val (.int (2 : Int32)), .val (.int xa), .val (.int xb), .val (.int xc)] [(.int (1 : Int32)), (.int (2 : Int32))]))
  refine Run.pre (fun _ k => XS.icmpYes X0.here hx rfl (pc0 := 17) (pc' := 35) rfl (hb hby d1_17) rfl (feq ((by decide) : ¬ ((2 : Int32) = (1 : Int32)))).2 (by decide) (by decide) k) ?_
  show Run p e below s _ _ _ (s₁.setTop (mkF m 35 #[.val (.int (2 : Int32)), .val (.int xa), .val (.int xb), .val (.int xc)] []))
  refine Run.pre (fun _ k => XS.iloadN X0.here hx rfl (hb hby d1_35) rfl  k) ?_
  show Run p e below s _ _ _ (s₁.setTop (mkF m 36 #[.val (.int (2 : Int32)), .val (.int xa), .val (.int xb), .val (.int xc)] [(.int (2 : Int32))]))
  refine Run.pre (fun _ k => XS.iconst X0.here hx rfl (hb hby d1_36) k) ?_
  show Run p e below s _ _ _ (s₁.setTop (mkF m 37 #[.val (.int (2 : Int32)), .val (.int xa), .val (.int xb), .val (.int xc)] [(.int (2 : Int32)), (.int (2 : Int32))]))
  refine Run.pre (fun _ k => XS.icmpNo X0.here hx rfl (hb hby d1_37) rfl (teq ((by decide) : (2 : Int32) = (2 : Int32))).2 k) ?_
  show Run p e below s _ _ _ (s₁.setTop (mkF m 40 #[.val (.int (2 : Int32)), .val (.int xa), .val (.int xb), .val (.int xc)] []))
  obtain ⟨T313, h313, X313, e313, E313, A313, D313, -, st313⟩ := newO X0 hx hZ hown (hw _ (List.mem_of_getElem? (i := 5) rfl)) (hw _ (List.mem_of_getElem? (i := 6) rfl)) (hw _ (List.mem_of_getElem? (i := 7) rfl)) e0 (g := (mkF m 40 #[.val (.int (2 : Int32)), .val (.int xa), .val (.int xb), .val (.int xc)] [])) rfl (hb hby d1_40) (by decide) (by decide)
  obtain ⟨b313, g313⟩ : ∃ z, z = h0.size := ⟨_, rfl⟩
  rw [← g313] at A313 D313 st313
  refine Run.pre st313 ?_
  have gn_b313 : n0 ≤ b313 := Nat.le_trans (Nat.le_trans Z0 (Keep.refl h0 []).1) (Nat.le_of_eq g313.symm)
  have sz_b313 : h0.size ≤ b313 := Nat.le_trans (Keep.refl h0 []).1 (Nat.le_of_eq g313.symm)
  have K313 : Keep h0 h313 [] := (Keep.refl h0 []).ext E313
  have F_value_b313 : Fld Z h313 b313 "java/lang/String" "value" "[B" .null := D313 (Or.inr (hw _ (List.mem_of_getElem? (i := 21) rfl))) (ty := (.array .byte)) (by decide)
  have F_coder_b313 : Fld Z h313 b313 "java/lang/String" "coder" "B" (.int (0 : Int32)) := D313 (Or.inr (hw _ (List.mem_of_getElem? (i := 22) rfl))) (ty := .byte) (by decide)
  show Run p e below s _ _ _ (T313.setTop (mkF m 43 #[.val (.int (2 : Int32)), .val (.int xa), .val (.int xb), .val (.int xc)] [(.ref b313)]))
  refine Run.pre (fun _ k => XS.dup X313.here hx rfl (hb hby d1_43) rfl rfl k) ?_
  show Run p e below s _ _ _ (T313.setTop (mkF m 44 #[.val (.int (2 : Int32)), .val (.int xa), .val (.int xb), .val (.int xc)] [(.ref b313), (.ref b313)]))
  refine Run.pre (fun _ k => XS.iconst X313.here hx rfl (hb hby d1_44) k) ?_
  show Run p e below s _ _ _ (T313.setTop (mkF m 45 #[.val (.int (2 : Int32)), .val (.int xa), .val (.int xb), .val (.int xc)] [(.int (2 : Int32)), (.ref b313), (.ref b313)]))
  obtain ⟨T314, h314, k314, X314, e314, E314, A314, st314⟩ := newP X313 hx hZ (hw _ (List.mem_of_getElem? (i := 8) rfl)) e313 (g := (mkF m 45 #[.val (.int (2 : Int32)), .val (.int xa), .val (.int xb), .val (.int xc)] [(.int (2 : Int32)), (.ref b313), (.ref b313)])) rfl (hb hby d1_45) rfl (by decide) (cap := 2) (by decide) (by decide) (by decide) (by decide)
  obtain ⟨b314, g314⟩ : ∃ z, z = h313.size := ⟨_, rfl⟩
  rw [← g314] at A314 st314
  refine Run.pre st314 ?_
  have V_b314 : Arv Z h314 b314 k314 .char (2 : Int32) [(.int (0 : Int32)), (.int (0 : Int32))] (.int (0 : Int32)) := (Arv.new A314 (by decide)).pad (pad_rep [] (.int (0 : Int32)) 2)
  have gn_b314 : n0 ≤ b314 := Nat.le_trans (Nat.le_trans Z0 K313.1) (Nat.le_of_eq g314.symm)
  have sz_b314 : h0.size ≤ b314 := Nat.le_trans K313.1 (Nat.le_of_eq g314.symm)
  have K314 : Keep h0 h314 [] := K313.ext E314
  show Run p e below s _ _ _ (T314.setTop (mkF m 47 #[.val (.int (2 : Int32)), .val (.int xa), .val (.int xb), .val (.int xc)] [(.ref b314), (.ref b313), (.ref b313)]))
  refine Run.pre (fun _ k => XS.dup X314.here hx rfl (hb hby d1_47) rfl rfl k) ?_
  show Run p e below s _ _ _ (T314.setTop (mkF m 48 #[.val (.int (2 : Int32)), .val (.int xa), .val (.int xb), .val (.int xc)] [(.ref b314), (.ref b314), (.ref b313), (.ref b313)]))
  refine Run.pre (fun _ k => XS.iconst X314.here hx rfl (hb hby d1_48) k) ?_
  show Run p e below s _ _ _ (T314.setTop (mkF m 49 #[.val (.int (2 : Int32)), .val (.int xa), .val (.int xb), .val (.int xc)] [(.int (0 : Int32)), (.ref b314), (.ref b314), (.ref b313), (.ref b313)]))
  refine Run.pre (fun _ k => XS.iloadN X314.here hx rfl (hb hby d1_49) rfl  k) ?_
  show Run p e below s _ _ _ (T314.setTop (mkF m 50 #[.val (.int (2 : Int32)), .val (.int xa), .val (.int xb), .val (.int xc)] [(.int xa), (.int (0 : Int32)), (.ref b314), (.ref b314), (.ref b313), (.ref b313)]))
  obtain ⟨c315, Ar315, q315, S315, N315, H315, G315⟩ := id V_b314
  have hin315 : ¬ ((0 : Int32) < 0 ∨ c315.slots.size ≤ ((0 : Int32)).toNatClampNeg) := inb_of S315 ⟨by decide, by decide⟩
  obtain ⟨T316, h316, X316, e316, W316, st316⟩ := stC X314 hx hZ e314 Ar315 (j := (0 : Int32)) hin315 (g := (mkF m 50 #[.val (.int (2 : Int32)), .val (.int xa), .val (.int xb), .val (.int xc)] [(.int xa), (.int (0 : Int32)), (.ref b314), (.ref b314), (.ref b313), (.ref b313)])) rfl rfl (hb hby d1_50)
  refine Run.pre st316 ?_
  have V_b314_316 : Arv Z h316 b314 k314 .char (2 : Int32) [(.int (nar .char xa)), (.int (0 : Int32))] (.int (0 : Int32)) := Arv.set Ar315 q315 S315 N315 H315 G315 (fits_nar_char _) W316 0 rfl (Nat.le_of_ble_eq_true rfl)
  have K316 : Keep h0 h316 [] := K314.wr W316 (Or.inr sz_b314)
  have N316 := Fr.snoc X316 N0 gn_b314
  show Run p e below s _ _ _ (T316.setTop (mkF m 51 #[.val (.int (2 : Int32)), .val (.int xa), .val (.int xb), .val (.int xc)] [(.ref b314), (.ref b313), (.ref b313)]))
  refine Run.pre (fun _ k => XS.dup X316.here hx rfl (hb hby d1_51) rfl rfl k) ?_
  show Run p e below s _ _ _ (T316.setTop (mkF m 52 #[.val (.int (2 : Int32)), .val (.int xa), .val (.int xb), .val (.int xc)] [(.ref b314), (.ref b314), (.ref b313), (.ref b313)]))
  refine Run.pre (fun _ k => XS.iconst X316.here hx rfl (hb hby d1_52) k) ?_
  show Run p e below s _ _ _ (T316.setTop (mkF m 53 #[.val (.int (2 : Int32)), .val (.int xa), .val (.int xb), .val (.int xc)] [(.int (1 : Int32)), (.ref b314), (.ref b314), (.ref b313), (.ref b313)]))
  refine Run.pre (fun _ k => XS.iloadN X316.here hx rfl (hb hby d1_53) rfl  k) ?_
  show Run p e below s _ _ _ (T316.setTop (mkF m 54 #[.val (.int (2 : Int32)), .val (.int xa), .val (.int xb), .val (.int xc)] [(.int xb), (.int (1 : Int32)), (.ref b314), (.ref b314), (.ref b313), (.ref b313)]))
  obtain ⟨c317, Ar317, q317, S317, N317, H317, G317⟩ := id V_b314_316
  have hin317 : ¬ ((1 : Int32) < 0 ∨ c317.slots.size ≤ ((1 : Int32)).toNatClampNeg) := inb_of S317 ⟨by decide, by decide⟩
  obtain ⟨T318, h318, X318, e318, W318, st318⟩ := stC X316 hx hZ e316 Ar317 (j := (1 : Int32)) hin317 (g := (mkF m 54 #[.val (.int (2 : Int32)), .val (.int xa), .val (.int xb), .val (.int xc)] [(.int xb), (.int (1 : Int32)), (.ref b314), (.ref b314), (.ref b313), (.ref b313)])) rfl rfl (hb hby d1_54)
  refine Run.pre st318 ?_
  have V_b314_318 : Arv Z h318 b314 k314 .char (2 : Int32) [(.int (nar .char xa)), (.int (nar .char xb))] (.int (0 : Int32)) := Arv.set Ar317 q317 S317 N317 H317 G317 (fits_nar_char _) W318 1 rfl (Nat.le_of_ble_eq_true rfl)
  have K318 : Keep h0 h318 [] := K316.wr W318 (Or.inr sz_b314)
  have N318 := Fr.snoc X318 N316 gn_b314
  show Run p e below s _ _ _ (T318.setTop (mkF m 55 #[.val (.int (2 : Int32)), .val (.int xa), .val (.int xb), .val (.int xc)] [(.ref b314), (.ref b313), (.ref b313)]))
  have f319 := ((((OL.ext E313).ext E314).wr W316 gn_b314).wr W318 gn_b314)
  have f320 := (((A313.ext E314).wr W316).wr W318)
  have f321 := (((F_value_b313.ext E314).other W316 (Or.inl (Nat.ne_of_lt (Nat.lt_of_lt_of_le A313.lt (Nat.le_of_eq g314.symm))))).other W318 (Or.inl (Nat.ne_of_lt (Nat.lt_of_lt_of_le A313.lt (Nat.le_of_eq g314.symm)))))
  have f322 := (((F_coder_b313.ext E314).other W316 (Or.inl (Nat.ne_of_lt (Nat.lt_of_lt_of_le A313.lt (Nat.le_of_eq g314.symm))))).other W318 (Or.inl (Nat.ne_of_lt (Nat.lt_of_lt_of_le A313.lt (Nat.le_of_eq g314.symm)))))
  refine Run.callI hS (by first | exact Nat.le_refl _ | (rw [e318]; exact (Nat.le_trans (Nat.le_trans (Nat.le_trans (Nat.le_trans (Nat.zero_le _) E313.1) E314.1) (Keep.of_wr W316).1) (Keep.of_wr W318).1))) X318 hx hZ (y := (⟨"java/lang/String", "<init>", "([C)V"⟩ : MethodName)) rfl hown (hw _ (List.mem_of_getElem? (i := 9) rfl)) (hw _ (List.mem_of_getElem? (i := 10) rfl)) (hw _ (List.mem_of_getElem? (i := 11) rfl)) (hw _ (List.mem_of_getElem? (i := 7) rfl)) (by decide) (a := b313) (W := 1) (rmI_2 l Z a0 hw b313 b314 k314 (nar .char xa) (nar .char xb) cs h318 n0 (Nat.le_trans Z0 K318.1) f319 SC hcs SA SH SL V_b314_318 f320 f321 f322 gn_b313 (Ne.symm (Nat.ne_of_lt (Nat.lt_of_lt_of_le A313.lt (Nat.le_of_eq g314.symm)))) (own_narc _) (own_narc _)) e318 (by decide) (by decide) (by decide) (by decide) (fun _ _ => trivial) (g := (mkF m 55 #[.val (.int (2 : Int32)), .val (.int xa), .val (.int xb), .val (.int xc)] [(.ref b314), (.ref b313), (.ref b313)])) rfl (by rw [hml]; rfl) (argsL := [(.ref b314)]) (rest := [(.ref b313)]) (lenOf pd_8 rfl) rfl (by show 2 * 0 + _ ≤ _; exact Nat.le_of_eq rfl) (hb hby d1_55) ?_
  intro v323 T323 L323 X323 hS hZ hown hV323 hQ323
  obtain ⟨b323, k323, rfl, Nq323, Kc323, sz323, fv323, dq323⟩ := hQ323
  have N323 := Fr.app N318 Nq323
  have K323 : Keep h0 T323.heap [] := K318.trans Kc323 (allS (Or.inr sz_b313) all0)
  have sz_b323 : h0.size ≤ b323 := Nat.le_trans K318.1 sz323
  have gn_b323 : n0 ≤ b323 := Nat.le_trans Z0 sz_b323
  show Run p e below s _ _ _ (T323.setTop (mkF m 58 #[.val (.int (2 : Int32)), .val (.int xa), .val (.int xb), .val (.int xc)] [(.ref b313)]))
  have f324 := (f320.keep Kc323)
  exact Run.retA hS (Nat.le_refl _) X323 hx hret rfl rfl hlk (hb hby d1_58) (dq323.elim (fun q => ⟨b313, b323, k323, _, _, rfl, N323, K323, sz_b313, f324, fv323, q.2.2, by decide⟩) (fun q => ⟨b313, b323, k323, _, _, rfl, N323, K323, sz_b313, f324, fv323, q.2.2, by decide⟩)) (by decide) (by decide)
theorem d1_59 : decode method_2_code 59 = .ok (.new 7, 3) := by decide +kernel
theorem d1_62 : decode method_2_code 62 = .ok (.dup, 1) := by decide +kernel
theorem d1_63 : decode method_2_code 63 = .ok (.iconst 3, 1) := by decide +kernel
theorem d1_64 : decode method_2_code 64 = .ok (.newarray .char, 2) := by decide +kernel
theorem d1_66 : decode method_2_code 66 = .ok (.dup, 1) := by decide +kernel
theorem d1_67 : decode method_2_code 67 = .ok (.iconst 0, 1) := by decide +kernel
theorem d1_68 : decode method_2_code 68 = .ok (.iload_n 1, 1) := by decide +kernel
theorem d1_69 : decode method_2_code 69 = .ok (.castore, 1) := by decide +kernel
theorem d1_70 : decode method_2_code 70 = .ok (.dup, 1) := by decide +kernel
theorem d1_71 : decode method_2_code 71 = .ok (.iconst 1, 1) := by decide +kernel
theorem d1_72 : decode method_2_code 72 = .ok (.iload_n 2, 1) := by decide +kernel
theorem d1_73 : decode method_2_code 73 = .ok (.castore, 1) := by decide +kernel
theorem d1_74 : decode method_2_code 74 = .ok (.dup, 1) := by decide +kernel
theorem d1_75 : decode method_2_code 75 = .ok (.iconst 2, 1) := by decide +kernel
theorem d1_76 : decode method_2_code 76 = .ok (.iload_n 3, 1) := by decide +kernel
theorem d1_77 : decode method_2_code 77 = .ok (.castore, 1) := by decide +kernel
theorem d1_78 : decode method_2_code 78 = .ok (.invokespecial 9, 3) := by decide +kernel
theorem d1_81 : decode method_2_code 81 = .ok (.areturn, 1) := by decide +kernel
set_option maxRecDepth 65536 in
set_option maxHeartbeats 40000000 in
theorem rmB_3 (l : Launch) (Z : State) (a0 : Array Value) (hw : ∀ d ∈ tables_1, d.before a0 Z = true) (xa : Int32) (xb : Int32) (xc : Int32) (cs : Int32) (h0 : Heap) (n0 : Nat) (Z0 : n0 ≤ h0.size) (OL : Old Z n0 h0) (SC : Sta Z Z.heap "java/lang/String" "COMPACT_STRINGS" "Z" (.int cs)) (hcs : ¬ cs = 0) (SA : Sta Z Z.heap "java/lang/StringUTF16" "$assertionsDisabled" "Z" (.int 1)) (SH : Sta Z Z.heap "java/lang/StringUTF16" "HI_BYTE_SHIFT" "I" (.int 0)) (SL : Sta Z Z.heap "java/lang/StringUTF16" "LO_BYTE_SHIFT" "I" (.int 8)) (hH : Jvm.Lit.constHeld Z "java/lang/String" 7) (hcw : Jvm.Lit.compactW.before a0 Z = true) :
    Con l (⟨"com/example/humble_issuer/humbleissuer/web/QueryParametersLeftOutIfEmptyPinLaw", "build", "(ICCC)Ljava/lang/String;"⟩ : MethodName) method_2_code 4 (some (.object "java/lang/String")) ({ frames := 6, cells := 4, slots := 16, locals := 88 } : Room) Z #[(.int (3 : Int32)), (.int xa), (.int xb), (.int xc)] h0 (fun vm => IB Z vm []) (fun v h L vm => ∃ o : Addr, ∃ b : Addr, ∃ k : ClassId, ∃ z : Int32, ∃ vs : List Value, v = some (.ref o) ∧ Fr n0 L ∧ Keep h0 h [] ∧ h0.size ≤ o ∧ Exa Z h o "java/lang/String" ∧ Fld Z h o "java/lang/String" "value" "[B" (.ref b) ∧ Arv Z h b k .byte z vs (.int 0) ∧ ¬ z = 0) := by
  refine Con.mk (plainFor_of_name pn_1) (fun m => show entryFrame m #[(.int (3 : Int32)), (.int xa), (.int xb), (.int xc)] 4 = mkF m 0 #[.val (.int (3 : Int32)), .val (.int xa), .val (.int xb), .val (.int xc)] [] by first | (simp [entryFrame, mkF, argsToLocals, Value.category]; done) | rfl) ?_
  intro p e s m below meth c s₁ vm0 hx hby hml hown hnm hret hlk hZ X0 e0 hS hs0 hP0
  have N0 := Fr.nil n0
  show Run p e below s _ _ _ (s₁.setTop (mkF m 0 #[.val (.int (3 : Int32)), .val (.int xa), .val (.int xb), .val (.int xc)] []))
  refine Run.pre (fun _ k => XS.iloadN X0.here hx rfl (hb hby d1_0) rfl  k) ?_
  show Run p e below s _ _ _ (s₁.setTop (mkF m 1 #[.val (.int (3 : Int32)), .val (.int xa), .val (.int xb), .val (.int xc)] [(.int (3 : Int32))]))
  refine Run.pre (fun _ k => XS.ifYes X0.here hx rfl (pc0 := 1) (pc' := 15) rfl (hb hby d1_1) rfl ((if0 _ _).trans (feq ((by decide) : ¬ ((3 : Int32) = (0 : Int32)))).2) (by decide) (by decide) k) ?_
  show Run p e below s _ _ _ (s₁.setTop (mkF m 15 #[.val (.int (3 : Int32)), .val (.int xa), .val (.int xb), .val (.int xc)] []))
  refine Run.pre (fun _ k => XS.iloadN X0.here hx rfl (hb hby d1_15) rfl  k) ?_
  show Run p e below s _ _ _ (s₁.setTop (mkF m 16 #[.val (.int (3 : Int32)), .val (.int xa), .val (.int xb), .val (.int xc)] [(.int (3 : Int32))]))
  refine Run.pre (fun _ k => XS.iconst X0.here hx rfl (hb hby d1_16) k) ?_
  show Run p e below s _ _ _ (s₁.setTop (mkF m 17 #[.val (.int (3 : Int32)), .val (.int xa), .val (.int xb), .val (.int xc)] [(.int (1 : Int32)), (.int (3 : Int32))]))
  refine Run.pre (fun _ k => XS.icmpYes X0.here hx rfl (pc0 := 17) (pc' := 35) rfl (hb hby d1_17) rfl (feq ((by decide) : ¬ ((3 : Int32) = (1 : Int32)))).2 (by decide) (by decide) k) ?_
  show Run p e below s _ _ _ (s₁.setTop (mkF m 35 #[.val (.int (3 : Int32)), .val (.int xa), .val (.int xb), .val (.int xc)] []))
  refine Run.pre (fun _ k => XS.iloadN X0.here hx rfl (hb hby d1_35) rfl  k) ?_
  show Run p e below s _ _ _ (s₁.setTop (mkF m 36 #[.val (.int (3 : Int32)), .val (.int xa), .val (.int xb), .val (.int xc)] [(.int (3 : Int32))]))
  refine Run.pre (fun _ k => XS.iconst X0.here hx rfl (hb hby d1_36) k) ?_
  show Run p e below s _ _ _ (s₁.setTop (mkF m 37 #[.val (.int (3 : Int32)), .val (.int xa), .val (.int xb), .val (.int xc)] [(.int (2 : Int32)), (.int (3 : Int32))]))
  refine Run.pre (fun _ k => XS.icmpYes X0.here hx rfl (pc0 := 37) (pc' := 59) rfl (hb hby d1_37) rfl (feq ((by decide) : ¬ ((3 : Int32) = (2 : Int32)))).2 (by decide) (by decide) k) ?_
  show Run p e below s _ _ _ (s₁.setTop (mkF m 59 #[.val (.int (3 : Int32)), .val (.int xa), .val (.int xb), .val (.int xc)] []))
  obtain ⟨T325, h325, X325, e325, E325, A325, D325, -, st325⟩ := newO X0 hx hZ hown (hw _ (List.mem_of_getElem? (i := 5) rfl)) (hw _ (List.mem_of_getElem? (i := 6) rfl)) (hw _ (List.mem_of_getElem? (i := 7) rfl)) e0 (g := (mkF m 59 #[.val (.int (3 : Int32)), .val (.int xa), .val (.int xb), .val (.int xc)] [])) rfl (hb hby d1_59) (by decide) (by decide)
  obtain ⟨b325, g325⟩ : ∃ z, z = h0.size := ⟨_, rfl⟩
  rw [← g325] at A325 D325 st325
  refine Run.pre st325 ?_
  have gn_b325 : n0 ≤ b325 := Nat.le_trans (Nat.le_trans Z0 (Keep.refl h0 []).1) (Nat.le_of_eq g325.symm)
  have sz_b325 : h0.size ≤ b325 := Nat.le_trans (Keep.refl h0 []).1 (Nat.le_of_eq g325.symm)
  have K325 : Keep h0 h325 [] := (Keep.refl h0 []).ext E325
  have F_value_b325 : Fld Z h325 b325 "java/lang/String" "value" "[B" .null := D325 (Or.inr (hw _ (List.mem_of_getElem? (i := 21) rfl))) (ty := (.array .byte)) (by decide)
  have F_coder_b325 : Fld Z h325 b325 "java/lang/String" "coder" "B" (.int (0 : Int32)) := D325 (Or.inr (hw _ (List.mem_of_getElem? (i := 22) rfl))) (ty := .byte) (by decide)
  show Run p e below s _ _ _ (T325.setTop (mkF m 62 #[.val (.int (3 : Int32)), .val (.int xa), .val (.int xb), .val (.int xc)] [(.ref b325)]))
  refine Run.pre (fun _ k => XS.dup X325.here hx rfl (hb hby d1_62) rfl rfl k) ?_
  show Run p e below s _ _ _ (T325.setTop (mkF m 63 #[.val (.int (3 : Int32)), .val (.int xa), .val (.int xb), .val (.int xc)] [(.ref b325), (.ref b325)]))
  refine Run.pre (fun _ k => XS.iconst X325.here hx rfl (hb hby d1_63) k) ?_
  show Run p e below s _ _ _ (T325.setTop (mkF m 64 #[.val (.int (3 : Int32)), .val (.int xa), .val (.int xb), .val (.int xc)] [(.int (3 : Int32)), (.ref b325), (.ref b325)]))
  obtain ⟨T326, h326, k326, X326, e326, E326, A326, st326⟩ := newP X325 hx hZ (hw _ (List.mem_of_getElem? (i := 8) rfl)) e325 (g := (mkF m 64 #[.val (.int (3 : Int32)), .val (.int xa), .val (.int xb), .val (.int xc)] [(.int (3 : Int32)), (.ref b325), (.ref b325)])) rfl (hb hby d1_64) rfl (by decide) (cap := 3) (by decide) (by decide) (by decide) (by decide)
  obtain ⟨b326, g326⟩ : ∃ z, z = h325.size := ⟨_, rfl⟩
  rw [← g326] at A326 st326
  refine Run.pre st326 ?_
  have V_b326 : Arv Z h326 b326 k326 .char (3 : Int32) [(.int (0 : Int32)), (.int (0 : Int32)), (.int (0 : Int32))] (.int (0 : Int32)) := (Arv.new A326 (by decide)).pad (pad_rep [] (.int (0 : Int32)) 3)
  have gn_b326 : n0 ≤ b326 := Nat.le_trans (Nat.le_trans Z0 K325.1) (Nat.le_of_eq g326.symm)
  have sz_b326 : h0.size ≤ b326 := Nat.le_trans K325.1 (Nat.le_of_eq g326.symm)
  have K326 : Keep h0 h326 [] := K325.ext E326
  show Run p e below s _ _ _ (T326.setTop (mkF m 66 #[.val (.int (3 : Int32)), .val (.int xa), .val (.int xb), .val (.int xc)] [(.ref b326), (.ref b325), (.ref b325)]))
  refine Run.pre (fun _ k => XS.dup X326.here hx rfl (hb hby d1_66) rfl rfl k) ?_
  show Run p e below s _ _ _ (T326.setTop (mkF m 67 #[.val (.int (3 : Int32)), .val (.int xa), .val (.int xb), .val (.int xc)] [(.ref b326), (.ref b326), (.ref b325), (.ref b325)]))
  refine Run.pre (fun _ k => XS.iconst X326.here hx rfl (hb hby d1_67) k) ?_
  show Run p e below s _ _ _ (T326.setTop (mkF m 68 #[.val (.int (3 : Int32)), .val (.int xa), .val (.int xb), .val (.int xc)] [(.int (0 : Int32)), (.ref b326), (.ref b326), (.ref b325), (.ref b325)]))
  refine Run.pre (fun _ k => XS.iloadN X326.here hx rfl (hb hby d1_68) rfl  k) ?_
  show Run p e below s _ _ _ (T326.setTop (mkF m 69 #[.val (.int (3 : Int32)), .val (.int xa), .val (.int xb), .val (.int xc)] [(.int xa), (.int (0 : Int32)), (.ref b326), (.ref b326), (.ref b325), (.ref b325)]))
  obtain ⟨c327, Ar327, q327, S327, N327, H327, G327⟩ := id V_b326
  have hin327 : ¬ ((0 : Int32) < 0 ∨ c327.slots.size ≤ ((0 : Int32)).toNatClampNeg) := inb_of S327 ⟨by decide, by decide⟩
  obtain ⟨T328, h328, X328, e328, W328, st328⟩ := stC X326 hx hZ e326 Ar327 (j := (0 : Int32)) hin327 (g := (mkF m 69 #[.val (.int (3 : Int32)), .val (.int xa), .val (.int xb), .val (.int xc)] [(.int xa), (.int (0 : Int32)), (.ref b326), (.ref b326), (.ref b325), (.ref b325)])) rfl rfl (hb hby d1_69)
  refine Run.pre st328 ?_
  have V_b326_328 : Arv Z h328 b326 k326 .char (3 : Int32) [(.int (nar .char xa)), (.int (0 : Int32)), (.int (0 : Int32))] (.int (0 : Int32)) := Arv.set Ar327 q327 S327 N327 H327 G327 (fits_nar_char _) W328 0 rfl (Nat.le_of_ble_eq_true rfl)
  have K328 : Keep h0 h328 [] := K326.wr W328 (Or.inr sz_b326)
  have N328 := Fr.snoc X328 N0 gn_b326
  show Run p e below s _ _ _ (T328.setTop (mkF m 70 #[.val (.int (3 : Int32)), .val (.int xa), .val (.int xb), .val (.int xc)] [(.ref b326), (.ref b325), (.ref b325)]))
  refine Run.pre (fun _ k => XS.dup X328.here hx rfl (hb hby d1_70) rfl rfl k) ?_
  show Run p e below s _ _ _ (T328.setTop (mkF m 71 #[.val (.int (3 : Int32)), .val (.int xa), .val (.int xb), .val (.int xc)] [(.ref b326), (.ref b326), (.ref b325), (.ref b325)]))
  refine Run.pre (fun _ k => XS.iconst X328.here hx rfl (hb hby d1_71) k) ?_
  show Run p e below s _ _ _ (T328.setTop (mkF m 72 #[.val (.int (3 : Int32)), .val (.int xa), .val (.int xb), .val (.int xc)] [(.int (1 : Int32)), (.ref b326), (.ref b326), (.ref b325), (.ref b325)]))
  refine Run.pre (fun _ k => XS.iloadN X328.here hx rfl (hb hby d1_72) rfl  k) ?_
  show Run p e below s _ _ _ (T328.setTop (mkF m 73 #[.val (.int (3 : Int32)), .val (.int xa), .val (.int xb), .val (.int xc)] [(.int xb), (.int (1 : Int32)), (.ref b326), (.ref b326), (.ref b325), (.ref b325)]))
  obtain ⟨c329, Ar329, q329, S329, N329, H329, G329⟩ := id V_b326_328
  have hin329 : ¬ ((1 : Int32) < 0 ∨ c329.slots.size ≤ ((1 : Int32)).toNatClampNeg) := inb_of S329 ⟨by decide, by decide⟩
  obtain ⟨T330, h330, X330, e330, W330, st330⟩ := stC X328 hx hZ e328 Ar329 (j := (1 : Int32)) hin329 (g := (mkF m 73 #[.val (.int (3 : Int32)), .val (.int xa), .val (.int xb), .val (.int xc)] [(.int xb), (.int (1 : Int32)), (.ref b326), (.ref b326), (.ref b325), (.ref b325)])) rfl rfl (hb hby d1_73)
  refine Run.pre st330 ?_
  have V_b326_330 : Arv Z h330 b326 k326 .char (3 : Int32) [(.int (nar .char xa)), (.int (nar .char xb)), (.int (0 : Int32))] (.int (0 : Int32)) := Arv.set Ar329 q329 S329 N329 H329 G329 (fits_nar_char _) W330 1 rfl (Nat.le_of_ble_eq_true rfl)
  have K330 : Keep h0 h330 [] := K328.wr W330 (Or.inr sz_b326)
  have N330 := Fr.snoc X330 N328 gn_b326
  show Run p e below s _ _ _ (T330.setTop (mkF m 74 #[.val (.int (3 : Int32)), .val (.int xa), .val (.int xb), .val (.int xc)] [(.ref b326), (.ref b325), (.ref b325)]))
  refine Run.pre (fun _ k => XS.dup X330.here hx rfl (hb hby d1_74) rfl rfl k) ?_
  show Run p e below s _ _ _ (T330.setTop (mkF m 75 #[.val (.int (3 : Int32)), .val (.int xa), .val (.int xb), .val (.int xc)] [(.ref b326), (.ref b326), (.ref b325), (.ref b325)]))
  refine Run.pre (fun _ k => XS.iconst X330.here hx rfl (hb hby d1_75) k) ?_
  show Run p e below s _ _ _ (T330.setTop (mkF m 76 #[.val (.int (3 : Int32)), .val (.int xa), .val (.int xb), .val (.int xc)] [(.int (2 : Int32)), (.ref b326), (.ref b326), (.ref b325), (.ref b325)]))
  refine Run.pre (fun _ k => XS.iloadN X330.here hx rfl (hb hby d1_76) rfl  k) ?_
  show Run p e below s _ _ _ (T330.setTop (mkF m 77 #[.val (.int (3 : Int32)), .val (.int xa), .val (.int xb), .val (.int xc)] [(.int xc), (.int (2 : Int32)), (.ref b326), (.ref b326), (.ref b325), (.ref b325)]))
  obtain ⟨c331, Ar331, q331, S331, N331, H331, G331⟩ := id V_b326_330
  have hin331 : ¬ ((2 : Int32) < 0 ∨ c331.slots.size ≤ ((2 : Int32)).toNatClampNeg) := inb_of S331 ⟨by decide, by decide⟩
  obtain ⟨T332, h332, X332, e332, W332, st332⟩ := stC X330 hx hZ e330 Ar331 (j := (2 : Int32)) hin331 (g := (mkF m 77 #[.val (.int (3 : Int32)), .val (.int xa), .val (.int xb), .val (.int xc)] [(.int xc), (.int (2 : Int32)), (.ref b326), (.ref b326), (.ref b325), (.ref b325)])) rfl rfl (hb hby d1_77)
  refine Run.pre st332 ?_
  have V_b326_332 : Arv Z h332 b326 k326 .char (3 : Int32) [(.int (nar .char xa)), (.int (nar .char xb)), (.int (nar .char xc))] (.int (0 : Int32)) := Arv.set Ar331 q331 S331 N331 H331 G331 (fits_nar_char _) W332 2 rfl (Nat.le_of_ble_eq_true rfl)
  have K332 : Keep h0 h332 [] := K330.wr W332 (Or.inr sz_b326)
  have N332 := Fr.snoc X332 N330 gn_b326
  show Run p e below s _ _ _ (T332.setTop (mkF m 78 #[.val (.int (3 : Int32)), .val (.int xa), .val (.int xb), .val (.int xc)] [(.ref b326), (.ref b325), (.ref b325)]))
  have f333 := (((((OL.ext E325).ext E326).wr W328 gn_b326).wr W330 gn_b326).wr W332 gn_b326)
  have f334 := ((((A325.ext E326).wr W328).wr W330).wr W332)
  have f335 := ((((F_value_b325.ext E326).other W328 (Or.inl (Nat.ne_of_lt (Nat.lt_of_lt_of_le A325.lt (Nat.le_of_eq g326.symm))))).other W330 (Or.inl (Nat.ne_of_lt (Nat.lt_of_lt_of_le A325.lt (Nat.le_of_eq g326.symm))))).other W332 (Or.inl (Nat.ne_of_lt (Nat.lt_of_lt_of_le A325.lt (Nat.le_of_eq g326.symm)))))
  have f336 := ((((F_coder_b325.ext E326).other W328 (Or.inl (Nat.ne_of_lt (Nat.lt_of_lt_of_le A325.lt (Nat.le_of_eq g326.symm))))).other W330 (Or.inl (Nat.ne_of_lt (Nat.lt_of_lt_of_le A325.lt (Nat.le_of_eq g326.symm))))).other W332 (Or.inl (Nat.ne_of_lt (Nat.lt_of_lt_of_le A325.lt (Nat.le_of_eq g326.symm)))))
  refine Run.callI hS (by first | exact Nat.le_refl _ | (rw [e332]; exact (Nat.le_trans (Nat.le_trans (Nat.le_trans (Nat.le_trans (Nat.le_trans (Nat.zero_le _) E325.1) E326.1) (Keep.of_wr W328).1) (Keep.of_wr W330).1) (Keep.of_wr W332).1))) X332 hx hZ (y := (⟨"java/lang/String", "<init>", "([C)V"⟩ : MethodName)) rfl hown (hw _ (List.mem_of_getElem? (i := 9) rfl)) (hw _ (List.mem_of_getElem? (i := 10) rfl)) (hw _ (List.mem_of_getElem? (i := 11) rfl)) (hw _ (List.mem_of_getElem? (i := 7) rfl)) (by decide) (a := b325) (W := 1) (rmI_3 l Z a0 hw b325 b326 k326 (nar .char xa) (nar .char xb) (nar .char xc) cs h332 n0 (Nat.le_trans Z0 K332.1) f333 SC hcs SA SH SL V_b326_332 f334 f335 f336 gn_b325 (Ne.symm (Nat.ne_of_lt (Nat.lt_of_lt_of_le A325.lt (Nat.le_of_eq g326.symm)))) (own_narc _) (own_narc _) (own_narc _)) e332 (by decide) (by decide) (by decide) (by decide) (fun _ _ => trivial) (g := (mkF m 78 #[.val (.int (3 : Int32)), .val (.int xa), .val (.int xb), .val (.int xc)] [(.ref b326), (.ref b325), (.ref b325)])) rfl (by rw [hml]; rfl) (argsL := [(.ref b326)]) (rest := [(.ref b325)]) (lenOf pd_8 rfl) rfl (by show 2 * 0 + _ ≤ _; exact Nat.le_of_eq rfl) (hb hby d1_78) ?_
  intro v337 T337 L337 X337 hS hZ hown hV337 hQ337
  obtain ⟨b337, k337, rfl, Nq337, Kc337, sz337, fv337, dq337⟩ := hQ337
  have N337 := Fr.app N332 Nq337
  have K337 : Keep h0 T337.heap [] := K332.trans Kc337 (allS (Or.inr sz_b325) all0)
  have sz_b337 : h0.size ≤ b337 := Nat.le_trans K332.1 sz337
  have gn_b337 : n0 ≤ b337 := Nat.le_trans Z0 sz_b337
  show Run p e below s _ _ _ (T337.setTop (mkF m 81 #[.val (.int (3 : Int32)), .val (.int xa), .val (.int xb), .val (.int xc)] [(.ref b325)]))
  have f338 := (f334.keep Kc337)
  exact Run.retA hS (Nat.le_refl _) X337 hx hret rfl rfl hlk (hb hby d1_81) (dq337.elim (fun q => ⟨b325, b337, k337, _, _, rfl, N337, K337, sz_b325, f338, fv337, q.2.2, by decide⟩) (fun q => ⟨b325, b337, k337, _, _, rfl, N337, K337, sz_b325, f338, fv337, q.2.2, by decide⟩)) (by decide) (by decide)
def own_ie (z : Int32) : Int32 := if z = 0 then 1 else 0
theorem d6_0 : decode jdk_42_method_55_code 0 = .ok (.aload_n 0, 1) := by decide +kernel
theorem d6_1 : decode jdk_42_method_55_code 1 = .ok (.getfield 9, 3) := by decide +kernel
theorem d6_4 : decode jdk_42_method_55_code 4 = .ok (.arraylength, 1) := by decide +kernel
theorem d6_5 : decode jdk_42_method_55_code 5 = .ok (.ifCond .ne 7, 3) := by decide +kernel
theorem d6_8 : decode jdk_42_method_55_code 8 = .ok (.iconst 1, 1) := by decide +kernel
theorem d6_9 : decode jdk_42_method_55_code 9 = .ok (.goto 4, 3) := by decide +kernel
theorem d6_13 : decode jdk_42_method_55_code 13 = .ok (.ireturn, 1) := by decide +kernel
theorem d6_12 : decode jdk_42_method_55_code 12 = .ok (.iconst 0, 1) := by decide +kernel
theorem pn_6 : plainName "java/lang/String" = true := by first | (simp [plainName, overriddenIn]; done) | decide +kernel
set_option maxRecDepth 65536 in
set_option maxHeartbeats 40000000 in
theorem rmIE (l : Launch) (Z : State) (a0 : Array Value) (hw : ∀ d ∈ tables_1, d.before a0 Z = true) (a : Addr) (b : Addr) (k : ClassId) (z : Int32) (vs : List Value) (h0 : Heap) (n0 : Nat) (Z0 : n0 ≤ h0.size) (FV : Fld Z h0 a "java/lang/String" "value" "[B" (.ref b)) (AB : Arv Z h0 b k .byte z vs (.int 0)) :
    Con l (⟨"java/lang/String", "isEmpty", "()Z"⟩ : MethodName) jdk_42_method_55_code 1 (some .boolean) ({ frames := 0, cells := 0, slots := 0, locals := 0 } : Room) Z #[(.ref a)] h0 (fun _ => True) (fun v h L vm => v = some (.int (own_ie z)) ∧ Fr n0 L ∧ h = h0) := by
  refine Con.mk (plainFor_of_name pn_6) (fun m => show entryFrame m #[(.ref a)] 1 = mkF m 0 #[.val (.ref a)] [] by first | (simp [entryFrame, mkF, argsToLocals, Value.category]; done) | rfl) ?_
  intro p e s m below meth c s₁ vm0 hx hby hml hown hnm hret hlk hZ X0 e0 hS hs0 hP0
  have N0 := Fr.nil n0
  show Run p e below s _ _ _ (s₁.setTop (mkF m 0 #[.val (.ref a)] []))
  refine Run.pre (fun _ k => XS.aloadN X0.here hx rfl (hb hby d6_0) rfl rfl k) ?_
  show Run p e below s _ _ _ (s₁.setTop (mkF m 1 #[.val (.ref a)] [(.ref a)]))
  obtain ⟨T339, X339, e339, st339⟩ := getF X0 hx hZ hown (host := "") (Or.inl (hw _ (List.mem_of_getElem? (i := 25) rfl))) Via.refl e0 FV (g := (mkF m 1 #[.val (.ref a)] [(.ref a)])) rfl rfl (hb hby d6_1)
  refine Run.pre st339 ?_
  show Run p e below s _ _ _ (T339.setTop (mkF m 4 #[.val (.ref a)] [(.ref b)]))
  obtain ⟨c340, Ar340, -, S340, N340, -, -⟩ := id AB
  refine Run.pre (X339.arraylength hx (by rw [e339]; exact Ar340.1) (State.isArrayOf_alike hZ.alike Ar340.2.1) (g := (mkF m 4 #[.val (.ref a)] [(.ref b)])) rfl rfl (hb hby d6_4)) ?_
  rw [len_of S340 N340]
  show Run p e below s _ _ _ (T339.setTop (mkF m 5 #[.val (.ref a)] [(.int z)]))
  by_cases hc341 : z = (0 : Int32)
  · skip
    refine Run.pre (fun _ k => XS.ifNo X339.here hx rfl (hb hby d6_5) rfl ((if0 _ _).trans (teq (hc341 : z = (0 : Int32))).2) k) ?_
    show Run p e below s _ _ _ (T339.setTop (mkF m 8 #[.val (.ref a)] []))
    refine Run.pre (fun _ k => XS.iconst X339.here hx rfl (hb hby d6_8) k) ?_
    show Run p e below s _ _ _ (T339.setTop (mkF m 9 #[.val (.ref a)] [(.int (1 : Int32))]))
    refine Run.pre (fun _ k => XS.goto X339.here hx rfl (pc0 := 9) (pc' := 13) rfl (hb hby d6_9) (by decide) (by decide) k) ?_
    show Run p e below s _ _ _ (T339.setTop (mkF m 13 #[.val (.ref a)] [(.int (1 : Int32))]))
    exact Run.retN hS (by first | exact Nat.le_refl _ | (rw [e339]; exact (Nat.zero_le _))) X339 hx hret (t := .boolean) (by simp) hlk (hb hby d6_13) (by first | (rw [e339]; exact ⟨by simp [own_ie, nar, hc341], N0, rfl⟩) | exact ⟨by simp [own_ie, nar, hc341], N0, rfl⟩) (by decide) (by decide)
  · skip
    refine Run.pre (fun _ k => XS.ifYes X339.here hx rfl (pc0 := 5) (pc' := 12) rfl (hb hby d6_5) rfl ((if0 _ _).trans (feq (hc341 : ¬ (z = (0 : Int32)))).2) (by decide) (by decide) k) ?_
    show Run p e below s _ _ _ (T339.setTop (mkF m 12 #[.val (.ref a)] []))
    refine Run.pre (fun _ k => XS.iconst X339.here hx rfl (hb hby d6_12) k) ?_
    show Run p e below s _ _ _ (T339.setTop (mkF m 13 #[.val (.ref a)] [(.int (0 : Int32))]))
    exact Run.retN hS (by first | exact Nat.le_refl _ | (rw [e339]; exact (Nat.zero_le _))) X339 hx hret (t := .boolean) (by simp) hlk (hb hby d6_13) (by first | (rw [e339]; exact ⟨by simp [own_ie, nar, hc341], N0, rfl⟩) | exact ⟨by simp [own_ie, nar, hc341], N0, rfl⟩) (by decide) (by decide)
theorem d5_0 : decode prog_11_method_2_code 0 = .ok (.aload_n 0, 1) := by decide +kernel
theorem d5_1 : decode prog_11_method_2_code 1 = .ok (.ifnull 10, 3) := by decide +kernel
theorem d5_11 : decode prog_11_method_2_code 11 = .ok (.aconst_null, 1) := by decide +kernel
theorem d5_12 : decode prog_11_method_2_code 12 = .ok (.goto 4, 3) := by decide +kernel
theorem d5_16 : decode prog_11_method_2_code 16 = .ok (.areturn, 1) := by decide +kernel
theorem pn_5 : plainName "com/example/humble_issuer/humbleissuer/web/QueryParameters" = true := by first | (simp [plainName, overriddenIn]; done) | decide +kernel
set_option maxRecDepth 65536 in
set_option maxHeartbeats 40000000 in
theorem rmL_n (l : Launch) (Z : State) (a0 : Array Value) (hw : ∀ d ∈ tables_1, d.before a0 Z = true)  (h0 : Heap) (n0 : Nat) (Z0 : n0 ≤ h0.size) :
    Con l (⟨"com/example/humble_issuer/humbleissuer/web/QueryParameters", "leftOutIfEmpty", "(Ljava/lang/String;)Ljava/lang/String;"⟩ : MethodName) prog_11_method_2_code 1 (some (.object "java/lang/String")) ({ frames := 0, cells := 0, slots := 0, locals := 0 } : Room) Z #[.null] h0 (fun _ => True) (fun v h L vm => v = some .null ∧ Fr n0 L ∧ h = h0) := by
  refine Con.mk (plainFor_of_name pn_5) (fun m => show entryFrame m #[.null] 1 = mkF m 0 #[.val .null] [] by first | (simp [entryFrame, mkF, argsToLocals, Value.category]; done) | rfl) ?_
  intro p e s m below meth c s₁ vm0 hx hby hml hown hnm hret hlk hZ X0 e0 hS hs0 hP0
  have N0 := Fr.nil n0
  show Run p e below s _ _ _ (s₁.setTop (mkF m 0 #[.val .null] []))
  refine Run.pre (fun _ k => XS.aloadN X0.here hx rfl (hb hby d5_0) rfl rfl k) ?_
  show Run p e below s _ _ _ (s₁.setTop (mkF m 1 #[.val .null] [.null]))
  refine Run.pre (fun _ k => XS.ifnullYes X0.here hx rfl (pc0 := 1) (pc' := 11) rfl (hb hby d5_1) rfl (by decide) (by decide) k) ?_
  show Run p e below s _ _ _ (s₁.setTop (mkF m 11 #[.val .null] []))
  refine Run.pre (fun _ k => XS.aconstNull X0.here hx rfl (hb hby d5_11) k) ?_
  show Run p e below s _ _ _ (s₁.setTop (mkF m 12 #[.val .null] [.null]))
  refine Run.pre (fun _ k => XS.goto X0.here hx rfl (pc0 := 12) (pc' := 16) rfl (hb hby d5_12) (by decide) (by decide) k) ?_
  show Run p e below s _ _ _ (s₁.setTop (mkF m 16 #[.val .null] [.null]))
  exact Run.retA hS (by first | exact Nat.le_refl _ | (rw [e0]; exact (Nat.zero_le _))) X0 hx hret rfl rfl hlk (hb hby d5_16) (by first | (rw [e0]; exact ⟨rfl, N0, rfl⟩) | exact ⟨rfl, N0, rfl⟩) (by decide) (by decide)
theorem d5_4 : decode prog_11_method_2_code 4 = .ok (.aload_n 0, 1) := by decide +kernel
theorem pd_9 : parseMethodDescriptor "()Z" = some ⟨[], some .boolean⟩ := by decide +kernel
theorem d5_5 : decode prog_11_method_2_code 5 = .ok (.invokevirtual 7, 3) := by decide +kernel
theorem d5_8 : decode prog_11_method_2_code 8 = .ok (.ifCond .eq 7, 3) := by decide +kernel
set_option maxRecDepth 65536 in
set_option maxHeartbeats 40000000 in
theorem rmL_e (l : Launch) (Z : State) (a0 : Array Value) (hw : ∀ d ∈ tables_1, d.before a0 Z = true) (a : Addr) (b : Addr) (k : ClassId) (z : Int32) (vs : List Value) (h0 : Heap) (n0 : Nat) (Z0 : n0 ≤ h0.size) (FV : Fld Z h0 a "java/lang/String" "value" "[B" (.ref b)) (AB : Arv Z h0 b k .byte z vs (.int 0)) (E_a : Exa Z h0 a "java/lang/String") (hz : z = 0) :
    Con l (⟨"com/example/humble_issuer/humbleissuer/web/QueryParameters", "leftOutIfEmpty", "(Ljava/lang/String;)Ljava/lang/String;"⟩ : MethodName) prog_11_method_2_code 1 (some (.object "java/lang/String")) ({ frames := 1, cells := 0, slots := 0, locals := 12 } : Room) Z #[(.ref a)] h0 (fun _ => True) (fun v h L vm => v = some .null ∧ Fr n0 L ∧ h = h0) := by
  refine Con.mk (plainFor_of_name pn_5) (fun m => show entryFrame m #[(.ref a)] 1 = mkF m 0 #[.val (.ref a)] [] by first | (simp [entryFrame, mkF, argsToLocals, Value.category]; done) | rfl) ?_
  intro p e s m below meth c s₁ vm0 hx hby hml hown hnm hret hlk hZ X0 e0 hS hs0 hP0
  have N0 := Fr.nil n0
  show Run p e below s _ _ _ (s₁.setTop (mkF m 0 #[.val (.ref a)] []))
  refine Run.pre (fun _ k => XS.aloadN X0.here hx rfl (hb hby d5_0) rfl rfl k) ?_
  show Run p e below s _ _ _ (s₁.setTop (mkF m 1 #[.val (.ref a)] [(.ref a)]))
  refine Run.pre (fun _ k => XS.ifnullNo X0.here hx rfl (hb hby d5_1) rfl k) ?_
  show Run p e below s _ _ _ (s₁.setTop (mkF m 4 #[.val (.ref a)] []))
  refine Run.pre (fun _ k => XS.aloadN X0.here hx rfl (hb hby d5_4) rfl rfl k) ?_
  show Run p e below s _ _ _ (s₁.setTop (mkF m 5 #[.val (.ref a)] [(.ref a)]))
  refine Run.callV hS (by first | exact Nat.le_refl _ | (rw [e0]; exact (Nat.zero_le _))) X0 hx hZ (y := (⟨"java/lang/String", "isEmpty", "()Z"⟩ : MethodName)) (z := (⟨"java/lang/String", "isEmpty", "()Z"⟩ : MethodName)) hown (hw _ (List.mem_of_getElem? (i := 31) rfl)) (hw _ (List.mem_of_getElem? (i := 32) rfl)) (notFace_of_selects (args := #[]) (mvT hZ (hw _ (List.mem_of_getElem? (i := 34) rfl)))) (hw _ (List.mem_of_getElem? (i := 34) rfl)) (hw _ (List.mem_of_getElem? (i := 33) rfl)) (hw _ (List.mem_of_getElem? (i := 35) rfl)) (hw _ (List.mem_of_getElem? (i := 7) rfl)) (by decide) (b := a) E_a (W := 0) (rmIE l Z a0 hw a b k z vs h0 n0 (Nat.le_trans Z0 (Keep.refl h0 []).1) FV AB) e0 (by decide) (by decide) (by decide) (by decide) (fun _ _ => trivial) (g := (mkF m 5 #[.val (.ref a)] [(.ref a)])) rfl (by rw [hml]; rfl) (argsL := []) (rest := []) (lenOf pd_9 rfl) rfl (by show 2 * 0 + _ ≤ _; exact Nat.le_of_eq rfl) (hb hby d5_5) ?_
  intro v342 T342 L342 X342 hS hZ hown hV342 hQ342
  obtain ⟨rfl, Nq342, he342⟩ := hQ342
  have N342 := Fr.app N0 Nq342
  have e342 : T342.heap = h0 := he342
  show Run p e below s _ _ _ (T342.setTop (mkF m 8 #[.val (.ref a)] [(.int (own_ie z))]))
  refine Run.pre (fun _ k => XS.ifNo X342.here hx rfl (hb hby d5_8) rfl ((if0 _ _).trans (feq ((by simp [own_ie, hz]) : ¬ ((own_ie z) = (0 : Int32)))).1) k) ?_
  show Run p e below s _ _ _ (T342.setTop (mkF m 11 #[.val (.ref a)] []))
  refine Run.pre (fun _ k => XS.aconstNull X342.here hx rfl (hb hby d5_11) k) ?_
  show Run p e below s _ _ _ (T342.setTop (mkF m 12 #[.val (.ref a)] [.null]))
  refine Run.pre (fun _ k => XS.goto X342.here hx rfl (pc0 := 12) (pc' := 16) rfl (hb hby d5_12) (by decide) (by decide) k) ?_
  show Run p e below s _ _ _ (T342.setTop (mkF m 16 #[.val (.ref a)] [.null]))
  exact Run.retA hS (by first | exact Nat.le_refl _ | (rw [e342]; exact (Nat.le_of_eq (congrArg Array.size e342)))) X342 hx hret rfl rfl hlk (hb hby d5_16) (by first | (rw [e342]; exact ⟨rfl, N342, rfl⟩) | exact ⟨rfl, N342, rfl⟩) (by decide) (by decide)
theorem d5_15 : decode prog_11_method_2_code 15 = .ok (.aload_n 0, 1) := by decide +kernel
set_option maxRecDepth 65536 in
set_option maxHeartbeats 40000000 in
theorem rmL_s (l : Launch) (Z : State) (a0 : Array Value) (hw : ∀ d ∈ tables_1, d.before a0 Z = true) (a : Addr) (b : Addr) (k : ClassId) (z : Int32) (vs : List Value) (h0 : Heap) (n0 : Nat) (Z0 : n0 ≤ h0.size) (FV : Fld Z h0 a "java/lang/String" "value" "[B" (.ref b)) (AB : Arv Z h0 b k .byte z vs (.int 0)) (E_a : Exa Z h0 a "java/lang/String") (hz : ¬ z = 0) :
    Con l (⟨"com/example/humble_issuer/humbleissuer/web/QueryParameters", "leftOutIfEmpty", "(Ljava/lang/String;)Ljava/lang/String;"⟩ : MethodName) prog_11_method_2_code 1 (some (.object "java/lang/String")) ({ frames := 1, cells := 0, slots := 0, locals := 12 } : Room) Z #[(.ref a)] h0 (fun _ => True) (fun v h L vm => v = some (.ref a) ∧ Fr n0 L ∧ h = h0) := by
  refine Con.mk (plainFor_of_name pn_5) (fun m => show entryFrame m #[(.ref a)] 1 = mkF m 0 #[.val (.ref a)] [] by first | (simp [entryFrame, mkF, argsToLocals, Value.category]; done) | rfl) ?_
  intro p e s m below meth c s₁ vm0 hx hby hml hown hnm hret hlk hZ X0 e0 hS hs0 hP0
  have N0 := Fr.nil n0
  show Run p e below s _ _ _ (s₁.setTop (mkF m 0 #[.val (.ref a)] []))
  refine Run.pre (fun _ k => XS.aloadN X0.here hx rfl (hb hby d5_0) rfl rfl k) ?_
  show Run p e below s _ _ _ (s₁.setTop (mkF m 1 #[.val (.ref a)] [(.ref a)]))
  refine Run.pre (fun _ k => XS.ifnullNo X0.here hx rfl (hb hby d5_1) rfl k) ?_
  show Run p e below s _ _ _ (s₁.setTop (mkF m 4 #[.val (.ref a)] []))
  refine Run.pre (fun _ k => XS.aloadN X0.here hx rfl (hb hby d5_4) rfl rfl k) ?_
  show Run p e below s _ _ _ (s₁.setTop (mkF m 5 #[.val (.ref a)] [(.ref a)]))
  refine Run.callV hS (by first | exact Nat.le_refl _ | (rw [e0]; exact (Nat.zero_le _))) X0 hx hZ (y := (⟨"java/lang/String", "isEmpty", "()Z"⟩ : MethodName)) (z := (⟨"java/lang/String", "isEmpty", "()Z"⟩ : MethodName)) hown (hw _ (List.mem_of_getElem? (i := 31) rfl)) (hw _ (List.mem_of_getElem? (i := 32) rfl)) (notFace_of_selects (args := #[]) (mvT hZ (hw _ (List.mem_of_getElem? (i := 34) rfl)))) (hw _ (List.mem_of_getElem? (i := 34) rfl)) (hw _ (List.mem_of_getElem? (i := 33) rfl)) (hw _ (List.mem_of_getElem? (i := 35) rfl)) (hw _ (List.mem_of_getElem? (i := 7) rfl)) (by decide) (b := a) E_a (W := 0) (rmIE l Z a0 hw a b k z vs h0 n0 (Nat.le_trans Z0 (Keep.refl h0 []).1) FV AB) e0 (by decide) (by decide) (by decide) (by decide) (fun _ _ => trivial) (g := (mkF m 5 #[.val (.ref a)] [(.ref a)])) rfl (by rw [hml]; rfl) (argsL := []) (rest := []) (lenOf pd_9 rfl) rfl (by show 2 * 0 + _ ≤ _; exact Nat.le_of_eq rfl) (hb hby d5_5) ?_
  intro v343 T343 L343 X343 hS hZ hown hV343 hQ343
  obtain ⟨rfl, Nq343, he343⟩ := hQ343
  have N343 := Fr.app N0 Nq343
  have e343 : T343.heap = h0 := he343
  show Run p e below s _ _ _ (T343.setTop (mkF m 8 #[.val (.ref a)] [(.int (own_ie z))]))
  refine Run.pre (fun _ k => XS.ifYes X343.here hx rfl (pc0 := 8) (pc' := 15) rfl (hb hby d5_8) rfl ((if0 _ _).trans (teq ((by simp [own_ie, hz]) : (own_ie z) = (0 : Int32))).1) (by decide) (by decide) k) ?_
  show Run p e below s _ _ _ (T343.setTop (mkF m 15 #[.val (.ref a)] []))
  refine Run.pre (fun _ k => XS.aloadN X343.here hx rfl (hb hby d5_15) rfl rfl k) ?_
  show Run p e below s _ _ _ (T343.setTop (mkF m 16 #[.val (.ref a)] [(.ref a)]))
  exact Run.retA hS (by first | exact Nat.le_refl _ | (rw [e343]; exact (Nat.le_of_eq (congrArg Array.size e343)))) X343 hx hret rfl rfl hlk (hb hby d5_16) (by first | (rw [e343]; exact ⟨rfl, N343, rfl⟩) | exact ⟨rfl, N343, rfl⟩) (by decide) (by decide)
theorem d15_0 : decode jdk_42_method_66_code 0 = .ok (.aload_n 0, 1) := by decide +kernel
theorem d15_1 : decode jdk_42_method_66_code 1 = .ok (.aload_n 1, 1) := by decide +kernel
theorem d15_2 : decode jdk_42_method_66_code 2 = .ok (.if_acmp .ne 5, 3) := by decide +kernel
theorem d15_5 : decode jdk_42_method_66_code 5 = .ok (.iconst 1, 1) := by decide +kernel
theorem d15_6 : decode jdk_42_method_66_code 6 = .ok (.ireturn, 1) := by decide +kernel
theorem pn_15 : plainName "java/lang/String" = true := by first | (simp [plainName, overriddenIn]; done) | decide +kernel
set_option maxRecDepth 65536 in
set_option maxHeartbeats 40000000 in
theorem rmEq (l : Launch) (Z : State) (a0 : Array Value) (hw : ∀ d ∈ tables_1, d.before a0 Z = true) (a : Addr) (h0 : Heap) (n0 : Nat) (Z0 : n0 ≤ h0.size) :
    Con l (⟨"java/lang/String", "equals", "(Ljava/lang/Object;)Z"⟩ : MethodName) jdk_42_method_66_code 3 (some .boolean) ({ frames := 0, cells := 0, slots := 0, locals := 0 } : Room) Z #[(.ref a), (.ref a)] h0 (fun _ => True) (fun v h L vm => v = some (.int 1) ∧ Fr n0 L ∧ h = h0) := by
  refine Con.mk (plainFor_of_name pn_15) (fun m => show entryFrame m #[(.ref a), (.ref a)] 3 = mkF m 0 #[.val (.ref a), .val (.ref a), .unset] [] by first | (simp [entryFrame, mkF, argsToLocals, Value.category]; done) | rfl) ?_
  intro p e s m below meth c s₁ vm0 hx hby hml hown hnm hret hlk hZ X0 e0 hS hs0 hP0
  have N0 := Fr.nil n0
  show Run p e below s _ _ _ (s₁.setTop (mkF m 0 #[.val (.ref a), .val (.ref a), .unset] []))
  refine Run.pre (fun _ k => XS.aloadN X0.here hx rfl (hb hby d15_0) rfl rfl k) ?_
  show Run p e below s _ _ _ (s₁.setTop (mkF m 1 #[.val (.ref a), .val (.ref a), .unset] [(.ref a)]))
  refine Run.pre (fun _ k => XS.aloadN X0.here hx rfl (hb hby d15_1) rfl rfl k) ?_
  show Run p e below s _ _ _ (s₁.setTop (mkF m 2 #[.val (.ref a), .val (.ref a), .unset] [(.ref a), (.ref a)]))
  refine Run.pre (fun _ k => Jvm.RoadKit.acmp (g := (mkF m 2 #[.val (.ref a), .val (.ref a), .unset] [(.ref a), (.ref a)])) X0 hx rfl rfl rfl (pc0 := 2) (pc' := 5) (same := true) rfl (hb hby d15_2) rfl (decide_eq_true rfl) (by decide) (by decide) k) ?_
  show Run p e below s _ _ _ (s₁.setTop (mkF m 5 #[.val (.ref a), .val (.ref a), .unset] []))
  refine Run.pre (fun _ k => XS.iconst X0.here hx rfl (hb hby d15_5) k) ?_
  show Run p e below s _ _ _ (s₁.setTop (mkF m 6 #[.val (.ref a), .val (.ref a), .unset] [(.int (1 : Int32))]))
  exact Run.retN hS (by first | exact Nat.le_refl _ | (rw [e0]; exact (Nat.zero_le _))) X0 hx hret (t := .boolean) (by simp) hlk (hb hby d15_6) (by first | (rw [e0]; exact ⟨rfl, N0, rfl⟩) | exact ⟨rfl, N0, rfl⟩) (by decide) (by decide)
theorem pd_10 : parseMethodDescriptor "(ICCC)Ljava/lang/String;" = some ⟨[.int, .char, .char, .char], some (.object "java/lang/String")⟩ := by decide +kernel
theorem pd_11 : parseMethodDescriptor "(Ljava/lang/String;)Ljava/lang/String;" = some ⟨[(.object "java/lang/String")], some (.object "java/lang/String")⟩ := by decide +kernel
theorem pd_12 : parseMethodDescriptor "(Ljava/lang/Object;)Z" = some ⟨[(.object "java/lang/Object")], some .boolean⟩ := by decide +kernel
theorem pn_0 : plainName "com/example/humble_issuer/humbleissuer/web/QueryParametersLeftOutIfEmptyPinLaw" = true := by first | (simp [plainName, overriddenIn]; done) | decide +kernel
set_option maxRecDepth 65536 in
set_option maxHeartbeats 40000000 in
theorem rm0 (l : Launch) (Z : State) (a0 : Array Value) (hw : ∀ d ∈ tables_1, d.before a0 Z = true) (kz : Int32) (xa : Int32) (xb : Int32) (xc : Int32) (cs : Int32) (h0 : Heap) (n0 : Nat) (Z0 : n0 ≤ h0.size) (OL : Old Z n0 h0) (SC : Sta Z Z.heap "java/lang/String" "COMPACT_STRINGS" "Z" (.int cs)) (hcs : ¬ cs = 0) (SA : Sta Z Z.heap "java/lang/StringUTF16" "$assertionsDisabled" "Z" (.int 1)) (SH : Sta Z Z.heap "java/lang/StringUTF16" "HI_BYTE_SHIFT" "I" (.int 0)) (SL : Sta Z Z.heap "java/lang/StringUTF16" "LO_BYTE_SHIFT" "I" (.int 8)) (hH : Jvm.Lit.constHeld Z "java/lang/String" 7) (hcw : Jvm.Lit.compactW.before a0 Z = true) :
    Con l x code maxLocals ret room_1 Z #[(.int kz), (.int xa), (.int xb), (.int xc)] h0 (fun vm => IB Z vm []) (fun v h L vm => v = some (.int 1) ∧ Fr n0 L) := by
  refine Con.mk (plainFor_of_name pn_0) (fun m => show entryFrame m #[(.int kz), (.int xa), (.int xb), (.int xc)] maxLocals = mkF m 0 #[.val (.int kz), .val (.int xa), .val (.int xb), .val (.int xc), .unset, .unset, .unset, .unset, .unset, .unset, .unset] [] by first | (simp [entryFrame, mkF, argsToLocals, Value.category, maxLocals]; done) | rfl) ?_
  intro p e s m below meth c s₁ vm0 hx hby hml hown hnm hret hlk hZ X0 e0 hS hs0 hP0
  have hml : c.maxLocals = 11 := hml
  have N0 := Fr.nil n0
  show Run p e below s _ _ _ (s₁.setTop (mkF m 0 #[.val (.int kz), .val (.int xa), .val (.int xb), .val (.int xc), .unset, .unset, .unset, .unset, .unset, .unset, .unset] []))
  refine Run.pre (fun _ k => XS.iloadN X0.here hx rfl (hb hby at_0) rfl  k) ?_
  show Run p e below s _ _ _ (s₁.setTop (mkF m 1 #[.val (.int kz), .val (.int xa), .val (.int xb), .val (.int xc), .unset, .unset, .unset, .unset, .unset, .unset, .unset] [(.int kz)]))
  refine Run.pre (fun _ k => XS.iconst X0.here hx rfl (hb hby at_1) k) ?_
  show Run p e below s _ _ _ (s₁.setTop (mkF m 2 #[.val (.int kz), .val (.int xa), .val (.int xb), .val (.int xc), .unset, .unset, .unset, .unset, .unset, .unset, .unset] [(.int (4 : Int32)), (.int kz)]))
  refine Run.pre (fun _ k => XS.iand X0.here hx rfl (hb hby at_2) rfl k) ?_
  show Run p e below s _ _ _ (s₁.setTop (mkF m 3 #[.val (.int kz), .val (.int xa), .val (.int xb), .val (.int xc), .unset, .unset, .unset, .unset, .unset, .unset, .unset] [(.int (kz &&& (4 : Int32)))]))
  by_cases hc344 : (kz &&& (4 : Int32)) = (0 : Int32)
  · skip
    refine Run.pre (fun _ k => XS.ifYes X0.here hx rfl (pc0 := 3) (pc' := 10) rfl (hb hby at_3) rfl ((if0 _ _).trans (teq (hc344 : (kz &&& (4 : Int32)) = (0 : Int32))).1) (by decide) (by decide) k) ?_
    show Run p e below s _ _ _ (s₁.setTop (mkF m 10 #[.val (.int kz), .val (.int xa), .val (.int xb), .val (.int xc), .unset, .unset, .unset, .unset, .unset, .unset, .unset] []))
    refine Run.pre (fun _ k => XS.iconst X0.here hx rfl (hb hby at_10) k) ?_
    show Run p e below s _ _ _ (s₁.setTop (mkF m 11 #[.val (.int kz), .val (.int xa), .val (.int xb), .val (.int xc), .unset, .unset, .unset, .unset, .unset, .unset, .unset] [(.int (0 : Int32))]))
    refine Run.pre (fun _ k => XS.istore X0.here hx rfl (hb hby at_11) rfl (l' := #[.val (.int kz), .val (.int xa), .val (.int xb), .val (.int xc), .val (.int (0 : Int32)), .unset, .unset, .unset, .unset, .unset, .unset]) rfl k) ?_
    show Run p e below s _ _ _ (s₁.setTop (mkF m 13 #[.val (.int kz), .val (.int xa), .val (.int xb), .val (.int xc), .val (.int (0 : Int32)), .unset, .unset, .unset, .unset, .unset, .unset] []))
    refine Run.pre (fun _ k => XS.iloadN X0.here hx rfl (hb hby at_13) rfl  k) ?_
    show Run p e below s _ _ _ (s₁.setTop (mkF m 14 #[.val (.int kz), .val (.int xa), .val (.int xb), .val (.int xc), .val (.int (0 : Int32)), .unset, .unset, .unset, .unset, .unset, .unset] [(.int kz)]))
    refine Run.pre (fun _ k => XS.iconst X0.here hx rfl (hb hby at_14) k) ?_
    show Run p e below s _ _ _ (s₁.setTop (mkF m 15 #[.val (.int kz), .val (.int xa), .val (.int xb), .val (.int xc), .val (.int (0 : Int32)), .unset, .unset, .unset, .unset, .unset, .unset] [(.int (3 : Int32)), (.int kz)]))
    refine Run.pre (fun _ k => XS.iand X0.here hx rfl (hb hby at_15) rfl k) ?_
    show Run p e below s _ _ _ (s₁.setTop (mkF m 16 #[.val (.int kz), .val (.int xa), .val (.int xb), .val (.int xc), .val (.int (0 : Int32)), .unset, .unset, .unset, .unset, .unset, .unset] [(.int (kz &&& (3 : Int32)))]))
    refine Run.pre (fun _ k => XS.istore X0.here hx rfl (hb hby at_16) rfl (l' := #[.val (.int kz), .val (.int xa), .val (.int xb), .val (.int xc), .val (.int (0 : Int32)), .val (.int (kz &&& (3 : Int32))), .unset, .unset, .unset, .unset, .unset]) rfl k) ?_
    show Run p e below s _ _ _ (s₁.setTop (mkF m 18 #[.val (.int kz), .val (.int xa), .val (.int xb), .val (.int xc), .val (.int (0 : Int32)), .val (.int (kz &&& (3 : Int32))), .unset, .unset, .unset, .unset, .unset] []))
    rcases own_and3 kz with hn | hn | hn | hn
    · rw [hn]
      show Run p e below s _ _ _ (s₁.setTop (mkF m 18 #[.val (.int kz), .val (.int xa), .val (.int xb), .val (.int xc), .val (.int (0 : Int32)), .val (.int (0 : Int32)), .unset, .unset, .unset, .unset, .unset] []))
      refine Run.pre (fun _ k => XS.iloadN X0.here hx rfl (hb hby at_18) rfl  k) ?_
      show Run p e below s _ _ _ (s₁.setTop (mkF m 19 #[.val (.int kz), .val (.int xa), .val (.int xb), .val (.int xc), .val (.int (0 : Int32)), .val (.int (0 : Int32)), .unset, .unset, .unset, .unset, .unset] [(.int xa)]))
      refine Run.pre (X0.ldcInt hx hown (mvT hZ (hw _ (List.mem_of_getElem? (i := 0) rfl))) (g := (mkF m 19 #[.val (.int kz), .val (.int xa), .val (.int xb), .val (.int xc), .val (.int (0 : Int32)), .val (.int (0 : Int32)), .unset, .unset, .unset, .unset, .unset] [(.int xa)])) rfl (hb hby at_19)) ?_
      show Run p e below s _ _ _ (s₁.setTop (mkF m 21 #[.val (.int kz), .val (.int xa), .val (.int xb), .val (.int xc), .val (.int (0 : Int32)), .val (.int (0 : Int32)), .unset, .unset, .unset, .unset, .unset] [(.int (65535 : Int32)), (.int xa)]))
      refine Run.pre (fun _ k => XS.iand X0.here hx rfl (hb hby at_21) rfl k) ?_
      show Run p e below s _ _ _ (s₁.setTop (mkF m 22 #[.val (.int kz), .val (.int xa), .val (.int xb), .val (.int xc), .val (.int (0 : Int32)), .val (.int (0 : Int32)), .unset, .unset, .unset, .unset, .unset] [(.int (xa &&& (65535 : Int32)))]))
      refine Run.pre (fun _ k => XS.i2c X0.here hx rfl (hb hby at_22) rfl k) ?_
      show Run p e below s _ _ _ (s₁.setTop (mkF m 23 #[.val (.int kz), .val (.int xa), .val (.int xb), .val (.int xc), .val (.int (0 : Int32)), .val (.int (0 : Int32)), .unset, .unset, .unset, .unset, .unset] [(.int ((xa &&& (65535 : Int32)).toUInt32.toUInt16.toUInt32.toInt32))]))
      refine Run.pre (fun _ k => XS.istore X0.here hx rfl (hb hby at_23) rfl (l' := #[.val (.int kz), .val (.int xa), .val (.int xb), .val (.int xc), .val (.int (0 : Int32)), .val (.int (0 : Int32)), .val (.int ((xa &&& (65535 : Int32)).toUInt32.toUInt16.toUInt32.toInt32)), .unset, .unset, .unset, .unset]) rfl k) ?_
      show Run p e below s _ _ _ (s₁.setTop (mkF m 25 #[.val (.int kz), .val (.int xa), .val (.int xb), .val (.int xc), .val (.int (0 : Int32)), .val (.int (0 : Int32)), .val (.int ((xa &&& (65535 : Int32)).toUInt32.toUInt16.toUInt32.toInt32)), .unset, .unset, .unset, .unset] []))
      refine Run.pre (fun _ k => XS.iloadN X0.here hx rfl (hb hby at_25) rfl  k) ?_
      show Run p e below s _ _ _ (s₁.setTop (mkF m 26 #[.val (.int kz), .val (.int xa), .val (.int xb), .val (.int xc), .val (.int (0 : Int32)), .val (.int (0 : Int32)), .val (.int ((xa &&& (65535 : Int32)).toUInt32.toUInt16.toUInt32.toInt32)), .unset, .unset, .unset, .unset] [(.int xb)]))
      refine Run.pre (X0.ldcInt hx hown (mvT hZ (hw _ (List.mem_of_getElem? (i := 0) rfl))) (g := (mkF m 26 #[.val (.int kz), .val (.int xa), .val (.int xb), .val (.int xc), .val (.int (0 : Int32)), .val (.int (0 : Int32)), .val (.int ((xa &&& (65535 : Int32)).toUInt32.toUInt16.toUInt32.toInt32)), .unset, .unset, .unset, .unset] [(.int xb)])) rfl (hb hby at_26)) ?_
      show Run p e below s _ _ _ (s₁.setTop (mkF m 28 #[.val (.int kz), .val (.int xa), .val (.int xb), .val (.int xc), .val (.int (0 : Int32)), .val (.int (0 : Int32)), .val (.int ((xa &&& (65535 : Int32)).toUInt32.toUInt16.toUInt32.toInt32)), .unset, .unset, .unset, .unset] [(.int (65535 : Int32)), (.int xb)]))
      refine Run.pre (fun _ k => XS.iand X0.here hx rfl (hb hby at_28) rfl k) ?_
      show Run p e below s _ _ _ (s₁.setTop (mkF m 29 #[.val (.int kz), .val (.int xa), .val (.int xb), .val (.int xc), .val (.int (0 : Int32)), .val (.int (0 : Int32)), .val (.int ((xa &&& (65535 : Int32)).toUInt32.toUInt16.toUInt32.toInt32)), .unset, .unset, .unset, .unset] [(.int (xb &&& (65535 : Int32)))]))
      refine Run.pre (fun _ k => XS.i2c X0.here hx rfl (hb hby at_29) rfl k) ?_
      show Run p e below s _ _ _ (s₁.setTop (mkF m 30 #[.val (.int kz), .val (.int xa), .val (.int xb), .val (.int xc), .val (.int (0 : Int32)), .val (.int (0 : Int32)), .val (.int ((xa &&& (65535 : Int32)).toUInt32.toUInt16.toUInt32.toInt32)), .unset, .unset, .unset, .unset] [(.int ((xb &&& (65535 : Int32)).toUInt32.toUInt16.toUInt32.toInt32))]))
      refine Run.pre (fun _ k => XS.istore X0.here hx rfl (hb hby at_30) rfl (l' := #[.val (.int kz), .val (.int xa), .val (.int xb), .val (.int xc), .val (.int (0 : Int32)), .val (.int (0 : Int32)), .val (.int ((xa &&& (65535 : Int32)).toUInt32.toUInt16.toUInt32.toInt32)), .val (.int ((xb &&& (65535 : Int32)).toUInt32.toUInt16.toUInt32.toInt32)), .unset, .unset, .unset]) rfl k) ?_
      show Run p e below s _ _ _ (s₁.setTop (mkF m 32 #[.val (.int kz), .val (.int xa), .val (.int xb), .val (.int xc), .val (.int (0 : Int32)), .val (.int (0 : Int32)), .val (.int ((xa &&& (65535 : Int32)).toUInt32.toUInt16.toUInt32.toInt32)), .val (.int ((xb &&& (65535 : Int32)).toUInt32.toUInt16.toUInt32.toInt32)), .unset, .unset, .unset] []))
      refine Run.pre (fun _ k => XS.iloadN X0.here hx rfl (hb hby at_32) rfl  k) ?_
      show Run p e below s _ _ _ (s₁.setTop (mkF m 33 #[.val (.int kz), .val (.int xa), .val (.int xb), .val (.int xc), .val (.int (0 : Int32)), .val (.int (0 : Int32)), .val (.int ((xa &&& (65535 : Int32)).toUInt32.toUInt16.toUInt32.toInt32)), .val (.int ((xb &&& (65535 : Int32)).toUInt32.toUInt16.toUInt32.toInt32)), .unset, .unset, .unset] [(.int xc)]))
      refine Run.pre (X0.ldcInt hx hown (mvT hZ (hw _ (List.mem_of_getElem? (i := 0) rfl))) (g := (mkF m 33 #[.val (.int kz), .val (.int xa), .val (.int xb), .val (.int xc), .val (.int (0 : Int32)), .val (.int (0 : Int32)), .val (.int ((xa &&& (65535 : Int32)).toUInt32.toUInt16.toUInt32.toInt32)), .val (.int ((xb &&& (65535 : Int32)).toUInt32.toUInt16.toUInt32.toInt32)), .unset, .unset, .unset] [(.int xc)])) rfl (hb hby at_33)) ?_
      show Run p e below s _ _ _ (s₁.setTop (mkF m 35 #[.val (.int kz), .val (.int xa), .val (.int xb), .val (.int xc), .val (.int (0 : Int32)), .val (.int (0 : Int32)), .val (.int ((xa &&& (65535 : Int32)).toUInt32.toUInt16.toUInt32.toInt32)), .val (.int ((xb &&& (65535 : Int32)).toUInt32.toUInt16.toUInt32.toInt32)), .unset, .unset, .unset] [(.int (65535 : Int32)), (.int xc)]))
      refine Run.pre (fun _ k => XS.iand X0.here hx rfl (hb hby at_35) rfl k) ?_
      show Run p e below s _ _ _ (s₁.setTop (mkF m 36 #[.val (.int kz), .val (.int xa), .val (.int xb), .val (.int xc), .val (.int (0 : Int32)), .val (.int (0 : Int32)), .val (.int ((xa &&& (65535 : Int32)).toUInt32.toUInt16.toUInt32.toInt32)), .val (.int ((xb &&& (65535 : Int32)).toUInt32.toUInt16.toUInt32.toInt32)), .unset, .unset, .unset] [(.int (xc &&& (65535 : Int32)))]))
      refine Run.pre (fun _ k => XS.i2c X0.here hx rfl (hb hby at_36) rfl k) ?_
      show Run p e below s _ _ _ (s₁.setTop (mkF m 37 #[.val (.int kz), .val (.int xa), .val (.int xb), .val (.int xc), .val (.int (0 : Int32)), .val (.int (0 : Int32)), .val (.int ((xa &&& (65535 : Int32)).toUInt32.toUInt16.toUInt32.toInt32)), .val (.int ((xb &&& (65535 : Int32)).toUInt32.toUInt16.toUInt32.toInt32)), .unset, .unset, .unset] [(.int ((xc &&& (65535 : Int32)).toUInt32.toUInt16.toUInt32.toInt32))]))
      refine Run.pre (fun _ k => XS.istore X0.here hx rfl (hb hby at_37) rfl (l' := #[.val (.int kz), .val (.int xa), .val (.int xb), .val (.int xc), .val (.int (0 : Int32)), .val (.int (0 : Int32)), .val (.int ((xa &&& (65535 : Int32)).toUInt32.toUInt16.toUInt32.toInt32)), .val (.int ((xb &&& (65535 : Int32)).toUInt32.toUInt16.toUInt32.toInt32)), .val (.int ((xc &&& (65535 : Int32)).toUInt32.toUInt16.toUInt32.toInt32)), .unset, .unset]) rfl k) ?_
      show Run p e below s _ _ _ (s₁.setTop (mkF m 39 #[.val (.int kz), .val (.int xa), .val (.int xb), .val (.int xc), .val (.int (0 : Int32)), .val (.int (0 : Int32)), .val (.int ((xa &&& (65535 : Int32)).toUInt32.toUInt16.toUInt32.toInt32)), .val (.int ((xb &&& (65535 : Int32)).toUInt32.toUInt16.toUInt32.toInt32)), .val (.int ((xc &&& (65535 : Int32)).toUInt32.toUInt16.toUInt32.toInt32)), .unset, .unset] []))
      refine Run.pre (fun _ k => XS.iload X0.here hx rfl (hb hby at_39) rfl  k) ?_
      show Run p e below s _ _ _ (s₁.setTop (mkF m 41 #[.val (.int kz), .val (.int xa), .val (.int xb), .val (.int xc), .val (.int (0 : Int32)), .val (.int (0 : Int32)), .val (.int ((xa &&& (65535 : Int32)).toUInt32.toUInt16.toUInt32.toInt32)), .val (.int ((xb &&& (65535 : Int32)).toUInt32.toUInt16.toUInt32.toInt32)), .val (.int ((xc &&& (65535 : Int32)).toUInt32.toUInt16.toUInt32.toInt32)), .unset, .unset] [(.int (0 : Int32))]))
      refine Run.pre (fun _ k => XS.ifYes X0.here hx rfl (pc0 := 41) (pc' := 48) rfl (hb hby at_41) rfl ((if0 _ _).trans (teq ((by decide) : (0 : Int32) = (0 : Int32))).1) (by decide) (by decide) k) ?_
      show Run p e below s _ _ _ (s₁.setTop (mkF m 48 #[.val (.int kz), .val (.int xa), .val (.int xb), .val (.int xc), .val (.int (0 : Int32)), .val (.int (0 : Int32)), .val (.int ((xa &&& (65535 : Int32)).toUInt32.toUInt16.toUInt32.toInt32)), .val (.int ((xb &&& (65535 : Int32)).toUInt32.toUInt16.toUInt32.toInt32)), .val (.int ((xc &&& (65535 : Int32)).toUInt32.toUInt16.toUInt32.toInt32)), .unset, .unset] []))
      refine Run.pre (fun _ k => XS.iload X0.here hx rfl (hb hby at_48) rfl  k) ?_
      show Run p e below s _ _ _ (s₁.setTop (mkF m 50 #[.val (.int kz), .val (.int xa), .val (.int xb), .val (.int xc), .val (.int (0 : Int32)), .val (.int (0 : Int32)), .val (.int ((xa &&& (65535 : Int32)).toUInt32.toUInt16.toUInt32.toInt32)), .val (.int ((xb &&& (65535 : Int32)).toUInt32.toUInt16.toUInt32.toInt32)), .val (.int ((xc &&& (65535 : Int32)).toUInt32.toUInt16.toUInt32.toInt32)), .unset, .unset] [(.int (0 : Int32))]))
      refine Run.pre (fun _ k => XS.iload X0.here hx rfl (hb hby at_50) rfl  k) ?_
      show Run p e below s _ _ _ (s₁.setTop (mkF m 52 #[.val (.int kz), .val (.int xa), .val (.int xb), .val (.int xc), .val (.int (0 : Int32)), .val (.int (0 : Int32)), .val (.int ((xa &&& (65535 : Int32)).toUInt32.toUInt16.toUInt32.toInt32)), .val (.int ((xb &&& (65535 : Int32)).toUInt32.toUInt16.toUInt32.toInt32)), .val (.int ((xc &&& (65535 : Int32)).toUInt32.toUInt16.toUInt32.toInt32)), .unset, .unset] [(.int ((xa &&& (65535 : Int32)).toUInt32.toUInt16.toUInt32.toInt32)), (.int (0 : Int32))]))
      refine Run.pre (fun _ k => XS.iload X0.here hx rfl (hb hby at_52) rfl  k) ?_
      show Run p e below s _ _ _ (s₁.setTop (mkF m 54 #[.val (.int kz), .val (.int xa), .val (.int xb), .val (.int xc), .val (.int (0 : Int32)), .val (.int (0 : Int32)), .val (.int ((xa &&& (65535 : Int32)).toUInt32.toUInt16.toUInt32.toInt32)), .val (.int ((xb &&& (65535 : Int32)).toUInt32.toUInt16.toUInt32.toInt32)), .val (.int ((xc &&& (65535 : Int32)).toUInt32.toUInt16.toUInt32.toInt32)), .unset, .unset] [(.int ((xb &&& (65535 : Int32)).toUInt32.toUInt16.toUInt32.toInt32)), (.int ((xa &&& (65535 : Int32)).toUInt32.toUInt16.toUInt32.toInt32)), (.int (0 : Int32))]))
      refine Run.pre (fun _ k => XS.iload X0.here hx rfl (hb hby at_54) rfl  k) ?_
      show Run p e below s _ _ _ (s₁.setTop (mkF m 56 #[.val (.int kz), .val (.int xa), .val (.int xb), .val (.int xc), .val (.int (0 : Int32)), .val (.int (0 : Int32)), .val (.int ((xa &&& (65535 : Int32)).toUInt32.toUInt16.toUInt32.toInt32)), .val (.int ((xb &&& (65535 : Int32)).toUInt32.toUInt16.toUInt32.toInt32)), .val (.int ((xc &&& (65535 : Int32)).toUInt32.toUInt16.toUInt32.toInt32)), .unset, .unset] [(.int ((xc &&& (65535 : Int32)).toUInt32.toUInt16.toUInt32.toInt32)), (.int ((xb &&& (65535 : Int32)).toUInt32.toUInt16.toUInt32.toInt32)), (.int ((xa &&& (65535 : Int32)).toUInt32.toUInt16.toUInt32.toInt32)), (.int (0 : Int32))]))
      refine Run.callS hS (by first | exact Nat.le_refl _ | (rw [e0]; exact (Nat.zero_le _))) X0 hx hZ (y := (⟨"com/example/humble_issuer/humbleissuer/web/QueryParametersLeftOutIfEmptyPinLaw", "build", "(ICCC)Ljava/lang/String;"⟩ : MethodName)) hown (hw _ (List.mem_of_getElem? (i := 1) rfl)) (hw _ (List.mem_of_getElem? (i := 2) rfl)) (hw _ (List.mem_of_getElem? (i := 3) rfl)) (hw _ (List.mem_of_getElem? (i := 4) rfl)) (by decide) (W := 0) (rmB_0 l Z a0 hw ((xa &&& (65535 : Int32)).toUInt32.toUInt16.toUInt32.toInt32) ((xb &&& (65535 : Int32)).toUInt32.toUInt16.toUInt32.toInt32) ((xc &&& (65535 : Int32)).toUInt32.toUInt16.toUInt32.toInt32) cs h0 n0 (Nat.le_trans Z0 (Keep.refl h0 []).1) OL SC hcs SA SH SL hH hcw) e0 (by decide) (by decide) (by decide) (by decide) (fun _ q => own_ibStays hP0 q) (g := (mkF m 56 #[.val (.int kz), .val (.int xa), .val (.int xb), .val (.int xc), .val (.int (0 : Int32)), .val (.int (0 : Int32)), .val (.int ((xa &&& (65535 : Int32)).toUInt32.toUInt16.toUInt32.toInt32)), .val (.int ((xb &&& (65535 : Int32)).toUInt32.toUInt16.toUInt32.toInt32)), .val (.int ((xc &&& (65535 : Int32)).toUInt32.toUInt16.toUInt32.toInt32)), .unset, .unset] [(.int ((xc &&& (65535 : Int32)).toUInt32.toUInt16.toUInt32.toInt32)), (.int ((xb &&& (65535 : Int32)).toUInt32.toUInt16.toUInt32.toInt32)), (.int ((xa &&& (65535 : Int32)).toUInt32.toUInt16.toUInt32.toInt32)), (.int (0 : Int32))])) rfl (by rw [hml]; rfl) (argsL := [(.int (0 : Int32)), (.int ((xa &&& (65535 : Int32)).toUInt32.toUInt16.toUInt32.toInt32)), (.int ((xb &&& (65535 : Int32)).toUInt32.toUInt16.toUInt32.toInt32)), (.int ((xc &&& (65535 : Int32)).toUInt32.toUInt16.toUInt32.toInt32))]) (rest := []) (lenOf pd_10 rfl) rfl (by show 2 * 0 + _ ≤ _; exact Nat.le_of_eq rfl) (hb hby at_56) ?_
      intro v345 T345 L345 X345 hS hZ hown hV345 hQ345
      obtain ⟨o345, b345, k345, z345, vs345, rfl, Nq345, Kc345, sz345, eo345, fv345, vb345, hz345⟩ := hQ345
      have N345 := Fr.app N0 Nq345
      have K345 : Keep h0 T345.heap [] := (Keep.refl h0 []).trans Kc345 all0
      have sz_o345 : h0.size ≤ o345 := Nat.le_trans (Keep.refl h0 []).1 sz345
      have gn_o345 : n0 ≤ o345 := Nat.le_trans Z0 sz_o345
      show Run p e below s _ _ _ (T345.setTop (mkF m 59 #[.val (.int kz), .val (.int xa), .val (.int xb), .val (.int xc), .val (.int (0 : Int32)), .val (.int (0 : Int32)), .val (.int ((xa &&& (65535 : Int32)).toUInt32.toUInt16.toUInt32.toInt32)), .val (.int ((xb &&& (65535 : Int32)).toUInt32.toUInt16.toUInt32.toInt32)), .val (.int ((xc &&& (65535 : Int32)).toUInt32.toUInt16.toUInt32.toInt32)), .unset, .unset] [(.ref o345)]))
      refine Run.pre (fun _ k => XS.astore X345.here hx rfl (hb hby at_59) rfl rfl (l' := #[.val (.int kz), .val (.int xa), .val (.int xb), .val (.int xc), .val (.int (0 : Int32)), .val (.int (0 : Int32)), .val (.int ((xa &&& (65535 : Int32)).toUInt32.toUInt16.toUInt32.toInt32)), .val (.int ((xb &&& (65535 : Int32)).toUInt32.toUInt16.toUInt32.toInt32)), .val (.int ((xc &&& (65535 : Int32)).toUInt32.toUInt16.toUInt32.toInt32)), .val (.ref o345), .unset]) rfl k) ?_
      show Run p e below s _ _ _ (T345.setTop (mkF m 61 #[.val (.int kz), .val (.int xa), .val (.int xb), .val (.int xc), .val (.int (0 : Int32)), .val (.int (0 : Int32)), .val (.int ((xa &&& (65535 : Int32)).toUInt32.toUInt16.toUInt32.toInt32)), .val (.int ((xb &&& (65535 : Int32)).toUInt32.toUInt16.toUInt32.toInt32)), .val (.int ((xc &&& (65535 : Int32)).toUInt32.toUInt16.toUInt32.toInt32)), .val (.ref o345), .unset] []))
      refine Run.pre (fun _ k => XS.aload X345.here hx rfl (hb hby at_61) rfl rfl k) ?_
      show Run p e below s _ _ _ (T345.setTop (mkF m 63 #[.val (.int kz), .val (.int xa), .val (.int xb), .val (.int xc), .val (.int (0 : Int32)), .val (.int (0 : Int32)), .val (.int ((xa &&& (65535 : Int32)).toUInt32.toUInt16.toUInt32.toInt32)), .val (.int ((xb &&& (65535 : Int32)).toUInt32.toUInt16.toUInt32.toInt32)), .val (.int ((xc &&& (65535 : Int32)).toUInt32.toUInt16.toUInt32.toInt32)), .val (.ref o345), .unset] [(.ref o345)]))
      refine Run.callS hS (Nat.le_refl _) X345 hx hZ (y := (⟨"com/example/humble_issuer/humbleissuer/web/QueryParameters", "leftOutIfEmpty", "(Ljava/lang/String;)Ljava/lang/String;"⟩ : MethodName)) hown (hw _ (List.mem_of_getElem? (i := 27) rfl)) (hw _ (List.mem_of_getElem? (i := 28) rfl)) (hw _ (List.mem_of_getElem? (i := 29) rfl)) (hw _ (List.mem_of_getElem? (i := 30) rfl)) (by decide) (W := 0) (rmL_e l Z a0 hw o345 b345 k345 z345 vs345 T345.heap n0 (Nat.le_trans Z0 K345.1) fv345 vb345 eo345 hz345) rfl (by decide) (by decide) (by decide) (by decide) (fun _ _ => trivial) (g := (mkF m 63 #[.val (.int kz), .val (.int xa), .val (.int xb), .val (.int xc), .val (.int (0 : Int32)), .val (.int (0 : Int32)), .val (.int ((xa &&& (65535 : Int32)).toUInt32.toUInt16.toUInt32.toInt32)), .val (.int ((xb &&& (65535 : Int32)).toUInt32.toUInt16.toUInt32.toInt32)), .val (.int ((xc &&& (65535 : Int32)).toUInt32.toUInt16.toUInt32.toInt32)), .val (.ref o345), .unset] [(.ref o345)])) rfl (by rw [hml]; rfl) (argsL := [(.ref o345)]) (rest := []) (lenOf pd_11 rfl) rfl (by show 2 * 0 + _ ≤ _; exact Nat.le_of_eq rfl) (hb hby at_63) ?_
      intro v346 T346 L346 X346 hS hZ hown hV346 hQ346
      obtain ⟨rfl, Nq346, he346⟩ := hQ346
      have N346 := Fr.app N345 Nq346
      have e346 : T346.heap = T345.heap := he346
      show Run p e below s _ _ _ (T346.setTop (mkF m 66 #[.val (.int kz), .val (.int xa), .val (.int xb), .val (.int xc), .val (.int (0 : Int32)), .val (.int (0 : Int32)), .val (.int ((xa &&& (65535 : Int32)).toUInt32.toUInt16.toUInt32.toInt32)), .val (.int ((xb &&& (65535 : Int32)).toUInt32.toUInt16.toUInt32.toInt32)), .val (.int ((xc &&& (65535 : Int32)).toUInt32.toUInt16.toUInt32.toInt32)), .val (.ref o345), .unset] [.null]))
      refine Run.pre (fun _ k => XS.astore X346.here hx rfl (hb hby at_66) rfl rfl (l' := #[.val (.int kz), .val (.int xa), .val (.int xb), .val (.int xc), .val (.int (0 : Int32)), .val (.int (0 : Int32)), .val (.int ((xa &&& (65535 : Int32)).toUInt32.toUInt16.toUInt32.toInt32)), .val (.int ((xb &&& (65535 : Int32)).toUInt32.toUInt16.toUInt32.toInt32)), .val (.int ((xc &&& (65535 : Int32)).toUInt32.toUInt16.toUInt32.toInt32)), .val (.ref o345), .val .null]) rfl k) ?_
      show Run p e below s _ _ _ (T346.setTop (mkF m 68 #[.val (.int kz), .val (.int xa), .val (.int xb), .val (.int xc), .val (.int (0 : Int32)), .val (.int (0 : Int32)), .val (.int ((xa &&& (65535 : Int32)).toUInt32.toUInt16.toUInt32.toInt32)), .val (.int ((xb &&& (65535 : Int32)).toUInt32.toUInt16.toUInt32.toInt32)), .val (.int ((xc &&& (65535 : Int32)).toUInt32.toUInt16.toUInt32.toInt32)), .val (.ref o345), .val .null] []))
      refine Run.pre (fun _ k => XS.iload X346.here hx rfl (hb hby at_68) rfl  k) ?_
      show Run p e below s _ _ _ (T346.setTop (mkF m 70 #[.val (.int kz), .val (.int xa), .val (.int xb), .val (.int xc), .val (.int (0 : Int32)), .val (.int (0 : Int32)), .val (.int ((xa &&& (65535 : Int32)).toUInt32.toUInt16.toUInt32.toInt32)), .val (.int ((xb &&& (65535 : Int32)).toUInt32.toUInt16.toUInt32.toInt32)), .val (.int ((xc &&& (65535 : Int32)).toUInt32.toUInt16.toUInt32.toInt32)), .val (.ref o345), .val .null] [(.int (0 : Int32))]))
      refine Run.pre (fun _ k => XS.ifNo X346.here hx rfl (hb hby at_70) rfl ((if0 _ _).trans (teq ((by decide) : (0 : Int32) = (0 : Int32))).2) k) ?_
      show Run p e below s _ _ _ (T346.setTop (mkF m 73 #[.val (.int kz), .val (.int xa), .val (.int xb), .val (.int xc), .val (.int (0 : Int32)), .val (.int (0 : Int32)), .val (.int ((xa &&& (65535 : Int32)).toUInt32.toUInt16.toUInt32.toInt32)), .val (.int ((xb &&& (65535 : Int32)).toUInt32.toUInt16.toUInt32.toInt32)), .val (.int ((xc &&& (65535 : Int32)).toUInt32.toUInt16.toUInt32.toInt32)), .val (.ref o345), .val .null] []))
      refine Run.pre (fun _ k => XS.iload X346.here hx rfl (hb hby at_73) rfl  k) ?_
      show Run p e below s _ _ _ (T346.setTop (mkF m 75 #[.val (.int kz), .val (.int xa), .val (.int xb), .val (.int xc), .val (.int (0 : Int32)), .val (.int (0 : Int32)), .val (.int ((xa &&& (65535 : Int32)).toUInt32.toUInt16.toUInt32.toInt32)), .val (.int ((xb &&& (65535 : Int32)).toUInt32.toUInt16.toUInt32.toInt32)), .val (.int ((xc &&& (65535 : Int32)).toUInt32.toUInt16.toUInt32.toInt32)), .val (.ref o345), .val .null] [(.int (0 : Int32))]))
      refine Run.pre (fun _ k => XS.ifNo X346.here hx rfl (hb hby at_75) rfl ((if0 _ _).trans (teq ((by decide) : (0 : Int32) = (0 : Int32))).2) k) ?_
      show Run p e below s _ _ _ (T346.setTop (mkF m 78 #[.val (.int kz), .val (.int xa), .val (.int xb), .val (.int xc), .val (.int (0 : Int32)), .val (.int (0 : Int32)), .val (.int ((xa &&& (65535 : Int32)).toUInt32.toUInt16.toUInt32.toInt32)), .val (.int ((xb &&& (65535 : Int32)).toUInt32.toUInt16.toUInt32.toInt32)), .val (.int ((xc &&& (65535 : Int32)).toUInt32.toUInt16.toUInt32.toInt32)), .val (.ref o345), .val .null] []))
      refine Run.pre (fun _ k => XS.aload X346.here hx rfl (hb hby at_78) rfl rfl k) ?_
      show Run p e below s _ _ _ (T346.setTop (mkF m 80 #[.val (.int kz), .val (.int xa), .val (.int xb), .val (.int xc), .val (.int (0 : Int32)), .val (.int (0 : Int32)), .val (.int ((xa &&& (65535 : Int32)).toUInt32.toUInt16.toUInt32.toInt32)), .val (.int ((xb &&& (65535 : Int32)).toUInt32.toUInt16.toUInt32.toInt32)), .val (.int ((xc &&& (65535 : Int32)).toUInt32.toUInt16.toUInt32.toInt32)), .val (.ref o345), .val .null] [.null]))
      refine Run.pre (fun _ k => XS.ifnonnullNo X346.here hx rfl (hb hby at_80) rfl k) ?_
      show Run p e below s _ _ _ (T346.setTop (mkF m 83 #[.val (.int kz), .val (.int xa), .val (.int xb), .val (.int xc), .val (.int (0 : Int32)), .val (.int (0 : Int32)), .val (.int ((xa &&& (65535 : Int32)).toUInt32.toUInt16.toUInt32.toInt32)), .val (.int ((xb &&& (65535 : Int32)).toUInt32.toUInt16.toUInt32.toInt32)), .val (.int ((xc &&& (65535 : Int32)).toUInt32.toUInt16.toUInt32.toInt32)), .val (.ref o345), .val .null] []))
      refine Run.pre (fun _ k => XS.iconst X346.here hx rfl (hb hby at_83) k) ?_
      show Run p e below s _ _ _ (T346.setTop (mkF m 84 #[.val (.int kz), .val (.int xa), .val (.int xb), .val (.int xc), .val (.int (0 : Int32)), .val (.int (0 : Int32)), .val (.int ((xa &&& (65535 : Int32)).toUInt32.toUInt16.toUInt32.toInt32)), .val (.int ((xb &&& (65535 : Int32)).toUInt32.toUInt16.toUInt32.toInt32)), .val (.int ((xc &&& (65535 : Int32)).toUInt32.toUInt16.toUInt32.toInt32)), .val (.ref o345), .val .null] [(.int (1 : Int32))]))
      refine Run.pre (fun _ k => XS.goto X346.here hx rfl (pc0 := 84) (pc' := 88) rfl (hb hby at_84) (by decide) (by decide) k) ?_
      show Run p e below s _ _ _ (T346.setTop (mkF m 88 #[.val (.int kz), .val (.int xa), .val (.int xb), .val (.int xc), .val (.int (0 : Int32)), .val (.int (0 : Int32)), .val (.int ((xa &&& (65535 : Int32)).toUInt32.toUInt16.toUInt32.toInt32)), .val (.int ((xb &&& (65535 : Int32)).toUInt32.toUInt16.toUInt32.toInt32)), .val (.int ((xc &&& (65535 : Int32)).toUInt32.toUInt16.toUInt32.toInt32)), .val (.ref o345), .val .null] [(.int (1 : Int32))]))
      exact Run.retN hS (by first | exact Nat.le_refl _ | (rw [e346]; exact (Nat.le_of_eq (congrArg Array.size e346)))) X346 hx hret (t := .boolean) (by simp) hlk (hb hby at_88) (by first | (rw [e346]; exact ⟨rfl, N346⟩) | exact ⟨rfl, N346⟩) (by decide) (by decide)
    · rw [hn]
      show Run p e below s _ _ _ (s₁.setTop (mkF m 18 #[.val (.int kz), .val (.int xa), .val (.int xb), .val (.int xc), .val (.int (0 : Int32)), .val (.int (1 : Int32)), .unset, .unset, .unset, .unset, .unset] []))
      refine Run.pre (fun _ k => XS.iloadN X0.here hx rfl (hb hby at_18) rfl  k) ?_
      show Run p e below s _ _ _ (s₁.setTop (mkF m 19 #[.val (.int kz), .val (.int xa), .val (.int xb), .val (.int xc), .val (.int (0 : Int32)), .val (.int (1 : Int32)), .unset, .unset, .unset, .unset, .unset] [(.int xa)]))
      refine Run.pre (X0.ldcInt hx hown (mvT hZ (hw _ (List.mem_of_getElem? (i := 0) rfl))) (g := (mkF m 19 #[.val (.int kz), .val (.int xa), .val (.int xb), .val (.int xc), .val (.int (0 : Int32)), .val (.int (1 : Int32)), .unset, .unset, .unset, .unset, .unset] [(.int xa)])) rfl (hb hby at_19)) ?_
      show Run p e below s _ _ _ (s₁.setTop (mkF m 21 #[.val (.int kz), .val (.int xa), .val (.int xb), .val (.int xc), .val (.int (0 : Int32)), .val (.int (1 : Int32)), .unset, .unset, .unset, .unset, .unset] [(.int (65535 : Int32)), (.int xa)]))
      refine Run.pre (fun _ k => XS.iand X0.here hx rfl (hb hby at_21) rfl k) ?_
      show Run p e below s _ _ _ (s₁.setTop (mkF m 22 #[.val (.int kz), .val (.int xa), .val (.int xb), .val (.int xc), .val (.int (0 : Int32)), .val (.int (1 : Int32)), .unset, .unset, .unset, .unset, .unset] [(.int (xa &&& (65535 : Int32)))]))
      refine Run.pre (fun _ k => XS.i2c X0.here hx rfl (hb hby at_22) rfl k) ?_
      show Run p e below s _ _ _ (s₁.setTop (mkF m 23 #[.val (.int kz), .val (.int xa), .val (.int xb), .val (.int xc), .val (.int (0 : Int32)), .val (.int (1 : Int32)), .unset, .unset, .unset, .unset, .unset] [(.int ((xa &&& (65535 : Int32)).toUInt32.toUInt16.toUInt32.toInt32))]))
      refine Run.pre (fun _ k => XS.istore X0.here hx rfl (hb hby at_23) rfl (l' := #[.val (.int kz), .val (.int xa), .val (.int xb), .val (.int xc), .val (.int (0 : Int32)), .val (.int (1 : Int32)), .val (.int ((xa &&& (65535 : Int32)).toUInt32.toUInt16.toUInt32.toInt32)), .unset, .unset, .unset, .unset]) rfl k) ?_
      show Run p e below s _ _ _ (s₁.setTop (mkF m 25 #[.val (.int kz), .val (.int xa), .val (.int xb), .val (.int xc), .val (.int (0 : Int32)), .val (.int (1 : Int32)), .val (.int ((xa &&& (65535 : Int32)).toUInt32.toUInt16.toUInt32.toInt32)), .unset, .unset, .unset, .unset] []))
      refine Run.pre (fun _ k => XS.iloadN X0.here hx rfl (hb hby at_25) rfl  k) ?_
      show Run p e below s _ _ _ (s₁.setTop (mkF m 26 #[.val (.int kz), .val (.int xa), .val (.int xb), .val (.int xc), .val (.int (0 : Int32)), .val (.int (1 : Int32)), .val (.int ((xa &&& (65535 : Int32)).toUInt32.toUInt16.toUInt32.toInt32)), .unset, .unset, .unset, .unset] [(.int xb)]))
      refine Run.pre (X0.ldcInt hx hown (mvT hZ (hw _ (List.mem_of_getElem? (i := 0) rfl))) (g := (mkF m 26 #[.val (.int kz), .val (.int xa), .val (.int xb), .val (.int xc), .val (.int (0 : Int32)), .val (.int (1 : Int32)), .val (.int ((xa &&& (65535 : Int32)).toUInt32.toUInt16.toUInt32.toInt32)), .unset, .unset, .unset, .unset] [(.int xb)])) rfl (hb hby at_26)) ?_
      show Run p e below s _ _ _ (s₁.setTop (mkF m 28 #[.val (.int kz), .val (.int xa), .val (.int xb), .val (.int xc), .val (.int (0 : Int32)), .val (.int (1 : Int32)), .val (.int ((xa &&& (65535 : Int32)).toUInt32.toUInt16.toUInt32.toInt32)), .unset, .unset, .unset, .unset] [(.int (65535 : Int32)), (.int xb)]))
      refine Run.pre (fun _ k => XS.iand X0.here hx rfl (hb hby at_28) rfl k) ?_
      show Run p e below s _ _ _ (s₁.setTop (mkF m 29 #[.val (.int kz), .val (.int xa), .val (.int xb), .val (.int xc), .val (.int (0 : Int32)), .val (.int (1 : Int32)), .val (.int ((xa &&& (65535 : Int32)).toUInt32.toUInt16.toUInt32.toInt32)), .unset, .unset, .unset, .unset] [(.int (xb &&& (65535 : Int32)))]))
      refine Run.pre (fun _ k => XS.i2c X0.here hx rfl (hb hby at_29) rfl k) ?_
      show Run p e below s _ _ _ (s₁.setTop (mkF m 30 #[.val (.int kz), .val (.int xa), .val (.int xb), .val (.int xc), .val (.int (0 : Int32)), .val (.int (1 : Int32)), .val (.int ((xa &&& (65535 : Int32)).toUInt32.toUInt16.toUInt32.toInt32)), .unset, .unset, .unset, .unset] [(.int ((xb &&& (65535 : Int32)).toUInt32.toUInt16.toUInt32.toInt32))]))
      refine Run.pre (fun _ k => XS.istore X0.here hx rfl (hb hby at_30) rfl (l' := #[.val (.int kz), .val (.int xa), .val (.int xb), .val (.int xc), .val (.int (0 : Int32)), .val (.int (1 : Int32)), .val (.int ((xa &&& (65535 : Int32)).toUInt32.toUInt16.toUInt32.toInt32)), .val (.int ((xb &&& (65535 : Int32)).toUInt32.toUInt16.toUInt32.toInt32)), .unset, .unset, .unset]) rfl k) ?_
      show Run p e below s _ _ _ (s₁.setTop (mkF m 32 #[.val (.int kz), .val (.int xa), .val (.int xb), .val (.int xc), .val (.int (0 : Int32)), .val (.int (1 : Int32)), .val (.int ((xa &&& (65535 : Int32)).toUInt32.toUInt16.toUInt32.toInt32)), .val (.int ((xb &&& (65535 : Int32)).toUInt32.toUInt16.toUInt32.toInt32)), .unset, .unset, .unset] []))
      refine Run.pre (fun _ k => XS.iloadN X0.here hx rfl (hb hby at_32) rfl  k) ?_
      show Run p e below s _ _ _ (s₁.setTop (mkF m 33 #[.val (.int kz), .val (.int xa), .val (.int xb), .val (.int xc), .val (.int (0 : Int32)), .val (.int (1 : Int32)), .val (.int ((xa &&& (65535 : Int32)).toUInt32.toUInt16.toUInt32.toInt32)), .val (.int ((xb &&& (65535 : Int32)).toUInt32.toUInt16.toUInt32.toInt32)), .unset, .unset, .unset] [(.int xc)]))
      refine Run.pre (X0.ldcInt hx hown (mvT hZ (hw _ (List.mem_of_getElem? (i := 0) rfl))) (g := (mkF m 33 #[.val (.int kz), .val (.int xa), .val (.int xb), .val (.int xc), .val (.int (0 : Int32)), .val (.int (1 : Int32)), .val (.int ((xa &&& (65535 : Int32)).toUInt32.toUInt16.toUInt32.toInt32)), .val (.int ((xb &&& (65535 : Int32)).toUInt32.toUInt16.toUInt32.toInt32)), .unset, .unset, .unset] [(.int xc)])) rfl (hb hby at_33)) ?_
      show Run p e below s _ _ _ (s₁.setTop (mkF m 35 #[.val (.int kz), .val (.int xa), .val (.int xb), .val (.int xc), .val (.int (0 : Int32)), .val (.int (1 : Int32)), .val (.int ((xa &&& (65535 : Int32)).toUInt32.toUInt16.toUInt32.toInt32)), .val (.int ((xb &&& (65535 : Int32)).toUInt32.toUInt16.toUInt32.toInt32)), .unset, .unset, .unset] [(.int (65535 : Int32)), (.int xc)]))
      refine Run.pre (fun _ k => XS.iand X0.here hx rfl (hb hby at_35) rfl k) ?_
      show Run p e below s _ _ _ (s₁.setTop (mkF m 36 #[.val (.int kz), .val (.int xa), .val (.int xb), .val (.int xc), .val (.int (0 : Int32)), .val (.int (1 : Int32)), .val (.int ((xa &&& (65535 : Int32)).toUInt32.toUInt16.toUInt32.toInt32)), .val (.int ((xb &&& (65535 : Int32)).toUInt32.toUInt16.toUInt32.toInt32)), .unset, .unset, .unset] [(.int (xc &&& (65535 : Int32)))]))
      refine Run.pre (fun _ k => XS.i2c X0.here hx rfl (hb hby at_36) rfl k) ?_
      show Run p e below s _ _ _ (s₁.setTop (mkF m 37 #[.val (.int kz), .val (.int xa), .val (.int xb), .val (.int xc), .val (.int (0 : Int32)), .val (.int (1 : Int32)), .val (.int ((xa &&& (65535 : Int32)).toUInt32.toUInt16.toUInt32.toInt32)), .val (.int ((xb &&& (65535 : Int32)).toUInt32.toUInt16.toUInt32.toInt32)), .unset, .unset, .unset] [(.int ((xc &&& (65535 : Int32)).toUInt32.toUInt16.toUInt32.toInt32))]))
      refine Run.pre (fun _ k => XS.istore X0.here hx rfl (hb hby at_37) rfl (l' := #[.val (.int kz), .val (.int xa), .val (.int xb), .val (.int xc), .val (.int (0 : Int32)), .val (.int (1 : Int32)), .val (.int ((xa &&& (65535 : Int32)).toUInt32.toUInt16.toUInt32.toInt32)), .val (.int ((xb &&& (65535 : Int32)).toUInt32.toUInt16.toUInt32.toInt32)), .val (.int ((xc &&& (65535 : Int32)).toUInt32.toUInt16.toUInt32.toInt32)), .unset, .unset]) rfl k) ?_
      show Run p e below s _ _ _ (s₁.setTop (mkF m 39 #[.val (.int kz), .val (.int xa), .val (.int xb), .val (.int xc), .val (.int (0 : Int32)), .val (.int (1 : Int32)), .val (.int ((xa &&& (65535 : Int32)).toUInt32.toUInt16.toUInt32.toInt32)), .val (.int ((xb &&& (65535 : Int32)).toUInt32.toUInt16.toUInt32.toInt32)), .val (.int ((xc &&& (65535 : Int32)).toUInt32.toUInt16.toUInt32.toInt32)), .unset, .unset] []))
      refine Run.pre (fun _ k => XS.iload X0.here hx rfl (hb hby at_39) rfl  k) ?_
      show Run p e below s _ _ _ (s₁.setTop (mkF m 41 #[.val (.int kz), .val (.int xa), .val (.int xb), .val (.int xc), .val (.int (0 : Int32)), .val (.int (1 : Int32)), .val (.int ((xa &&& (65535 : Int32)).toUInt32.toUInt16.toUInt32.toInt32)), .val (.int ((xb &&& (65535 : Int32)).toUInt32.toUInt16.toUInt32.toInt32)), .val (.int ((xc &&& (65535 : Int32)).toUInt32.toUInt16.toUInt32.toInt32)), .unset, .unset] [(.int (0 : Int32))]))
      refine Run.pre (fun _ k => XS.ifYes X0.here hx rfl (pc0 := 41) (pc' := 48) rfl (hb hby at_41) rfl ((if0 _ _).trans (teq ((by decide) : (0 : Int32) = (0 : Int32))).1) (by decide) (by decide) k) ?_
      show Run p e below s _ _ _ (s₁.setTop (mkF m 48 #[.val (.int kz), .val (.int xa), .val (.int xb), .val (.int xc), .val (.int (0 : Int32)), .val (.int (1 : Int32)), .val (.int ((xa &&& (65535 : Int32)).toUInt32.toUInt16.toUInt32.toInt32)), .val (.int ((xb &&& (65535 : Int32)).toUInt32.toUInt16.toUInt32.toInt32)), .val (.int ((xc &&& (65535 : Int32)).toUInt32.toUInt16.toUInt32.toInt32)), .unset, .unset] []))
      refine Run.pre (fun _ k => XS.iload X0.here hx rfl (hb hby at_48) rfl  k) ?_
      show Run p e below s _ _ _ (s₁.setTop (mkF m 50 #[.val (.int kz), .val (.int xa), .val (.int xb), .val (.int xc), .val (.int (0 : Int32)), .val (.int (1 : Int32)), .val (.int ((xa &&& (65535 : Int32)).toUInt32.toUInt16.toUInt32.toInt32)), .val (.int ((xb &&& (65535 : Int32)).toUInt32.toUInt16.toUInt32.toInt32)), .val (.int ((xc &&& (65535 : Int32)).toUInt32.toUInt16.toUInt32.toInt32)), .unset, .unset] [(.int (1 : Int32))]))
      refine Run.pre (fun _ k => XS.iload X0.here hx rfl (hb hby at_50) rfl  k) ?_
      show Run p e below s _ _ _ (s₁.setTop (mkF m 52 #[.val (.int kz), .val (.int xa), .val (.int xb), .val (.int xc), .val (.int (0 : Int32)), .val (.int (1 : Int32)), .val (.int ((xa &&& (65535 : Int32)).toUInt32.toUInt16.toUInt32.toInt32)), .val (.int ((xb &&& (65535 : Int32)).toUInt32.toUInt16.toUInt32.toInt32)), .val (.int ((xc &&& (65535 : Int32)).toUInt32.toUInt16.toUInt32.toInt32)), .unset, .unset] [(.int ((xa &&& (65535 : Int32)).toUInt32.toUInt16.toUInt32.toInt32)), (.int (1 : Int32))]))
      refine Run.pre (fun _ k => XS.iload X0.here hx rfl (hb hby at_52) rfl  k) ?_
      show Run p e below s _ _ _ (s₁.setTop (mkF m 54 #[.val (.int kz), .val (.int xa), .val (.int xb), .val (.int xc), .val (.int (0 : Int32)), .val (.int (1 : Int32)), .val (.int ((xa &&& (65535 : Int32)).toUInt32.toUInt16.toUInt32.toInt32)), .val (.int ((xb &&& (65535 : Int32)).toUInt32.toUInt16.toUInt32.toInt32)), .val (.int ((xc &&& (65535 : Int32)).toUInt32.toUInt16.toUInt32.toInt32)), .unset, .unset] [(.int ((xb &&& (65535 : Int32)).toUInt32.toUInt16.toUInt32.toInt32)), (.int ((xa &&& (65535 : Int32)).toUInt32.toUInt16.toUInt32.toInt32)), (.int (1 : Int32))]))
      refine Run.pre (fun _ k => XS.iload X0.here hx rfl (hb hby at_54) rfl  k) ?_
      show Run p e below s _ _ _ (s₁.setTop (mkF m 56 #[.val (.int kz), .val (.int xa), .val (.int xb), .val (.int xc), .val (.int (0 : Int32)), .val (.int (1 : Int32)), .val (.int ((xa &&& (65535 : Int32)).toUInt32.toUInt16.toUInt32.toInt32)), .val (.int ((xb &&& (65535 : Int32)).toUInt32.toUInt16.toUInt32.toInt32)), .val (.int ((xc &&& (65535 : Int32)).toUInt32.toUInt16.toUInt32.toInt32)), .unset, .unset] [(.int ((xc &&& (65535 : Int32)).toUInt32.toUInt16.toUInt32.toInt32)), (.int ((xb &&& (65535 : Int32)).toUInt32.toUInt16.toUInt32.toInt32)), (.int ((xa &&& (65535 : Int32)).toUInt32.toUInt16.toUInt32.toInt32)), (.int (1 : Int32))]))
      refine Run.callS hS (by first | exact Nat.le_refl _ | (rw [e0]; exact (Nat.zero_le _))) X0 hx hZ (y := (⟨"com/example/humble_issuer/humbleissuer/web/QueryParametersLeftOutIfEmptyPinLaw", "build", "(ICCC)Ljava/lang/String;"⟩ : MethodName)) hown (hw _ (List.mem_of_getElem? (i := 1) rfl)) (hw _ (List.mem_of_getElem? (i := 2) rfl)) (hw _ (List.mem_of_getElem? (i := 3) rfl)) (hw _ (List.mem_of_getElem? (i := 4) rfl)) (by decide) (W := 0) (rmB_1 l Z a0 hw ((xa &&& (65535 : Int32)).toUInt32.toUInt16.toUInt32.toInt32) ((xb &&& (65535 : Int32)).toUInt32.toUInt16.toUInt32.toInt32) ((xc &&& (65535 : Int32)).toUInt32.toUInt16.toUInt32.toInt32) cs h0 n0 (Nat.le_trans Z0 (Keep.refl h0 []).1) OL SC hcs SA SH SL hH hcw) e0 (by decide) (by decide) (by decide) (by decide) (fun _ q => own_ibStays hP0 q) (g := (mkF m 56 #[.val (.int kz), .val (.int xa), .val (.int xb), .val (.int xc), .val (.int (0 : Int32)), .val (.int (1 : Int32)), .val (.int ((xa &&& (65535 : Int32)).toUInt32.toUInt16.toUInt32.toInt32)), .val (.int ((xb &&& (65535 : Int32)).toUInt32.toUInt16.toUInt32.toInt32)), .val (.int ((xc &&& (65535 : Int32)).toUInt32.toUInt16.toUInt32.toInt32)), .unset, .unset] [(.int ((xc &&& (65535 : Int32)).toUInt32.toUInt16.toUInt32.toInt32)), (.int ((xb &&& (65535 : Int32)).toUInt32.toUInt16.toUInt32.toInt32)), (.int ((xa &&& (65535 : Int32)).toUInt32.toUInt16.toUInt32.toInt32)), (.int (1 : Int32))])) rfl (by rw [hml]; rfl) (argsL := [(.int (1 : Int32)), (.int ((xa &&& (65535 : Int32)).toUInt32.toUInt16.toUInt32.toInt32)), (.int ((xb &&& (65535 : Int32)).toUInt32.toUInt16.toUInt32.toInt32)), (.int ((xc &&& (65535 : Int32)).toUInt32.toUInt16.toUInt32.toInt32))]) (rest := []) (lenOf pd_10 rfl) rfl (by show 2 * 0 + _ ≤ _; exact Nat.le_of_eq rfl) (hb hby at_56) ?_
      intro v347 T347 L347 X347 hS hZ hown hV347 hQ347
      obtain ⟨o347, b347, k347, z347, vs347, rfl, Nq347, Kc347, sz347, eo347, fv347, vb347, hz347⟩ := hQ347
      have N347 := Fr.app N0 Nq347
      have K347 : Keep h0 T347.heap [] := (Keep.refl h0 []).trans Kc347 all0
      have sz_o347 : h0.size ≤ o347 := Nat.le_trans (Keep.refl h0 []).1 sz347
      have gn_o347 : n0 ≤ o347 := Nat.le_trans Z0 sz_o347
      show Run p e below s _ _ _ (T347.setTop (mkF m 59 #[.val (.int kz), .val (.int xa), .val (.int xb), .val (.int xc), .val (.int (0 : Int32)), .val (.int (1 : Int32)), .val (.int ((xa &&& (65535 : Int32)).toUInt32.toUInt16.toUInt32.toInt32)), .val (.int ((xb &&& (65535 : Int32)).toUInt32.toUInt16.toUInt32.toInt32)), .val (.int ((xc &&& (65535 : Int32)).toUInt32.toUInt16.toUInt32.toInt32)), .unset, .unset] [(.ref o347)]))
      refine Run.pre (fun _ k => XS.astore X347.here hx rfl (hb hby at_59) rfl rfl (l' := #[.val (.int kz), .val (.int xa), .val (.int xb), .val (.int xc), .val (.int (0 : Int32)), .val (.int (1 : Int32)), .val (.int ((xa &&& (65535 : Int32)).toUInt32.toUInt16.toUInt32.toInt32)), .val (.int ((xb &&& (65535 : Int32)).toUInt32.toUInt16.toUInt32.toInt32)), .val (.int ((xc &&& (65535 : Int32)).toUInt32.toUInt16.toUInt32.toInt32)), .val (.ref o347), .unset]) rfl k) ?_
      show Run p e below s _ _ _ (T347.setTop (mkF m 61 #[.val (.int kz), .val (.int xa), .val (.int xb), .val (.int xc), .val (.int (0 : Int32)), .val (.int (1 : Int32)), .val (.int ((xa &&& (65535 : Int32)).toUInt32.toUInt16.toUInt32.toInt32)), .val (.int ((xb &&& (65535 : Int32)).toUInt32.toUInt16.toUInt32.toInt32)), .val (.int ((xc &&& (65535 : Int32)).toUInt32.toUInt16.toUInt32.toInt32)), .val (.ref o347), .unset] []))
      refine Run.pre (fun _ k => XS.aload X347.here hx rfl (hb hby at_61) rfl rfl k) ?_
      show Run p e below s _ _ _ (T347.setTop (mkF m 63 #[.val (.int kz), .val (.int xa), .val (.int xb), .val (.int xc), .val (.int (0 : Int32)), .val (.int (1 : Int32)), .val (.int ((xa &&& (65535 : Int32)).toUInt32.toUInt16.toUInt32.toInt32)), .val (.int ((xb &&& (65535 : Int32)).toUInt32.toUInt16.toUInt32.toInt32)), .val (.int ((xc &&& (65535 : Int32)).toUInt32.toUInt16.toUInt32.toInt32)), .val (.ref o347), .unset] [(.ref o347)]))
      refine Run.callS hS (Nat.le_refl _) X347 hx hZ (y := (⟨"com/example/humble_issuer/humbleissuer/web/QueryParameters", "leftOutIfEmpty", "(Ljava/lang/String;)Ljava/lang/String;"⟩ : MethodName)) hown (hw _ (List.mem_of_getElem? (i := 27) rfl)) (hw _ (List.mem_of_getElem? (i := 28) rfl)) (hw _ (List.mem_of_getElem? (i := 29) rfl)) (hw _ (List.mem_of_getElem? (i := 30) rfl)) (by decide) (W := 0) (rmL_s l Z a0 hw o347 b347 k347 z347 vs347 T347.heap n0 (Nat.le_trans Z0 K347.1) fv347 vb347 eo347 hz347) rfl (by decide) (by decide) (by decide) (by decide) (fun _ _ => trivial) (g := (mkF m 63 #[.val (.int kz), .val (.int xa), .val (.int xb), .val (.int xc), .val (.int (0 : Int32)), .val (.int (1 : Int32)), .val (.int ((xa &&& (65535 : Int32)).toUInt32.toUInt16.toUInt32.toInt32)), .val (.int ((xb &&& (65535 : Int32)).toUInt32.toUInt16.toUInt32.toInt32)), .val (.int ((xc &&& (65535 : Int32)).toUInt32.toUInt16.toUInt32.toInt32)), .val (.ref o347), .unset] [(.ref o347)])) rfl (by rw [hml]; rfl) (argsL := [(.ref o347)]) (rest := []) (lenOf pd_11 rfl) rfl (by show 2 * 0 + _ ≤ _; exact Nat.le_of_eq rfl) (hb hby at_63) ?_
      intro v348 T348 L348 X348 hS hZ hown hV348 hQ348
      obtain ⟨rfl, Nq348, he348⟩ := hQ348
      have N348 := Fr.app N347 Nq348
      have e348 : T348.heap = T347.heap := he348
      show Run p e below s _ _ _ (T348.setTop (mkF m 66 #[.val (.int kz), .val (.int xa), .val (.int xb), .val (.int xc), .val (.int (0 : Int32)), .val (.int (1 : Int32)), .val (.int ((xa &&& (65535 : Int32)).toUInt32.toUInt16.toUInt32.toInt32)), .val (.int ((xb &&& (65535 : Int32)).toUInt32.toUInt16.toUInt32.toInt32)), .val (.int ((xc &&& (65535 : Int32)).toUInt32.toUInt16.toUInt32.toInt32)), .val (.ref o347), .unset] [(.ref o347)]))
      refine Run.pre (fun _ k => XS.astore X348.here hx rfl (hb hby at_66) rfl rfl (l' := #[.val (.int kz), .val (.int xa), .val (.int xb), .val (.int xc), .val (.int (0 : Int32)), .val (.int (1 : Int32)), .val (.int ((xa &&& (65535 : Int32)).toUInt32.toUInt16.toUInt32.toInt32)), .val (.int ((xb &&& (65535 : Int32)).toUInt32.toUInt16.toUInt32.toInt32)), .val (.int ((xc &&& (65535 : Int32)).toUInt32.toUInt16.toUInt32.toInt32)), .val (.ref o347), .val (.ref o347)]) rfl k) ?_
      show Run p e below s _ _ _ (T348.setTop (mkF m 68 #[.val (.int kz), .val (.int xa), .val (.int xb), .val (.int xc), .val (.int (0 : Int32)), .val (.int (1 : Int32)), .val (.int ((xa &&& (65535 : Int32)).toUInt32.toUInt16.toUInt32.toInt32)), .val (.int ((xb &&& (65535 : Int32)).toUInt32.toUInt16.toUInt32.toInt32)), .val (.int ((xc &&& (65535 : Int32)).toUInt32.toUInt16.toUInt32.toInt32)), .val (.ref o347), .val (.ref o347)] []))
      refine Run.pre (fun _ k => XS.iload X348.here hx rfl (hb hby at_68) rfl  k) ?_
      show Run p e below s _ _ _ (T348.setTop (mkF m 70 #[.val (.int kz), .val (.int xa), .val (.int xb), .val (.int xc), .val (.int (0 : Int32)), .val (.int (1 : Int32)), .val (.int ((xa &&& (65535 : Int32)).toUInt32.toUInt16.toUInt32.toInt32)), .val (.int ((xb &&& (65535 : Int32)).toUInt32.toUInt16.toUInt32.toInt32)), .val (.int ((xc &&& (65535 : Int32)).toUInt32.toUInt16.toUInt32.toInt32)), .val (.ref o347), .val (.ref o347)] [(.int (0 : Int32))]))
      refine Run.pre (fun _ k => XS.ifNo X348.here hx rfl (hb hby at_70) rfl ((if0 _ _).trans (teq ((by decide) : (0 : Int32) = (0 : Int32))).2) k) ?_
      show Run p e below s _ _ _ (T348.setTop (mkF m 73 #[.val (.int kz), .val (.int xa), .val (.int xb), .val (.int xc), .val (.int (0 : Int32)), .val (.int (1 : Int32)), .val (.int ((xa &&& (65535 : Int32)).toUInt32.toUInt16.toUInt32.toInt32)), .val (.int ((xb &&& (65535 : Int32)).toUInt32.toUInt16.toUInt32.toInt32)), .val (.int ((xc &&& (65535 : Int32)).toUInt32.toUInt16.toUInt32.toInt32)), .val (.ref o347), .val (.ref o347)] []))
      refine Run.pre (fun _ k => XS.iload X348.here hx rfl (hb hby at_73) rfl  k) ?_
      show Run p e below s _ _ _ (T348.setTop (mkF m 75 #[.val (.int kz), .val (.int xa), .val (.int xb), .val (.int xc), .val (.int (0 : Int32)), .val (.int (1 : Int32)), .val (.int ((xa &&& (65535 : Int32)).toUInt32.toUInt16.toUInt32.toInt32)), .val (.int ((xb &&& (65535 : Int32)).toUInt32.toUInt16.toUInt32.toInt32)), .val (.int ((xc &&& (65535 : Int32)).toUInt32.toUInt16.toUInt32.toInt32)), .val (.ref o347), .val (.ref o347)] [(.int (1 : Int32))]))
      refine Run.pre (fun _ k => XS.ifYes X348.here hx rfl (pc0 := 75) (pc' := 89) rfl (hb hby at_75) rfl ((if0 _ _).trans (feq ((by decide) : ¬ ((1 : Int32) = (0 : Int32)))).2) (by decide) (by decide) k) ?_
      show Run p e below s _ _ _ (T348.setTop (mkF m 89 #[.val (.int kz), .val (.int xa), .val (.int xb), .val (.int xc), .val (.int (0 : Int32)), .val (.int (1 : Int32)), .val (.int ((xa &&& (65535 : Int32)).toUInt32.toUInt16.toUInt32.toInt32)), .val (.int ((xb &&& (65535 : Int32)).toUInt32.toUInt16.toUInt32.toInt32)), .val (.int ((xc &&& (65535 : Int32)).toUInt32.toUInt16.toUInt32.toInt32)), .val (.ref o347), .val (.ref o347)] []))
      refine Run.pre (fun _ k => XS.aload X348.here hx rfl (hb hby at_89) rfl rfl k) ?_
      show Run p e below s _ _ _ (T348.setTop (mkF m 91 #[.val (.int kz), .val (.int xa), .val (.int xb), .val (.int xc), .val (.int (0 : Int32)), .val (.int (1 : Int32)), .val (.int ((xa &&& (65535 : Int32)).toUInt32.toUInt16.toUInt32.toInt32)), .val (.int ((xb &&& (65535 : Int32)).toUInt32.toUInt16.toUInt32.toInt32)), .val (.int ((xc &&& (65535 : Int32)).toUInt32.toUInt16.toUInt32.toInt32)), .val (.ref o347), .val (.ref o347)] [(.ref o347)]))
      refine Run.pre (fun _ k => XS.ifnullNo X348.here hx rfl (hb hby at_91) rfl k) ?_
      show Run p e below s _ _ _ (T348.setTop (mkF m 94 #[.val (.int kz), .val (.int xa), .val (.int xb), .val (.int xc), .val (.int (0 : Int32)), .val (.int (1 : Int32)), .val (.int ((xa &&& (65535 : Int32)).toUInt32.toUInt16.toUInt32.toInt32)), .val (.int ((xb &&& (65535 : Int32)).toUInt32.toUInt16.toUInt32.toInt32)), .val (.int ((xc &&& (65535 : Int32)).toUInt32.toUInt16.toUInt32.toInt32)), .val (.ref o347), .val (.ref o347)] []))
      refine Run.pre (fun _ k => XS.aload X348.here hx rfl (hb hby at_94) rfl rfl k) ?_
      show Run p e below s _ _ _ (T348.setTop (mkF m 96 #[.val (.int kz), .val (.int xa), .val (.int xb), .val (.int xc), .val (.int (0 : Int32)), .val (.int (1 : Int32)), .val (.int ((xa &&& (65535 : Int32)).toUInt32.toUInt16.toUInt32.toInt32)), .val (.int ((xb &&& (65535 : Int32)).toUInt32.toUInt16.toUInt32.toInt32)), .val (.int ((xc &&& (65535 : Int32)).toUInt32.toUInt16.toUInt32.toInt32)), .val (.ref o347), .val (.ref o347)] [(.ref o347)]))
      refine Run.pre (fun _ k => XS.aload X348.here hx rfl (hb hby at_96) rfl rfl k) ?_
      show Run p e below s _ _ _ (T348.setTop (mkF m 98 #[.val (.int kz), .val (.int xa), .val (.int xb), .val (.int xc), .val (.int (0 : Int32)), .val (.int (1 : Int32)), .val (.int ((xa &&& (65535 : Int32)).toUInt32.toUInt16.toUInt32.toInt32)), .val (.int ((xb &&& (65535 : Int32)).toUInt32.toUInt16.toUInt32.toInt32)), .val (.int ((xc &&& (65535 : Int32)).toUInt32.toUInt16.toUInt32.toInt32)), .val (.ref o347), .val (.ref o347)] [(.ref o347), (.ref o347)]))
      refine Run.callV hS (by first | exact Nat.le_refl _ | (rw [e348]; exact (Nat.le_of_eq (congrArg Array.size e348)))) X348 hx hZ (y := (⟨"java/lang/String", "equals", "(Ljava/lang/Object;)Z"⟩ : MethodName)) (z := (⟨"java/lang/String", "equals", "(Ljava/lang/Object;)Z"⟩ : MethodName)) hown (hw _ (List.mem_of_getElem? (i := 66) rfl)) (hw _ (List.mem_of_getElem? (i := 67) rfl)) (notFace_of_selects (args := #[]) (mvT hZ (hw _ (List.mem_of_getElem? (i := 69) rfl)))) (hw _ (List.mem_of_getElem? (i := 69) rfl)) (hw _ (List.mem_of_getElem? (i := 68) rfl)) (hw _ (List.mem_of_getElem? (i := 70) rfl)) (hw _ (List.mem_of_getElem? (i := 7) rfl)) (by decide) (b := o347) eo347 (W := 0) (rmEq l Z a0 hw o347 T347.heap n0 (Nat.le_trans Z0 K347.1)) e348 (by decide) (by decide) (by decide) (by decide) (fun _ _ => trivial) (g := (mkF m 98 #[.val (.int kz), .val (.int xa), .val (.int xb), .val (.int xc), .val (.int (0 : Int32)), .val (.int (1 : Int32)), .val (.int ((xa &&& (65535 : Int32)).toUInt32.toUInt16.toUInt32.toInt32)), .val (.int ((xb &&& (65535 : Int32)).toUInt32.toUInt16.toUInt32.toInt32)), .val (.int ((xc &&& (65535 : Int32)).toUInt32.toUInt16.toUInt32.toInt32)), .val (.ref o347), .val (.ref o347)] [(.ref o347), (.ref o347)])) rfl (by rw [hml]; rfl) (argsL := [(.ref o347)]) (rest := []) (lenOf pd_12 rfl) rfl (by show 2 * 0 + _ ≤ _; exact Nat.le_of_eq rfl) (hb hby at_98) ?_
      intro v349 T349 L349 X349 hS hZ hown hV349 hQ349
      obtain ⟨rfl, Nq349, he349⟩ := hQ349
      have N349 := Fr.app N348 Nq349
      have e349 : T349.heap = T347.heap := he349
      show Run p e below s _ _ _ (T349.setTop (mkF m 101 #[.val (.int kz), .val (.int xa), .val (.int xb), .val (.int xc), .val (.int (0 : Int32)), .val (.int (1 : Int32)), .val (.int ((xa &&& (65535 : Int32)).toUInt32.toUInt16.toUInt32.toInt32)), .val (.int ((xb &&& (65535 : Int32)).toUInt32.toUInt16.toUInt32.toInt32)), .val (.int ((xc &&& (65535 : Int32)).toUInt32.toUInt16.toUInt32.toInt32)), .val (.ref o347), .val (.ref o347)] [(.int (1 : Int32))]))
      refine Run.pre (fun _ k => XS.ifNo X349.here hx rfl (hb hby at_101) rfl ((if0 _ _).trans (feq ((by decide) : ¬ ((1 : Int32) = (0 : Int32)))).1) k) ?_
      show Run p e below s _ _ _ (T349.setTop (mkF m 104 #[.val (.int kz), .val (.int xa), .val (.int xb), .val (.int xc), .val (.int (0 : Int32)), .val (.int (1 : Int32)), .val (.int ((xa &&& (65535 : Int32)).toUInt32.toUInt16.toUInt32.toInt32)), .val (.int ((xb &&& (65535 : Int32)).toUInt32.toUInt16.toUInt32.toInt32)), .val (.int ((xc &&& (65535 : Int32)).toUInt32.toUInt16.toUInt32.toInt32)), .val (.ref o347), .val (.ref o347)] []))
      refine Run.pre (fun _ k => XS.iconst X349.here hx rfl (hb hby at_104) k) ?_
      show Run p e below s _ _ _ (T349.setTop (mkF m 105 #[.val (.int kz), .val (.int xa), .val (.int xb), .val (.int xc), .val (.int (0 : Int32)), .val (.int (1 : Int32)), .val (.int ((xa &&& (65535 : Int32)).toUInt32.toUInt16.toUInt32.toInt32)), .val (.int ((xb &&& (65535 : Int32)).toUInt32.toUInt16.toUInt32.toInt32)), .val (.int ((xc &&& (65535 : Int32)).toUInt32.toUInt16.toUInt32.toInt32)), .val (.ref o347), .val (.ref o347)] [(.int (1 : Int32))]))
      refine Run.pre (fun _ k => XS.goto X349.here hx rfl (pc0 := 105) (pc' := 109) rfl (hb hby at_105) (by decide) (by decide) k) ?_
      show Run p e below s _ _ _ (T349.setTop (mkF m 109 #[.val (.int kz), .val (.int xa), .val (.int xb), .val (.int xc), .val (.int (0 : Int32)), .val (.int (1 : Int32)), .val (.int ((xa &&& (65535 : Int32)).toUInt32.toUInt16.toUInt32.toInt32)), .val (.int ((xb &&& (65535 : Int32)).toUInt32.toUInt16.toUInt32.toInt32)), .val (.int ((xc &&& (65535 : Int32)).toUInt32.toUInt16.toUInt32.toInt32)), .val (.ref o347), .val (.ref o347)] [(.int (1 : Int32))]))
      exact Run.retN hS (by first | exact Nat.le_refl _ | (rw [e349]; exact (Nat.le_of_eq (congrArg Array.size e349)))) X349 hx hret (t := .boolean) (by simp) hlk (hb hby at_109) (by first | (rw [e349]; exact ⟨rfl, N349⟩) | exact ⟨rfl, N349⟩) (by decide) (by decide)
    · rw [hn]
      show Run p e below s _ _ _ (s₁.setTop (mkF m 18 #[.val (.int kz), .val (.int xa), .val (.int xb), .val (.int xc), .val (.int (0 : Int32)), .val (.int (2 : Int32)), .unset, .unset, .unset, .unset, .unset] []))
      refine Run.pre (fun _ k => XS.iloadN X0.here hx rfl (hb hby at_18) rfl  k) ?_
      show Run p e below s _ _ _ (s₁.setTop (mkF m 19 #[.val (.int kz), .val (.int xa), .val (.int xb), .val (.int xc), .val (.int (0 : Int32)), .val (.int (2 : Int32)), .unset, .unset, .unset, .unset, .unset] [(.int xa)]))
      refine Run.pre (X0.ldcInt hx hown (mvT hZ (hw _ (List.mem_of_getElem? (i := 0) rfl))) (g := (mkF m 19 #[.val (.int kz), .val (.int xa), .val (.int xb), .val (.int xc), .val (.int (0 : Int32)), .val (.int (2 : Int32)), .unset, .unset, .unset, .unset, .unset] [(.int xa)])) rfl (hb hby at_19)) ?_
      show Run p e below s _ _ _ (s₁.setTop (mkF m 21 #[.val (.int kz), .val (.int xa), .val (.int xb), .val (.int xc), .val (.int (0 : Int32)), .val (.int (2 : Int32)), .unset, .unset, .unset, .unset, .unset] [(.int (65535 : Int32)), (.int xa)]))
      refine Run.pre (fun _ k => XS.iand X0.here hx rfl (hb hby at_21) rfl k) ?_
      show Run p e below s _ _ _ (s₁.setTop (mkF m 22 #[.val (.int kz), .val (.int xa), .val (.int xb), .val (.int xc), .val (.int (0 : Int32)), .val (.int (2 : Int32)), .unset, .unset, .unset, .unset, .unset] [(.int (xa &&& (65535 : Int32)))]))
      refine Run.pre (fun _ k => XS.i2c X0.here hx rfl (hb hby at_22) rfl k) ?_
      show Run p e below s _ _ _ (s₁.setTop (mkF m 23 #[.val (.int kz), .val (.int xa), .val (.int xb), .val (.int xc), .val (.int (0 : Int32)), .val (.int (2 : Int32)), .unset, .unset, .unset, .unset, .unset] [(.int ((xa &&& (65535 : Int32)).toUInt32.toUInt16.toUInt32.toInt32))]))
      refine Run.pre (fun _ k => XS.istore X0.here hx rfl (hb hby at_23) rfl (l' := #[.val (.int kz), .val (.int xa), .val (.int xb), .val (.int xc), .val (.int (0 : Int32)), .val (.int (2 : Int32)), .val (.int ((xa &&& (65535 : Int32)).toUInt32.toUInt16.toUInt32.toInt32)), .unset, .unset, .unset, .unset]) rfl k) ?_
      show Run p e below s _ _ _ (s₁.setTop (mkF m 25 #[.val (.int kz), .val (.int xa), .val (.int xb), .val (.int xc), .val (.int (0 : Int32)), .val (.int (2 : Int32)), .val (.int ((xa &&& (65535 : Int32)).toUInt32.toUInt16.toUInt32.toInt32)), .unset, .unset, .unset, .unset] []))
      refine Run.pre (fun _ k => XS.iloadN X0.here hx rfl (hb hby at_25) rfl  k) ?_
      show Run p e below s _ _ _ (s₁.setTop (mkF m 26 #[.val (.int kz), .val (.int xa), .val (.int xb), .val (.int xc), .val (.int (0 : Int32)), .val (.int (2 : Int32)), .val (.int ((xa &&& (65535 : Int32)).toUInt32.toUInt16.toUInt32.toInt32)), .unset, .unset, .unset, .unset] [(.int xb)]))
      refine Run.pre (X0.ldcInt hx hown (mvT hZ (hw _ (List.mem_of_getElem? (i := 0) rfl))) (g := (mkF m 26 #[.val (.int kz), .val (.int xa), .val (.int xb), .val (.int xc), .val (.int (0 : Int32)), .val (.int (2 : Int32)), .val (.int ((xa &&& (65535 : Int32)).toUInt32.toUInt16.toUInt32.toInt32)), .unset, .unset, .unset, .unset] [(.int xb)])) rfl (hb hby at_26)) ?_
      show Run p e below s _ _ _ (s₁.setTop (mkF m 28 #[.val (.int kz), .val (.int xa), .val (.int xb), .val (.int xc), .val (.int (0 : Int32)), .val (.int (2 : Int32)), .val (.int ((xa &&& (65535 : Int32)).toUInt32.toUInt16.toUInt32.toInt32)), .unset, .unset, .unset, .unset] [(.int (65535 : Int32)), (.int xb)]))
      refine Run.pre (fun _ k => XS.iand X0.here hx rfl (hb hby at_28) rfl k) ?_
      show Run p e below s _ _ _ (s₁.setTop (mkF m 29 #[.val (.int kz), .val (.int xa), .val (.int xb), .val (.int xc), .val (.int (0 : Int32)), .val (.int (2 : Int32)), .val (.int ((xa &&& (65535 : Int32)).toUInt32.toUInt16.toUInt32.toInt32)), .unset, .unset, .unset, .unset] [(.int (xb &&& (65535 : Int32)))]))
      refine Run.pre (fun _ k => XS.i2c X0.here hx rfl (hb hby at_29) rfl k) ?_
      show Run p e below s _ _ _ (s₁.setTop (mkF m 30 #[.val (.int kz), .val (.int xa), .val (.int xb), .val (.int xc), .val (.int (0 : Int32)), .val (.int (2 : Int32)), .val (.int ((xa &&& (65535 : Int32)).toUInt32.toUInt16.toUInt32.toInt32)), .unset, .unset, .unset, .unset] [(.int ((xb &&& (65535 : Int32)).toUInt32.toUInt16.toUInt32.toInt32))]))
      refine Run.pre (fun _ k => XS.istore X0.here hx rfl (hb hby at_30) rfl (l' := #[.val (.int kz), .val (.int xa), .val (.int xb), .val (.int xc), .val (.int (0 : Int32)), .val (.int (2 : Int32)), .val (.int ((xa &&& (65535 : Int32)).toUInt32.toUInt16.toUInt32.toInt32)), .val (.int ((xb &&& (65535 : Int32)).toUInt32.toUInt16.toUInt32.toInt32)), .unset, .unset, .unset]) rfl k) ?_
      show Run p e below s _ _ _ (s₁.setTop (mkF m 32 #[.val (.int kz), .val (.int xa), .val (.int xb), .val (.int xc), .val (.int (0 : Int32)), .val (.int (2 : Int32)), .val (.int ((xa &&& (65535 : Int32)).toUInt32.toUInt16.toUInt32.toInt32)), .val (.int ((xb &&& (65535 : Int32)).toUInt32.toUInt16.toUInt32.toInt32)), .unset, .unset, .unset] []))
      refine Run.pre (fun _ k => XS.iloadN X0.here hx rfl (hb hby at_32) rfl  k) ?_
      show Run p e below s _ _ _ (s₁.setTop (mkF m 33 #[.val (.int kz), .val (.int xa), .val (.int xb), .val (.int xc), .val (.int (0 : Int32)), .val (.int (2 : Int32)), .val (.int ((xa &&& (65535 : Int32)).toUInt32.toUInt16.toUInt32.toInt32)), .val (.int ((xb &&& (65535 : Int32)).toUInt32.toUInt16.toUInt32.toInt32)), .unset, .unset, .unset] [(.int xc)]))
      refine Run.pre (X0.ldcInt hx hown (mvT hZ (hw _ (List.mem_of_getElem? (i := 0) rfl))) (g := (mkF m 33 #[.val (.int kz), .val (.int xa), .val (.int xb), .val (.int xc), .val (.int (0 : Int32)), .val (.int (2 : Int32)), .val (.int ((xa &&& (65535 : Int32)).toUInt32.toUInt16.toUInt32.toInt32)), .val (.int ((xb &&& (65535 : Int32)).toUInt32.toUInt16.toUInt32.toInt32)), .unset, .unset, .unset] [(.int xc)])) rfl (hb hby at_33)) ?_
      show Run p e below s _ _ _ (s₁.setTop (mkF m 35 #[.val (.int kz), .val (.int xa), .val (.int xb), .val (.int xc), .val (.int (0 : Int32)), .val (.int (2 : Int32)), .val (.int ((xa &&& (65535 : Int32)).toUInt32.toUInt16.toUInt32.toInt32)), .val (.int ((xb &&& (65535 : Int32)).toUInt32.toUInt16.toUInt32.toInt32)), .unset, .unset, .unset] [(.int (65535 : Int32)), (.int xc)]))
      refine Run.pre (fun _ k => XS.iand X0.here hx rfl (hb hby at_35) rfl k) ?_
      show Run p e below s _ _ _ (s₁.setTop (mkF m 36 #[.val (.int kz), .val (.int xa), .val (.int xb), .val (.int xc), .val (.int (0 : Int32)), .val (.int (2 : Int32)), .val (.int ((xa &&& (65535 : Int32)).toUInt32.toUInt16.toUInt32.toInt32)), .val (.int ((xb &&& (65535 : Int32)).toUInt32.toUInt16.toUInt32.toInt32)), .unset, .unset, .unset] [(.int (xc &&& (65535 : Int32)))]))
      refine Run.pre (fun _ k => XS.i2c X0.here hx rfl (hb hby at_36) rfl k) ?_
      show Run p e below s _ _ _ (s₁.setTop (mkF m 37 #[.val (.int kz), .val (.int xa), .val (.int xb), .val (.int xc), .val (.int (0 : Int32)), .val (.int (2 : Int32)), .val (.int ((xa &&& (65535 : Int32)).toUInt32.toUInt16.toUInt32.toInt32)), .val (.int ((xb &&& (65535 : Int32)).toUInt32.toUInt16.toUInt32.toInt32)), .unset, .unset, .unset] [(.int ((xc &&& (65535 : Int32)).toUInt32.toUInt16.toUInt32.toInt32))]))
      refine Run.pre (fun _ k => XS.istore X0.here hx rfl (hb hby at_37) rfl (l' := #[.val (.int kz), .val (.int xa), .val (.int xb), .val (.int xc), .val (.int (0 : Int32)), .val (.int (2 : Int32)), .val (.int ((xa &&& (65535 : Int32)).toUInt32.toUInt16.toUInt32.toInt32)), .val (.int ((xb &&& (65535 : Int32)).toUInt32.toUInt16.toUInt32.toInt32)), .val (.int ((xc &&& (65535 : Int32)).toUInt32.toUInt16.toUInt32.toInt32)), .unset, .unset]) rfl k) ?_
      show Run p e below s _ _ _ (s₁.setTop (mkF m 39 #[.val (.int kz), .val (.int xa), .val (.int xb), .val (.int xc), .val (.int (0 : Int32)), .val (.int (2 : Int32)), .val (.int ((xa &&& (65535 : Int32)).toUInt32.toUInt16.toUInt32.toInt32)), .val (.int ((xb &&& (65535 : Int32)).toUInt32.toUInt16.toUInt32.toInt32)), .val (.int ((xc &&& (65535 : Int32)).toUInt32.toUInt16.toUInt32.toInt32)), .unset, .unset] []))
      refine Run.pre (fun _ k => XS.iload X0.here hx rfl (hb hby at_39) rfl  k) ?_
      show Run p e below s _ _ _ (s₁.setTop (mkF m 41 #[.val (.int kz), .val (.int xa), .val (.int xb), .val (.int xc), .val (.int (0 : Int32)), .val (.int (2 : Int32)), .val (.int ((xa &&& (65535 : Int32)).toUInt32.toUInt16.toUInt32.toInt32)), .val (.int ((xb &&& (65535 : Int32)).toUInt32.toUInt16.toUInt32.toInt32)), .val (.int ((xc &&& (65535 : Int32)).toUInt32.toUInt16.toUInt32.toInt32)), .unset, .unset] [(.int (0 : Int32))]))
      refine Run.pre (fun _ k => XS.ifYes X0.here hx rfl (pc0 := 41) (pc' := 48) rfl (hb hby at_41) rfl ((if0 _ _).trans (teq ((by decide) : (0 : Int32) = (0 : Int32))).1) (by decide) (by decide) k) ?_
      show Run p e below s _ _ _ (s₁.setTop (mkF m 48 #[.val (.int kz), .val (.int xa), .val (.int xb), .val (.int xc), .val (.int (0 : Int32)), .val (.int (2 : Int32)), .val (.int ((xa &&& (65535 : Int32)).toUInt32.toUInt16.toUInt32.toInt32)), .val (.int ((xb &&& (65535 : Int32)).toUInt32.toUInt16.toUInt32.toInt32)), .val (.int ((xc &&& (65535 : Int32)).toUInt32.toUInt16.toUInt32.toInt32)), .unset, .unset] []))
      refine Run.pre (fun _ k => XS.iload X0.here hx rfl (hb hby at_48) rfl  k) ?_
      show Run p e below s _ _ _ (s₁.setTop (mkF m 50 #[.val (.int kz), .val (.int xa), .val (.int xb), .val (.int xc), .val (.int (0 : Int32)), .val (.int (2 : Int32)), .val (.int ((xa &&& (65535 : Int32)).toUInt32.toUInt16.toUInt32.toInt32)), .val (.int ((xb &&& (65535 : Int32)).toUInt32.toUInt16.toUInt32.toInt32)), .val (.int ((xc &&& (65535 : Int32)).toUInt32.toUInt16.toUInt32.toInt32)), .unset, .unset] [(.int (2 : Int32))]))
      refine Run.pre (fun _ k => XS.iload X0.here hx rfl (hb hby at_50) rfl  k) ?_
      show Run p e below s _ _ _ (s₁.setTop (mkF m 52 #[.val (.int kz), .val (.int xa), .val (.int xb), .val (.int xc), .val (.int (0 : Int32)), .val (.int (2 : Int32)), .val (.int ((xa &&& (65535 : Int32)).toUInt32.toUInt16.toUInt32.toInt32)), .val (.int ((xb &&& (65535 : Int32)).toUInt32.toUInt16.toUInt32.toInt32)), .val (.int ((xc &&& (65535 : Int32)).toUInt32.toUInt16.toUInt32.toInt32)), .unset, .unset] [(.int ((xa &&& (65535 : Int32)).toUInt32.toUInt16.toUInt32.toInt32)), (.int (2 : Int32))]))
      refine Run.pre (fun _ k => XS.iload X0.here hx rfl (hb hby at_52) rfl  k) ?_
      show Run p e below s _ _ _ (s₁.setTop (mkF m 54 #[.val (.int kz), .val (.int xa), .val (.int xb), .val (.int xc), .val (.int (0 : Int32)), .val (.int (2 : Int32)), .val (.int ((xa &&& (65535 : Int32)).toUInt32.toUInt16.toUInt32.toInt32)), .val (.int ((xb &&& (65535 : Int32)).toUInt32.toUInt16.toUInt32.toInt32)), .val (.int ((xc &&& (65535 : Int32)).toUInt32.toUInt16.toUInt32.toInt32)), .unset, .unset] [(.int ((xb &&& (65535 : Int32)).toUInt32.toUInt16.toUInt32.toInt32)), (.int ((xa &&& (65535 : Int32)).toUInt32.toUInt16.toUInt32.toInt32)), (.int (2 : Int32))]))
      refine Run.pre (fun _ k => XS.iload X0.here hx rfl (hb hby at_54) rfl  k) ?_
      show Run p e below s _ _ _ (s₁.setTop (mkF m 56 #[.val (.int kz), .val (.int xa), .val (.int xb), .val (.int xc), .val (.int (0 : Int32)), .val (.int (2 : Int32)), .val (.int ((xa &&& (65535 : Int32)).toUInt32.toUInt16.toUInt32.toInt32)), .val (.int ((xb &&& (65535 : Int32)).toUInt32.toUInt16.toUInt32.toInt32)), .val (.int ((xc &&& (65535 : Int32)).toUInt32.toUInt16.toUInt32.toInt32)), .unset, .unset] [(.int ((xc &&& (65535 : Int32)).toUInt32.toUInt16.toUInt32.toInt32)), (.int ((xb &&& (65535 : Int32)).toUInt32.toUInt16.toUInt32.toInt32)), (.int ((xa &&& (65535 : Int32)).toUInt32.toUInt16.toUInt32.toInt32)), (.int (2 : Int32))]))
      refine Run.callS hS (by first | exact Nat.le_refl _ | (rw [e0]; exact (Nat.zero_le _))) X0 hx hZ (y := (⟨"com/example/humble_issuer/humbleissuer/web/QueryParametersLeftOutIfEmptyPinLaw", "build", "(ICCC)Ljava/lang/String;"⟩ : MethodName)) hown (hw _ (List.mem_of_getElem? (i := 1) rfl)) (hw _ (List.mem_of_getElem? (i := 2) rfl)) (hw _ (List.mem_of_getElem? (i := 3) rfl)) (hw _ (List.mem_of_getElem? (i := 4) rfl)) (by decide) (W := 0) (rmB_2 l Z a0 hw ((xa &&& (65535 : Int32)).toUInt32.toUInt16.toUInt32.toInt32) ((xb &&& (65535 : Int32)).toUInt32.toUInt16.toUInt32.toInt32) ((xc &&& (65535 : Int32)).toUInt32.toUInt16.toUInt32.toInt32) cs h0 n0 (Nat.le_trans Z0 (Keep.refl h0 []).1) OL SC hcs SA SH SL hH hcw) e0 (by decide) (by decide) (by decide) (by decide) (fun _ q => own_ibStays hP0 q) (g := (mkF m 56 #[.val (.int kz), .val (.int xa), .val (.int xb), .val (.int xc), .val (.int (0 : Int32)), .val (.int (2 : Int32)), .val (.int ((xa &&& (65535 : Int32)).toUInt32.toUInt16.toUInt32.toInt32)), .val (.int ((xb &&& (65535 : Int32)).toUInt32.toUInt16.toUInt32.toInt32)), .val (.int ((xc &&& (65535 : Int32)).toUInt32.toUInt16.toUInt32.toInt32)), .unset, .unset] [(.int ((xc &&& (65535 : Int32)).toUInt32.toUInt16.toUInt32.toInt32)), (.int ((xb &&& (65535 : Int32)).toUInt32.toUInt16.toUInt32.toInt32)), (.int ((xa &&& (65535 : Int32)).toUInt32.toUInt16.toUInt32.toInt32)), (.int (2 : Int32))])) rfl (by rw [hml]; rfl) (argsL := [(.int (2 : Int32)), (.int ((xa &&& (65535 : Int32)).toUInt32.toUInt16.toUInt32.toInt32)), (.int ((xb &&& (65535 : Int32)).toUInt32.toUInt16.toUInt32.toInt32)), (.int ((xc &&& (65535 : Int32)).toUInt32.toUInt16.toUInt32.toInt32))]) (rest := []) (lenOf pd_10 rfl) rfl (by show 2 * 0 + _ ≤ _; exact Nat.le_of_eq rfl) (hb hby at_56) ?_
      intro v350 T350 L350 X350 hS hZ hown hV350 hQ350
      obtain ⟨o350, b350, k350, z350, vs350, rfl, Nq350, Kc350, sz350, eo350, fv350, vb350, hz350⟩ := hQ350
      have N350 := Fr.app N0 Nq350
      have K350 : Keep h0 T350.heap [] := (Keep.refl h0 []).trans Kc350 all0
      have sz_o350 : h0.size ≤ o350 := Nat.le_trans (Keep.refl h0 []).1 sz350
      have gn_o350 : n0 ≤ o350 := Nat.le_trans Z0 sz_o350
      show Run p e below s _ _ _ (T350.setTop (mkF m 59 #[.val (.int kz), .val (.int xa), .val (.int xb), .val (.int xc), .val (.int (0 : Int32)), .val (.int (2 : Int32)), .val (.int ((xa &&& (65535 : Int32)).toUInt32.toUInt16.toUInt32.toInt32)), .val (.int ((xb &&& (65535 : Int32)).toUInt32.toUInt16.toUInt32.toInt32)), .val (.int ((xc &&& (65535 : Int32)).toUInt32.toUInt16.toUInt32.toInt32)), .unset, .unset] [(.ref o350)]))
      refine Run.pre (fun _ k => XS.astore X350.here hx rfl (hb hby at_59) rfl rfl (l' := #[.val (.int kz), .val (.int xa), .val (.int xb), .val (.int xc), .val (.int (0 : Int32)), .val (.int (2 : Int32)), .val (.int ((xa &&& (65535 : Int32)).toUInt32.toUInt16.toUInt32.toInt32)), .val (.int ((xb &&& (65535 : Int32)).toUInt32.toUInt16.toUInt32.toInt32)), .val (.int ((xc &&& (65535 : Int32)).toUInt32.toUInt16.toUInt32.toInt32)), .val (.ref o350), .unset]) rfl k) ?_
      show Run p e below s _ _ _ (T350.setTop (mkF m 61 #[.val (.int kz), .val (.int xa), .val (.int xb), .val (.int xc), .val (.int (0 : Int32)), .val (.int (2 : Int32)), .val (.int ((xa &&& (65535 : Int32)).toUInt32.toUInt16.toUInt32.toInt32)), .val (.int ((xb &&& (65535 : Int32)).toUInt32.toUInt16.toUInt32.toInt32)), .val (.int ((xc &&& (65535 : Int32)).toUInt32.toUInt16.toUInt32.toInt32)), .val (.ref o350), .unset] []))
      refine Run.pre (fun _ k => XS.aload X350.here hx rfl (hb hby at_61) rfl rfl k) ?_
      show Run p e below s _ _ _ (T350.setTop (mkF m 63 #[.val (.int kz), .val (.int xa), .val (.int xb), .val (.int xc), .val (.int (0 : Int32)), .val (.int (2 : Int32)), .val (.int ((xa &&& (65535 : Int32)).toUInt32.toUInt16.toUInt32.toInt32)), .val (.int ((xb &&& (65535 : Int32)).toUInt32.toUInt16.toUInt32.toInt32)), .val (.int ((xc &&& (65535 : Int32)).toUInt32.toUInt16.toUInt32.toInt32)), .val (.ref o350), .unset] [(.ref o350)]))
      refine Run.callS hS (Nat.le_refl _) X350 hx hZ (y := (⟨"com/example/humble_issuer/humbleissuer/web/QueryParameters", "leftOutIfEmpty", "(Ljava/lang/String;)Ljava/lang/String;"⟩ : MethodName)) hown (hw _ (List.mem_of_getElem? (i := 27) rfl)) (hw _ (List.mem_of_getElem? (i := 28) rfl)) (hw _ (List.mem_of_getElem? (i := 29) rfl)) (hw _ (List.mem_of_getElem? (i := 30) rfl)) (by decide) (W := 0) (rmL_s l Z a0 hw o350 b350 k350 z350 vs350 T350.heap n0 (Nat.le_trans Z0 K350.1) fv350 vb350 eo350 hz350) rfl (by decide) (by decide) (by decide) (by decide) (fun _ _ => trivial) (g := (mkF m 63 #[.val (.int kz), .val (.int xa), .val (.int xb), .val (.int xc), .val (.int (0 : Int32)), .val (.int (2 : Int32)), .val (.int ((xa &&& (65535 : Int32)).toUInt32.toUInt16.toUInt32.toInt32)), .val (.int ((xb &&& (65535 : Int32)).toUInt32.toUInt16.toUInt32.toInt32)), .val (.int ((xc &&& (65535 : Int32)).toUInt32.toUInt16.toUInt32.toInt32)), .val (.ref o350), .unset] [(.ref o350)])) rfl (by rw [hml]; rfl) (argsL := [(.ref o350)]) (rest := []) (lenOf pd_11 rfl) rfl (by show 2 * 0 + _ ≤ _; exact Nat.le_of_eq rfl) (hb hby at_63) ?_
      intro v351 T351 L351 X351 hS hZ hown hV351 hQ351
      obtain ⟨rfl, Nq351, he351⟩ := hQ351
      have N351 := Fr.app N350 Nq351
      have e351 : T351.heap = T350.heap := he351
      show Run p e below s _ _ _ (T351.setTop (mkF m 66 #[.val (.int kz), .val (.int xa), .val (.int xb), .val (.int xc), .val (.int (0 : Int32)), .val (.int (2 : Int32)), .val (.int ((xa &&& (65535 : Int32)).toUInt32.toUInt16.toUInt32.toInt32)), .val (.int ((xb &&& (65535 : Int32)).toUInt32.toUInt16.toUInt32.toInt32)), .val (.int ((xc &&& (65535 : Int32)).toUInt32.toUInt16.toUInt32.toInt32)), .val (.ref o350), .unset] [(.ref o350)]))
      refine Run.pre (fun _ k => XS.astore X351.here hx rfl (hb hby at_66) rfl rfl (l' := #[.val (.int kz), .val (.int xa), .val (.int xb), .val (.int xc), .val (.int (0 : Int32)), .val (.int (2 : Int32)), .val (.int ((xa &&& (65535 : Int32)).toUInt32.toUInt16.toUInt32.toInt32)), .val (.int ((xb &&& (65535 : Int32)).toUInt32.toUInt16.toUInt32.toInt32)), .val (.int ((xc &&& (65535 : Int32)).toUInt32.toUInt16.toUInt32.toInt32)), .val (.ref o350), .val (.ref o350)]) rfl k) ?_
      show Run p e below s _ _ _ (T351.setTop (mkF m 68 #[.val (.int kz), .val (.int xa), .val (.int xb), .val (.int xc), .val (.int (0 : Int32)), .val (.int (2 : Int32)), .val (.int ((xa &&& (65535 : Int32)).toUInt32.toUInt16.toUInt32.toInt32)), .val (.int ((xb &&& (65535 : Int32)).toUInt32.toUInt16.toUInt32.toInt32)), .val (.int ((xc &&& (65535 : Int32)).toUInt32.toUInt16.toUInt32.toInt32)), .val (.ref o350), .val (.ref o350)] []))
      refine Run.pre (fun _ k => XS.iload X351.here hx rfl (hb hby at_68) rfl  k) ?_
      show Run p e below s _ _ _ (T351.setTop (mkF m 70 #[.val (.int kz), .val (.int xa), .val (.int xb), .val (.int xc), .val (.int (0 : Int32)), .val (.int (2 : Int32)), .val (.int ((xa &&& (65535 : Int32)).toUInt32.toUInt16.toUInt32.toInt32)), .val (.int ((xb &&& (65535 : Int32)).toUInt32.toUInt16.toUInt32.toInt32)), .val (.int ((xc &&& (65535 : Int32)).toUInt32.toUInt16.toUInt32.toInt32)), .val (.ref o350), .val (.ref o350)] [(.int (0 : Int32))]))
      refine Run.pre (fun _ k => XS.ifNo X351.here hx rfl (hb hby at_70) rfl ((if0 _ _).trans (teq ((by decide) : (0 : Int32) = (0 : Int32))).2) k) ?_
      show Run p e below s _ _ _ (T351.setTop (mkF m 73 #[.val (.int kz), .val (.int xa), .val (.int xb), .val (.int xc), .val (.int (0 : Int32)), .val (.int (2 : Int32)), .val (.int ((xa &&& (65535 : Int32)).toUInt32.toUInt16.toUInt32.toInt32)), .val (.int ((xb &&& (65535 : Int32)).toUInt32.toUInt16.toUInt32.toInt32)), .val (.int ((xc &&& (65535 : Int32)).toUInt32.toUInt16.toUInt32.toInt32)), .val (.ref o350), .val (.ref o350)] []))
      refine Run.pre (fun _ k => XS.iload X351.here hx rfl (hb hby at_73) rfl  k) ?_
      show Run p e below s _ _ _ (T351.setTop (mkF m 75 #[.val (.int kz), .val (.int xa), .val (.int xb), .val (.int xc), .val (.int (0 : Int32)), .val (.int (2 : Int32)), .val (.int ((xa &&& (65535 : Int32)).toUInt32.toUInt16.toUInt32.toInt32)), .val (.int ((xb &&& (65535 : Int32)).toUInt32.toUInt16.toUInt32.toInt32)), .val (.int ((xc &&& (65535 : Int32)).toUInt32.toUInt16.toUInt32.toInt32)), .val (.ref o350), .val (.ref o350)] [(.int (2 : Int32))]))
      refine Run.pre (fun _ k => XS.ifYes X351.here hx rfl (pc0 := 75) (pc' := 89) rfl (hb hby at_75) rfl ((if0 _ _).trans (feq ((by decide) : ¬ ((2 : Int32) = (0 : Int32)))).2) (by decide) (by decide) k) ?_
      show Run p e below s _ _ _ (T351.setTop (mkF m 89 #[.val (.int kz), .val (.int xa), .val (.int xb), .val (.int xc), .val (.int (0 : Int32)), .val (.int (2 : Int32)), .val (.int ((xa &&& (65535 : Int32)).toUInt32.toUInt16.toUInt32.toInt32)), .val (.int ((xb &&& (65535 : Int32)).toUInt32.toUInt16.toUInt32.toInt32)), .val (.int ((xc &&& (65535 : Int32)).toUInt32.toUInt16.toUInt32.toInt32)), .val (.ref o350), .val (.ref o350)] []))
      refine Run.pre (fun _ k => XS.aload X351.here hx rfl (hb hby at_89) rfl rfl k) ?_
      show Run p e below s _ _ _ (T351.setTop (mkF m 91 #[.val (.int kz), .val (.int xa), .val (.int xb), .val (.int xc), .val (.int (0 : Int32)), .val (.int (2 : Int32)), .val (.int ((xa &&& (65535 : Int32)).toUInt32.toUInt16.toUInt32.toInt32)), .val (.int ((xb &&& (65535 : Int32)).toUInt32.toUInt16.toUInt32.toInt32)), .val (.int ((xc &&& (65535 : Int32)).toUInt32.toUInt16.toUInt32.toInt32)), .val (.ref o350), .val (.ref o350)] [(.ref o350)]))
      refine Run.pre (fun _ k => XS.ifnullNo X351.here hx rfl (hb hby at_91) rfl k) ?_
      show Run p e below s _ _ _ (T351.setTop (mkF m 94 #[.val (.int kz), .val (.int xa), .val (.int xb), .val (.int xc), .val (.int (0 : Int32)), .val (.int (2 : Int32)), .val (.int ((xa &&& (65535 : Int32)).toUInt32.toUInt16.toUInt32.toInt32)), .val (.int ((xb &&& (65535 : Int32)).toUInt32.toUInt16.toUInt32.toInt32)), .val (.int ((xc &&& (65535 : Int32)).toUInt32.toUInt16.toUInt32.toInt32)), .val (.ref o350), .val (.ref o350)] []))
      refine Run.pre (fun _ k => XS.aload X351.here hx rfl (hb hby at_94) rfl rfl k) ?_
      show Run p e below s _ _ _ (T351.setTop (mkF m 96 #[.val (.int kz), .val (.int xa), .val (.int xb), .val (.int xc), .val (.int (0 : Int32)), .val (.int (2 : Int32)), .val (.int ((xa &&& (65535 : Int32)).toUInt32.toUInt16.toUInt32.toInt32)), .val (.int ((xb &&& (65535 : Int32)).toUInt32.toUInt16.toUInt32.toInt32)), .val (.int ((xc &&& (65535 : Int32)).toUInt32.toUInt16.toUInt32.toInt32)), .val (.ref o350), .val (.ref o350)] [(.ref o350)]))
      refine Run.pre (fun _ k => XS.aload X351.here hx rfl (hb hby at_96) rfl rfl k) ?_
      show Run p e below s _ _ _ (T351.setTop (mkF m 98 #[.val (.int kz), .val (.int xa), .val (.int xb), .val (.int xc), .val (.int (0 : Int32)), .val (.int (2 : Int32)), .val (.int ((xa &&& (65535 : Int32)).toUInt32.toUInt16.toUInt32.toInt32)), .val (.int ((xb &&& (65535 : Int32)).toUInt32.toUInt16.toUInt32.toInt32)), .val (.int ((xc &&& (65535 : Int32)).toUInt32.toUInt16.toUInt32.toInt32)), .val (.ref o350), .val (.ref o350)] [(.ref o350), (.ref o350)]))
      refine Run.callV hS (by first | exact Nat.le_refl _ | (rw [e351]; exact (Nat.le_of_eq (congrArg Array.size e351)))) X351 hx hZ (y := (⟨"java/lang/String", "equals", "(Ljava/lang/Object;)Z"⟩ : MethodName)) (z := (⟨"java/lang/String", "equals", "(Ljava/lang/Object;)Z"⟩ : MethodName)) hown (hw _ (List.mem_of_getElem? (i := 66) rfl)) (hw _ (List.mem_of_getElem? (i := 67) rfl)) (notFace_of_selects (args := #[]) (mvT hZ (hw _ (List.mem_of_getElem? (i := 69) rfl)))) (hw _ (List.mem_of_getElem? (i := 69) rfl)) (hw _ (List.mem_of_getElem? (i := 68) rfl)) (hw _ (List.mem_of_getElem? (i := 70) rfl)) (hw _ (List.mem_of_getElem? (i := 7) rfl)) (by decide) (b := o350) eo350 (W := 0) (rmEq l Z a0 hw o350 T350.heap n0 (Nat.le_trans Z0 K350.1)) e351 (by decide) (by decide) (by decide) (by decide) (fun _ _ => trivial) (g := (mkF m 98 #[.val (.int kz), .val (.int xa), .val (.int xb), .val (.int xc), .val (.int (0 : Int32)), .val (.int (2 : Int32)), .val (.int ((xa &&& (65535 : Int32)).toUInt32.toUInt16.toUInt32.toInt32)), .val (.int ((xb &&& (65535 : Int32)).toUInt32.toUInt16.toUInt32.toInt32)), .val (.int ((xc &&& (65535 : Int32)).toUInt32.toUInt16.toUInt32.toInt32)), .val (.ref o350), .val (.ref o350)] [(.ref o350), (.ref o350)])) rfl (by rw [hml]; rfl) (argsL := [(.ref o350)]) (rest := []) (lenOf pd_12 rfl) rfl (by show 2 * 0 + _ ≤ _; exact Nat.le_of_eq rfl) (hb hby at_98) ?_
      intro v352 T352 L352 X352 hS hZ hown hV352 hQ352
      obtain ⟨rfl, Nq352, he352⟩ := hQ352
      have N352 := Fr.app N351 Nq352
      have e352 : T352.heap = T350.heap := he352
      show Run p e below s _ _ _ (T352.setTop (mkF m 101 #[.val (.int kz), .val (.int xa), .val (.int xb), .val (.int xc), .val (.int (0 : Int32)), .val (.int (2 : Int32)), .val (.int ((xa &&& (65535 : Int32)).toUInt32.toUInt16.toUInt32.toInt32)), .val (.int ((xb &&& (65535 : Int32)).toUInt32.toUInt16.toUInt32.toInt32)), .val (.int ((xc &&& (65535 : Int32)).toUInt32.toUInt16.toUInt32.toInt32)), .val (.ref o350), .val (.ref o350)] [(.int (1 : Int32))]))
      refine Run.pre (fun _ k => XS.ifNo X352.here hx rfl (hb hby at_101) rfl ((if0 _ _).trans (feq ((by decide) : ¬ ((1 : Int32) = (0 : Int32)))).1) k) ?_
      show Run p e below s _ _ _ (T352.setTop (mkF m 104 #[.val (.int kz), .val (.int xa), .val (.int xb), .val (.int xc), .val (.int (0 : Int32)), .val (.int (2 : Int32)), .val (.int ((xa &&& (65535 : Int32)).toUInt32.toUInt16.toUInt32.toInt32)), .val (.int ((xb &&& (65535 : Int32)).toUInt32.toUInt16.toUInt32.toInt32)), .val (.int ((xc &&& (65535 : Int32)).toUInt32.toUInt16.toUInt32.toInt32)), .val (.ref o350), .val (.ref o350)] []))
      refine Run.pre (fun _ k => XS.iconst X352.here hx rfl (hb hby at_104) k) ?_
      show Run p e below s _ _ _ (T352.setTop (mkF m 105 #[.val (.int kz), .val (.int xa), .val (.int xb), .val (.int xc), .val (.int (0 : Int32)), .val (.int (2 : Int32)), .val (.int ((xa &&& (65535 : Int32)).toUInt32.toUInt16.toUInt32.toInt32)), .val (.int ((xb &&& (65535 : Int32)).toUInt32.toUInt16.toUInt32.toInt32)), .val (.int ((xc &&& (65535 : Int32)).toUInt32.toUInt16.toUInt32.toInt32)), .val (.ref o350), .val (.ref o350)] [(.int (1 : Int32))]))
      refine Run.pre (fun _ k => XS.goto X352.here hx rfl (pc0 := 105) (pc' := 109) rfl (hb hby at_105) (by decide) (by decide) k) ?_
      show Run p e below s _ _ _ (T352.setTop (mkF m 109 #[.val (.int kz), .val (.int xa), .val (.int xb), .val (.int xc), .val (.int (0 : Int32)), .val (.int (2 : Int32)), .val (.int ((xa &&& (65535 : Int32)).toUInt32.toUInt16.toUInt32.toInt32)), .val (.int ((xb &&& (65535 : Int32)).toUInt32.toUInt16.toUInt32.toInt32)), .val (.int ((xc &&& (65535 : Int32)).toUInt32.toUInt16.toUInt32.toInt32)), .val (.ref o350), .val (.ref o350)] [(.int (1 : Int32))]))
      exact Run.retN hS (by first | exact Nat.le_refl _ | (rw [e352]; exact (Nat.le_of_eq (congrArg Array.size e352)))) X352 hx hret (t := .boolean) (by simp) hlk (hb hby at_109) (by first | (rw [e352]; exact ⟨rfl, N352⟩) | exact ⟨rfl, N352⟩) (by decide) (by decide)
    · rw [hn]
      show Run p e below s _ _ _ (s₁.setTop (mkF m 18 #[.val (.int kz), .val (.int xa), .val (.int xb), .val (.int xc), .val (.int (0 : Int32)), .val (.int (3 : Int32)), .unset, .unset, .unset, .unset, .unset] []))
      refine Run.pre (fun _ k => XS.iloadN X0.here hx rfl (hb hby at_18) rfl  k) ?_
      show Run p e below s _ _ _ (s₁.setTop (mkF m 19 #[.val (.int kz), .val (.int xa), .val (.int xb), .val (.int xc), .val (.int (0 : Int32)), .val (.int (3 : Int32)), .unset, .unset, .unset, .unset, .unset] [(.int xa)]))
      refine Run.pre (X0.ldcInt hx hown (mvT hZ (hw _ (List.mem_of_getElem? (i := 0) rfl))) (g := (mkF m 19 #[.val (.int kz), .val (.int xa), .val (.int xb), .val (.int xc), .val (.int (0 : Int32)), .val (.int (3 : Int32)), .unset, .unset, .unset, .unset, .unset] [(.int xa)])) rfl (hb hby at_19)) ?_
      show Run p e below s _ _ _ (s₁.setTop (mkF m 21 #[.val (.int kz), .val (.int xa), .val (.int xb), .val (.int xc), .val (.int (0 : Int32)), .val (.int (3 : Int32)), .unset, .unset, .unset, .unset, .unset] [(.int (65535 : Int32)), (.int xa)]))
      refine Run.pre (fun _ k => XS.iand X0.here hx rfl (hb hby at_21) rfl k) ?_
      show Run p e below s _ _ _ (s₁.setTop (mkF m 22 #[.val (.int kz), .val (.int xa), .val (.int xb), .val (.int xc), .val (.int (0 : Int32)), .val (.int (3 : Int32)), .unset, .unset, .unset, .unset, .unset] [(.int (xa &&& (65535 : Int32)))]))
      refine Run.pre (fun _ k => XS.i2c X0.here hx rfl (hb hby at_22) rfl k) ?_
      show Run p e below s _ _ _ (s₁.setTop (mkF m 23 #[.val (.int kz), .val (.int xa), .val (.int xb), .val (.int xc), .val (.int (0 : Int32)), .val (.int (3 : Int32)), .unset, .unset, .unset, .unset, .unset] [(.int ((xa &&& (65535 : Int32)).toUInt32.toUInt16.toUInt32.toInt32))]))
      refine Run.pre (fun _ k => XS.istore X0.here hx rfl (hb hby at_23) rfl (l' := #[.val (.int kz), .val (.int xa), .val (.int xb), .val (.int xc), .val (.int (0 : Int32)), .val (.int (3 : Int32)), .val (.int ((xa &&& (65535 : Int32)).toUInt32.toUInt16.toUInt32.toInt32)), .unset, .unset, .unset, .unset]) rfl k) ?_
      show Run p e below s _ _ _ (s₁.setTop (mkF m 25 #[.val (.int kz), .val (.int xa), .val (.int xb), .val (.int xc), .val (.int (0 : Int32)), .val (.int (3 : Int32)), .val (.int ((xa &&& (65535 : Int32)).toUInt32.toUInt16.toUInt32.toInt32)), .unset, .unset, .unset, .unset] []))
      refine Run.pre (fun _ k => XS.iloadN X0.here hx rfl (hb hby at_25) rfl  k) ?_
      show Run p e below s _ _ _ (s₁.setTop (mkF m 26 #[.val (.int kz), .val (.int xa), .val (.int xb), .val (.int xc), .val (.int (0 : Int32)), .val (.int (3 : Int32)), .val (.int ((xa &&& (65535 : Int32)).toUInt32.toUInt16.toUInt32.toInt32)), .unset, .unset, .unset, .unset] [(.int xb)]))
      refine Run.pre (X0.ldcInt hx hown (mvT hZ (hw _ (List.mem_of_getElem? (i := 0) rfl))) (g := (mkF m 26 #[.val (.int kz), .val (.int xa), .val (.int xb), .val (.int xc), .val (.int (0 : Int32)), .val (.int (3 : Int32)), .val (.int ((xa &&& (65535 : Int32)).toUInt32.toUInt16.toUInt32.toInt32)), .unset, .unset, .unset, .unset] [(.int xb)])) rfl (hb hby at_26)) ?_
      show Run p e below s _ _ _ (s₁.setTop (mkF m 28 #[.val (.int kz), .val (.int xa), .val (.int xb), .val (.int xc), .val (.int (0 : Int32)), .val (.int (3 : Int32)), .val (.int ((xa &&& (65535 : Int32)).toUInt32.toUInt16.toUInt32.toInt32)), .unset, .unset, .unset, .unset] [(.int (65535 : Int32)), (.int xb)]))
      refine Run.pre (fun _ k => XS.iand X0.here hx rfl (hb hby at_28) rfl k) ?_
      show Run p e below s _ _ _ (s₁.setTop (mkF m 29 #[.val (.int kz), .val (.int xa), .val (.int xb), .val (.int xc), .val (.int (0 : Int32)), .val (.int (3 : Int32)), .val (.int ((xa &&& (65535 : Int32)).toUInt32.toUInt16.toUInt32.toInt32)), .unset, .unset, .unset, .unset] [(.int (xb &&& (65535 : Int32)))]))
      refine Run.pre (fun _ k => XS.i2c X0.here hx rfl (hb hby at_29) rfl k) ?_
      show Run p e below s _ _ _ (s₁.setTop (mkF m 30 #[.val (.int kz), .val (.int xa), .val (.int xb), .val (.int xc), .val (.int (0 : Int32)), .val (.int (3 : Int32)), .val (.int ((xa &&& (65535 : Int32)).toUInt32.toUInt16.toUInt32.toInt32)), .unset, .unset, .unset, .unset] [(.int ((xb &&& (65535 : Int32)).toUInt32.toUInt16.toUInt32.toInt32))]))
      refine Run.pre (fun _ k => XS.istore X0.here hx rfl (hb hby at_30) rfl (l' := #[.val (.int kz), .val (.int xa), .val (.int xb), .val (.int xc), .val (.int (0 : Int32)), .val (.int (3 : Int32)), .val (.int ((xa &&& (65535 : Int32)).toUInt32.toUInt16.toUInt32.toInt32)), .val (.int ((xb &&& (65535 : Int32)).toUInt32.toUInt16.toUInt32.toInt32)), .unset, .unset, .unset]) rfl k) ?_
      show Run p e below s _ _ _ (s₁.setTop (mkF m 32 #[.val (.int kz), .val (.int xa), .val (.int xb), .val (.int xc), .val (.int (0 : Int32)), .val (.int (3 : Int32)), .val (.int ((xa &&& (65535 : Int32)).toUInt32.toUInt16.toUInt32.toInt32)), .val (.int ((xb &&& (65535 : Int32)).toUInt32.toUInt16.toUInt32.toInt32)), .unset, .unset, .unset] []))
      refine Run.pre (fun _ k => XS.iloadN X0.here hx rfl (hb hby at_32) rfl  k) ?_
      show Run p e below s _ _ _ (s₁.setTop (mkF m 33 #[.val (.int kz), .val (.int xa), .val (.int xb), .val (.int xc), .val (.int (0 : Int32)), .val (.int (3 : Int32)), .val (.int ((xa &&& (65535 : Int32)).toUInt32.toUInt16.toUInt32.toInt32)), .val (.int ((xb &&& (65535 : Int32)).toUInt32.toUInt16.toUInt32.toInt32)), .unset, .unset, .unset] [(.int xc)]))
      refine Run.pre (X0.ldcInt hx hown (mvT hZ (hw _ (List.mem_of_getElem? (i := 0) rfl))) (g := (mkF m 33 #[.val (.int kz), .val (.int xa), .val (.int xb), .val (.int xc), .val (.int (0 : Int32)), .val (.int (3 : Int32)), .val (.int ((xa &&& (65535 : Int32)).toUInt32.toUInt16.toUInt32.toInt32)), .val (.int ((xb &&& (65535 : Int32)).toUInt32.toUInt16.toUInt32.toInt32)), .unset, .unset, .unset] [(.int xc)])) rfl (hb hby at_33)) ?_
      show Run p e below s _ _ _ (s₁.setTop (mkF m 35 #[.val (.int kz), .val (.int xa), .val (.int xb), .val (.int xc), .val (.int (0 : Int32)), .val (.int (3 : Int32)), .val (.int ((xa &&& (65535 : Int32)).toUInt32.toUInt16.toUInt32.toInt32)), .val (.int ((xb &&& (65535 : Int32)).toUInt32.toUInt16.toUInt32.toInt32)), .unset, .unset, .unset] [(.int (65535 : Int32)), (.int xc)]))
      refine Run.pre (fun _ k => XS.iand X0.here hx rfl (hb hby at_35) rfl k) ?_
      show Run p e below s _ _ _ (s₁.setTop (mkF m 36 #[.val (.int kz), .val (.int xa), .val (.int xb), .val (.int xc), .val (.int (0 : Int32)), .val (.int (3 : Int32)), .val (.int ((xa &&& (65535 : Int32)).toUInt32.toUInt16.toUInt32.toInt32)), .val (.int ((xb &&& (65535 : Int32)).toUInt32.toUInt16.toUInt32.toInt32)), .unset, .unset, .unset] [(.int (xc &&& (65535 : Int32)))]))
      refine Run.pre (fun _ k => XS.i2c X0.here hx rfl (hb hby at_36) rfl k) ?_
      show Run p e below s _ _ _ (s₁.setTop (mkF m 37 #[.val (.int kz), .val (.int xa), .val (.int xb), .val (.int xc), .val (.int (0 : Int32)), .val (.int (3 : Int32)), .val (.int ((xa &&& (65535 : Int32)).toUInt32.toUInt16.toUInt32.toInt32)), .val (.int ((xb &&& (65535 : Int32)).toUInt32.toUInt16.toUInt32.toInt32)), .unset, .unset, .unset] [(.int ((xc &&& (65535 : Int32)).toUInt32.toUInt16.toUInt32.toInt32))]))
      refine Run.pre (fun _ k => XS.istore X0.here hx rfl (hb hby at_37) rfl (l' := #[.val (.int kz), .val (.int xa), .val (.int xb), .val (.int xc), .val (.int (0 : Int32)), .val (.int (3 : Int32)), .val (.int ((xa &&& (65535 : Int32)).toUInt32.toUInt16.toUInt32.toInt32)), .val (.int ((xb &&& (65535 : Int32)).toUInt32.toUInt16.toUInt32.toInt32)), .val (.int ((xc &&& (65535 : Int32)).toUInt32.toUInt16.toUInt32.toInt32)), .unset, .unset]) rfl k) ?_
      show Run p e below s _ _ _ (s₁.setTop (mkF m 39 #[.val (.int kz), .val (.int xa), .val (.int xb), .val (.int xc), .val (.int (0 : Int32)), .val (.int (3 : Int32)), .val (.int ((xa &&& (65535 : Int32)).toUInt32.toUInt16.toUInt32.toInt32)), .val (.int ((xb &&& (65535 : Int32)).toUInt32.toUInt16.toUInt32.toInt32)), .val (.int ((xc &&& (65535 : Int32)).toUInt32.toUInt16.toUInt32.toInt32)), .unset, .unset] []))
      refine Run.pre (fun _ k => XS.iload X0.here hx rfl (hb hby at_39) rfl  k) ?_
      show Run p e below s _ _ _ (s₁.setTop (mkF m 41 #[.val (.int kz), .val (.int xa), .val (.int xb), .val (.int xc), .val (.int (0 : Int32)), .val (.int (3 : Int32)), .val (.int ((xa &&& (65535 : Int32)).toUInt32.toUInt16.toUInt32.toInt32)), .val (.int ((xb &&& (65535 : Int32)).toUInt32.toUInt16.toUInt32.toInt32)), .val (.int ((xc &&& (65535 : Int32)).toUInt32.toUInt16.toUInt32.toInt32)), .unset, .unset] [(.int (0 : Int32))]))
      refine Run.pre (fun _ k => XS.ifYes X0.here hx rfl (pc0 := 41) (pc' := 48) rfl (hb hby at_41) rfl ((if0 _ _).trans (teq ((by decide) : (0 : Int32) = (0 : Int32))).1) (by decide) (by decide) k) ?_
      show Run p e below s _ _ _ (s₁.setTop (mkF m 48 #[.val (.int kz), .val (.int xa), .val (.int xb), .val (.int xc), .val (.int (0 : Int32)), .val (.int (3 : Int32)), .val (.int ((xa &&& (65535 : Int32)).toUInt32.toUInt16.toUInt32.toInt32)), .val (.int ((xb &&& (65535 : Int32)).toUInt32.toUInt16.toUInt32.toInt32)), .val (.int ((xc &&& (65535 : Int32)).toUInt32.toUInt16.toUInt32.toInt32)), .unset, .unset] []))
      refine Run.pre (fun _ k => XS.iload X0.here hx rfl (hb hby at_48) rfl  k) ?_
      show Run p e below s _ _ _ (s₁.setTop (mkF m 50 #[.val (.int kz), .val (.int xa), .val (.int xb), .val (.int xc), .val (.int (0 : Int32)), .val (.int (3 : Int32)), .val (.int ((xa &&& (65535 : Int32)).toUInt32.toUInt16.toUInt32.toInt32)), .val (.int ((xb &&& (65535 : Int32)).toUInt32.toUInt16.toUInt32.toInt32)), .val (.int ((xc &&& (65535 : Int32)).toUInt32.toUInt16.toUInt32.toInt32)), .unset, .unset] [(.int (3 : Int32))]))
      refine Run.pre (fun _ k => XS.iload X0.here hx rfl (hb hby at_50) rfl  k) ?_
      show Run p e below s _ _ _ (s₁.setTop (mkF m 52 #[.val (.int kz), .val (.int xa), .val (.int xb), .val (.int xc), .val (.int (0 : Int32)), .val (.int (3 : Int32)), .val (.int ((xa &&& (65535 : Int32)).toUInt32.toUInt16.toUInt32.toInt32)), .val (.int ((xb &&& (65535 : Int32)).toUInt32.toUInt16.toUInt32.toInt32)), .val (.int ((xc &&& (65535 : Int32)).toUInt32.toUInt16.toUInt32.toInt32)), .unset, .unset] [(.int ((xa &&& (65535 : Int32)).toUInt32.toUInt16.toUInt32.toInt32)), (.int (3 : Int32))]))
      refine Run.pre (fun _ k => XS.iload X0.here hx rfl (hb hby at_52) rfl  k) ?_
      show Run p e below s _ _ _ (s₁.setTop (mkF m 54 #[.val (.int kz), .val (.int xa), .val (.int xb), .val (.int xc), .val (.int (0 : Int32)), .val (.int (3 : Int32)), .val (.int ((xa &&& (65535 : Int32)).toUInt32.toUInt16.toUInt32.toInt32)), .val (.int ((xb &&& (65535 : Int32)).toUInt32.toUInt16.toUInt32.toInt32)), .val (.int ((xc &&& (65535 : Int32)).toUInt32.toUInt16.toUInt32.toInt32)), .unset, .unset] [(.int ((xb &&& (65535 : Int32)).toUInt32.toUInt16.toUInt32.toInt32)), (.int ((xa &&& (65535 : Int32)).toUInt32.toUInt16.toUInt32.toInt32)), (.int (3 : Int32))]))
      refine Run.pre (fun _ k => XS.iload X0.here hx rfl (hb hby at_54) rfl  k) ?_
      show Run p e below s _ _ _ (s₁.setTop (mkF m 56 #[.val (.int kz), .val (.int xa), .val (.int xb), .val (.int xc), .val (.int (0 : Int32)), .val (.int (3 : Int32)), .val (.int ((xa &&& (65535 : Int32)).toUInt32.toUInt16.toUInt32.toInt32)), .val (.int ((xb &&& (65535 : Int32)).toUInt32.toUInt16.toUInt32.toInt32)), .val (.int ((xc &&& (65535 : Int32)).toUInt32.toUInt16.toUInt32.toInt32)), .unset, .unset] [(.int ((xc &&& (65535 : Int32)).toUInt32.toUInt16.toUInt32.toInt32)), (.int ((xb &&& (65535 : Int32)).toUInt32.toUInt16.toUInt32.toInt32)), (.int ((xa &&& (65535 : Int32)).toUInt32.toUInt16.toUInt32.toInt32)), (.int (3 : Int32))]))
      refine Run.callS hS (by first | exact Nat.le_refl _ | (rw [e0]; exact (Nat.zero_le _))) X0 hx hZ (y := (⟨"com/example/humble_issuer/humbleissuer/web/QueryParametersLeftOutIfEmptyPinLaw", "build", "(ICCC)Ljava/lang/String;"⟩ : MethodName)) hown (hw _ (List.mem_of_getElem? (i := 1) rfl)) (hw _ (List.mem_of_getElem? (i := 2) rfl)) (hw _ (List.mem_of_getElem? (i := 3) rfl)) (hw _ (List.mem_of_getElem? (i := 4) rfl)) (by decide) (W := 0) (rmB_3 l Z a0 hw ((xa &&& (65535 : Int32)).toUInt32.toUInt16.toUInt32.toInt32) ((xb &&& (65535 : Int32)).toUInt32.toUInt16.toUInt32.toInt32) ((xc &&& (65535 : Int32)).toUInt32.toUInt16.toUInt32.toInt32) cs h0 n0 (Nat.le_trans Z0 (Keep.refl h0 []).1) OL SC hcs SA SH SL hH hcw) e0 (by decide) (by decide) (by decide) (by decide) (fun _ q => own_ibStays hP0 q) (g := (mkF m 56 #[.val (.int kz), .val (.int xa), .val (.int xb), .val (.int xc), .val (.int (0 : Int32)), .val (.int (3 : Int32)), .val (.int ((xa &&& (65535 : Int32)).toUInt32.toUInt16.toUInt32.toInt32)), .val (.int ((xb &&& (65535 : Int32)).toUInt32.toUInt16.toUInt32.toInt32)), .val (.int ((xc &&& (65535 : Int32)).toUInt32.toUInt16.toUInt32.toInt32)), .unset, .unset] [(.int ((xc &&& (65535 : Int32)).toUInt32.toUInt16.toUInt32.toInt32)), (.int ((xb &&& (65535 : Int32)).toUInt32.toUInt16.toUInt32.toInt32)), (.int ((xa &&& (65535 : Int32)).toUInt32.toUInt16.toUInt32.toInt32)), (.int (3 : Int32))])) rfl (by rw [hml]; rfl) (argsL := [(.int (3 : Int32)), (.int ((xa &&& (65535 : Int32)).toUInt32.toUInt16.toUInt32.toInt32)), (.int ((xb &&& (65535 : Int32)).toUInt32.toUInt16.toUInt32.toInt32)), (.int ((xc &&& (65535 : Int32)).toUInt32.toUInt16.toUInt32.toInt32))]) (rest := []) (lenOf pd_10 rfl) rfl (by show 2 * 0 + _ ≤ _; exact Nat.le_of_eq rfl) (hb hby at_56) ?_
      intro v353 T353 L353 X353 hS hZ hown hV353 hQ353
      obtain ⟨o353, b353, k353, z353, vs353, rfl, Nq353, Kc353, sz353, eo353, fv353, vb353, hz353⟩ := hQ353
      have N353 := Fr.app N0 Nq353
      have K353 : Keep h0 T353.heap [] := (Keep.refl h0 []).trans Kc353 all0
      have sz_o353 : h0.size ≤ o353 := Nat.le_trans (Keep.refl h0 []).1 sz353
      have gn_o353 : n0 ≤ o353 := Nat.le_trans Z0 sz_o353
      show Run p e below s _ _ _ (T353.setTop (mkF m 59 #[.val (.int kz), .val (.int xa), .val (.int xb), .val (.int xc), .val (.int (0 : Int32)), .val (.int (3 : Int32)), .val (.int ((xa &&& (65535 : Int32)).toUInt32.toUInt16.toUInt32.toInt32)), .val (.int ((xb &&& (65535 : Int32)).toUInt32.toUInt16.toUInt32.toInt32)), .val (.int ((xc &&& (65535 : Int32)).toUInt32.toUInt16.toUInt32.toInt32)), .unset, .unset] [(.ref o353)]))
      refine Run.pre (fun _ k => XS.astore X353.here hx rfl (hb hby at_59) rfl rfl (l' := #[.val (.int kz), .val (.int xa), .val (.int xb), .val (.int xc), .val (.int (0 : Int32)), .val (.int (3 : Int32)), .val (.int ((xa &&& (65535 : Int32)).toUInt32.toUInt16.toUInt32.toInt32)), .val (.int ((xb &&& (65535 : Int32)).toUInt32.toUInt16.toUInt32.toInt32)), .val (.int ((xc &&& (65535 : Int32)).toUInt32.toUInt16.toUInt32.toInt32)), .val (.ref o353), .unset]) rfl k) ?_
      show Run p e below s _ _ _ (T353.setTop (mkF m 61 #[.val (.int kz), .val (.int xa), .val (.int xb), .val (.int xc), .val (.int (0 : Int32)), .val (.int (3 : Int32)), .val (.int ((xa &&& (65535 : Int32)).toUInt32.toUInt16.toUInt32.toInt32)), .val (.int ((xb &&& (65535 : Int32)).toUInt32.toUInt16.toUInt32.toInt32)), .val (.int ((xc &&& (65535 : Int32)).toUInt32.toUInt16.toUInt32.toInt32)), .val (.ref o353), .unset] []))
      refine Run.pre (fun _ k => XS.aload X353.here hx rfl (hb hby at_61) rfl rfl k) ?_
      show Run p e below s _ _ _ (T353.setTop (mkF m 63 #[.val (.int kz), .val (.int xa), .val (.int xb), .val (.int xc), .val (.int (0 : Int32)), .val (.int (3 : Int32)), .val (.int ((xa &&& (65535 : Int32)).toUInt32.toUInt16.toUInt32.toInt32)), .val (.int ((xb &&& (65535 : Int32)).toUInt32.toUInt16.toUInt32.toInt32)), .val (.int ((xc &&& (65535 : Int32)).toUInt32.toUInt16.toUInt32.toInt32)), .val (.ref o353), .unset] [(.ref o353)]))
      refine Run.callS hS (Nat.le_refl _) X353 hx hZ (y := (⟨"com/example/humble_issuer/humbleissuer/web/QueryParameters", "leftOutIfEmpty", "(Ljava/lang/String;)Ljava/lang/String;"⟩ : MethodName)) hown (hw _ (List.mem_of_getElem? (i := 27) rfl)) (hw _ (List.mem_of_getElem? (i := 28) rfl)) (hw _ (List.mem_of_getElem? (i := 29) rfl)) (hw _ (List.mem_of_getElem? (i := 30) rfl)) (by decide) (W := 0) (rmL_s l Z a0 hw o353 b353 k353 z353 vs353 T353.heap n0 (Nat.le_trans Z0 K353.1) fv353 vb353 eo353 hz353) rfl (by decide) (by decide) (by decide) (by decide) (fun _ _ => trivial) (g := (mkF m 63 #[.val (.int kz), .val (.int xa), .val (.int xb), .val (.int xc), .val (.int (0 : Int32)), .val (.int (3 : Int32)), .val (.int ((xa &&& (65535 : Int32)).toUInt32.toUInt16.toUInt32.toInt32)), .val (.int ((xb &&& (65535 : Int32)).toUInt32.toUInt16.toUInt32.toInt32)), .val (.int ((xc &&& (65535 : Int32)).toUInt32.toUInt16.toUInt32.toInt32)), .val (.ref o353), .unset] [(.ref o353)])) rfl (by rw [hml]; rfl) (argsL := [(.ref o353)]) (rest := []) (lenOf pd_11 rfl) rfl (by show 2 * 0 + _ ≤ _; exact Nat.le_of_eq rfl) (hb hby at_63) ?_
      intro v354 T354 L354 X354 hS hZ hown hV354 hQ354
      obtain ⟨rfl, Nq354, he354⟩ := hQ354
      have N354 := Fr.app N353 Nq354
      have e354 : T354.heap = T353.heap := he354
      show Run p e below s _ _ _ (T354.setTop (mkF m 66 #[.val (.int kz), .val (.int xa), .val (.int xb), .val (.int xc), .val (.int (0 : Int32)), .val (.int (3 : Int32)), .val (.int ((xa &&& (65535 : Int32)).toUInt32.toUInt16.toUInt32.toInt32)), .val (.int ((xb &&& (65535 : Int32)).toUInt32.toUInt16.toUInt32.toInt32)), .val (.int ((xc &&& (65535 : Int32)).toUInt32.toUInt16.toUInt32.toInt32)), .val (.ref o353), .unset] [(.ref o353)]))
      refine Run.pre (fun _ k => XS.astore X354.here hx rfl (hb hby at_66) rfl rfl (l' := #[.val (.int kz), .val (.int xa), .val (.int xb), .val (.int xc), .val (.int (0 : Int32)), .val (.int (3 : Int32)), .val (.int ((xa &&& (65535 : Int32)).toUInt32.toUInt16.toUInt32.toInt32)), .val (.int ((xb &&& (65535 : Int32)).toUInt32.toUInt16.toUInt32.toInt32)), .val (.int ((xc &&& (65535 : Int32)).toUInt32.toUInt16.toUInt32.toInt32)), .val (.ref o353), .val (.ref o353)]) rfl k) ?_
      show Run p e below s _ _ _ (T354.setTop (mkF m 68 #[.val (.int kz), .val (.int xa), .val (.int xb), .val (.int xc), .val (.int (0 : Int32)), .val (.int (3 : Int32)), .val (.int ((xa &&& (65535 : Int32)).toUInt32.toUInt16.toUInt32.toInt32)), .val (.int ((xb &&& (65535 : Int32)).toUInt32.toUInt16.toUInt32.toInt32)), .val (.int ((xc &&& (65535 : Int32)).toUInt32.toUInt16.toUInt32.toInt32)), .val (.ref o353), .val (.ref o353)] []))
      refine Run.pre (fun _ k => XS.iload X354.here hx rfl (hb hby at_68) rfl  k) ?_
      show Run p e below s _ _ _ (T354.setTop (mkF m 70 #[.val (.int kz), .val (.int xa), .val (.int xb), .val (.int xc), .val (.int (0 : Int32)), .val (.int (3 : Int32)), .val (.int ((xa &&& (65535 : Int32)).toUInt32.toUInt16.toUInt32.toInt32)), .val (.int ((xb &&& (65535 : Int32)).toUInt32.toUInt16.toUInt32.toInt32)), .val (.int ((xc &&& (65535 : Int32)).toUInt32.toUInt16.toUInt32.toInt32)), .val (.ref o353), .val (.ref o353)] [(.int (0 : Int32))]))
      refine Run.pre (fun _ k => XS.ifNo X354.here hx rfl (hb hby at_70) rfl ((if0 _ _).trans (teq ((by decide) : (0 : Int32) = (0 : Int32))).2) k) ?_
      show Run p e below s _ _ _ (T354.setTop (mkF m 73 #[.val (.int kz), .val (.int xa), .val (.int xb), .val (.int xc), .val (.int (0 : Int32)), .val (.int (3 : Int32)), .val (.int ((xa &&& (65535 : Int32)).toUInt32.toUInt16.toUInt32.toInt32)), .val (.int ((xb &&& (65535 : Int32)).toUInt32.toUInt16.toUInt32.toInt32)), .val (.int ((xc &&& (65535 : Int32)).toUInt32.toUInt16.toUInt32.toInt32)), .val (.ref o353), .val (.ref o353)] []))
      refine Run.pre (fun _ k => XS.iload X354.here hx rfl (hb hby at_73) rfl  k) ?_
      show Run p e below s _ _ _ (T354.setTop (mkF m 75 #[.val (.int kz), .val (.int xa), .val (.int xb), .val (.int xc), .val (.int (0 : Int32)), .val (.int (3 : Int32)), .val (.int ((xa &&& (65535 : Int32)).toUInt32.toUInt16.toUInt32.toInt32)), .val (.int ((xb &&& (65535 : Int32)).toUInt32.toUInt16.toUInt32.toInt32)), .val (.int ((xc &&& (65535 : Int32)).toUInt32.toUInt16.toUInt32.toInt32)), .val (.ref o353), .val (.ref o353)] [(.int (3 : Int32))]))
      refine Run.pre (fun _ k => XS.ifYes X354.here hx rfl (pc0 := 75) (pc' := 89) rfl (hb hby at_75) rfl ((if0 _ _).trans (feq ((by decide) : ¬ ((3 : Int32) = (0 : Int32)))).2) (by decide) (by decide) k) ?_
      show Run p e below s _ _ _ (T354.setTop (mkF m 89 #[.val (.int kz), .val (.int xa), .val (.int xb), .val (.int xc), .val (.int (0 : Int32)), .val (.int (3 : Int32)), .val (.int ((xa &&& (65535 : Int32)).toUInt32.toUInt16.toUInt32.toInt32)), .val (.int ((xb &&& (65535 : Int32)).toUInt32.toUInt16.toUInt32.toInt32)), .val (.int ((xc &&& (65535 : Int32)).toUInt32.toUInt16.toUInt32.toInt32)), .val (.ref o353), .val (.ref o353)] []))
      refine Run.pre (fun _ k => XS.aload X354.here hx rfl (hb hby at_89) rfl rfl k) ?_
      show Run p e below s _ _ _ (T354.setTop (mkF m 91 #[.val (.int kz), .val (.int xa), .val (.int xb), .val (.int xc), .val (.int (0 : Int32)), .val (.int (3 : Int32)), .val (.int ((xa &&& (65535 : Int32)).toUInt32.toUInt16.toUInt32.toInt32)), .val (.int ((xb &&& (65535 : Int32)).toUInt32.toUInt16.toUInt32.toInt32)), .val (.int ((xc &&& (65535 : Int32)).toUInt32.toUInt16.toUInt32.toInt32)), .val (.ref o353), .val (.ref o353)] [(.ref o353)]))
      refine Run.pre (fun _ k => XS.ifnullNo X354.here hx rfl (hb hby at_91) rfl k) ?_
      show Run p e below s _ _ _ (T354.setTop (mkF m 94 #[.val (.int kz), .val (.int xa), .val (.int xb), .val (.int xc), .val (.int (0 : Int32)), .val (.int (3 : Int32)), .val (.int ((xa &&& (65535 : Int32)).toUInt32.toUInt16.toUInt32.toInt32)), .val (.int ((xb &&& (65535 : Int32)).toUInt32.toUInt16.toUInt32.toInt32)), .val (.int ((xc &&& (65535 : Int32)).toUInt32.toUInt16.toUInt32.toInt32)), .val (.ref o353), .val (.ref o353)] []))
      refine Run.pre (fun _ k => XS.aload X354.here hx rfl (hb hby at_94) rfl rfl k) ?_
      show Run p e below s _ _ _ (T354.setTop (mkF m 96 #[.val (.int kz), .val (.int xa), .val (.int xb), .val (.int xc), .val (.int (0 : Int32)), .val (.int (3 : Int32)), .val (.int ((xa &&& (65535 : Int32)).toUInt32.toUInt16.toUInt32.toInt32)), .val (.int ((xb &&& (65535 : Int32)).toUInt32.toUInt16.toUInt32.toInt32)), .val (.int ((xc &&& (65535 : Int32)).toUInt32.toUInt16.toUInt32.toInt32)), .val (.ref o353), .val (.ref o353)] [(.ref o353)]))
      refine Run.pre (fun _ k => XS.aload X354.here hx rfl (hb hby at_96) rfl rfl k) ?_
      show Run p e below s _ _ _ (T354.setTop (mkF m 98 #[.val (.int kz), .val (.int xa), .val (.int xb), .val (.int xc), .val (.int (0 : Int32)), .val (.int (3 : Int32)), .val (.int ((xa &&& (65535 : Int32)).toUInt32.toUInt16.toUInt32.toInt32)), .val (.int ((xb &&& (65535 : Int32)).toUInt32.toUInt16.toUInt32.toInt32)), .val (.int ((xc &&& (65535 : Int32)).toUInt32.toUInt16.toUInt32.toInt32)), .val (.ref o353), .val (.ref o353)] [(.ref o353), (.ref o353)]))
      refine Run.callV hS (by first | exact Nat.le_refl _ | (rw [e354]; exact (Nat.le_of_eq (congrArg Array.size e354)))) X354 hx hZ (y := (⟨"java/lang/String", "equals", "(Ljava/lang/Object;)Z"⟩ : MethodName)) (z := (⟨"java/lang/String", "equals", "(Ljava/lang/Object;)Z"⟩ : MethodName)) hown (hw _ (List.mem_of_getElem? (i := 66) rfl)) (hw _ (List.mem_of_getElem? (i := 67) rfl)) (notFace_of_selects (args := #[]) (mvT hZ (hw _ (List.mem_of_getElem? (i := 69) rfl)))) (hw _ (List.mem_of_getElem? (i := 69) rfl)) (hw _ (List.mem_of_getElem? (i := 68) rfl)) (hw _ (List.mem_of_getElem? (i := 70) rfl)) (hw _ (List.mem_of_getElem? (i := 7) rfl)) (by decide) (b := o353) eo353 (W := 0) (rmEq l Z a0 hw o353 T353.heap n0 (Nat.le_trans Z0 K353.1)) e354 (by decide) (by decide) (by decide) (by decide) (fun _ _ => trivial) (g := (mkF m 98 #[.val (.int kz), .val (.int xa), .val (.int xb), .val (.int xc), .val (.int (0 : Int32)), .val (.int (3 : Int32)), .val (.int ((xa &&& (65535 : Int32)).toUInt32.toUInt16.toUInt32.toInt32)), .val (.int ((xb &&& (65535 : Int32)).toUInt32.toUInt16.toUInt32.toInt32)), .val (.int ((xc &&& (65535 : Int32)).toUInt32.toUInt16.toUInt32.toInt32)), .val (.ref o353), .val (.ref o353)] [(.ref o353), (.ref o353)])) rfl (by rw [hml]; rfl) (argsL := [(.ref o353)]) (rest := []) (lenOf pd_12 rfl) rfl (by show 2 * 0 + _ ≤ _; exact Nat.le_of_eq rfl) (hb hby at_98) ?_
      intro v355 T355 L355 X355 hS hZ hown hV355 hQ355
      obtain ⟨rfl, Nq355, he355⟩ := hQ355
      have N355 := Fr.app N354 Nq355
      have e355 : T355.heap = T353.heap := he355
      show Run p e below s _ _ _ (T355.setTop (mkF m 101 #[.val (.int kz), .val (.int xa), .val (.int xb), .val (.int xc), .val (.int (0 : Int32)), .val (.int (3 : Int32)), .val (.int ((xa &&& (65535 : Int32)).toUInt32.toUInt16.toUInt32.toInt32)), .val (.int ((xb &&& (65535 : Int32)).toUInt32.toUInt16.toUInt32.toInt32)), .val (.int ((xc &&& (65535 : Int32)).toUInt32.toUInt16.toUInt32.toInt32)), .val (.ref o353), .val (.ref o353)] [(.int (1 : Int32))]))
      refine Run.pre (fun _ k => XS.ifNo X355.here hx rfl (hb hby at_101) rfl ((if0 _ _).trans (feq ((by decide) : ¬ ((1 : Int32) = (0 : Int32)))).1) k) ?_
      show Run p e below s _ _ _ (T355.setTop (mkF m 104 #[.val (.int kz), .val (.int xa), .val (.int xb), .val (.int xc), .val (.int (0 : Int32)), .val (.int (3 : Int32)), .val (.int ((xa &&& (65535 : Int32)).toUInt32.toUInt16.toUInt32.toInt32)), .val (.int ((xb &&& (65535 : Int32)).toUInt32.toUInt16.toUInt32.toInt32)), .val (.int ((xc &&& (65535 : Int32)).toUInt32.toUInt16.toUInt32.toInt32)), .val (.ref o353), .val (.ref o353)] []))
      refine Run.pre (fun _ k => XS.iconst X355.here hx rfl (hb hby at_104) k) ?_
      show Run p e below s _ _ _ (T355.setTop (mkF m 105 #[.val (.int kz), .val (.int xa), .val (.int xb), .val (.int xc), .val (.int (0 : Int32)), .val (.int (3 : Int32)), .val (.int ((xa &&& (65535 : Int32)).toUInt32.toUInt16.toUInt32.toInt32)), .val (.int ((xb &&& (65535 : Int32)).toUInt32.toUInt16.toUInt32.toInt32)), .val (.int ((xc &&& (65535 : Int32)).toUInt32.toUInt16.toUInt32.toInt32)), .val (.ref o353), .val (.ref o353)] [(.int (1 : Int32))]))
      refine Run.pre (fun _ k => XS.goto X355.here hx rfl (pc0 := 105) (pc' := 109) rfl (hb hby at_105) (by decide) (by decide) k) ?_
      show Run p e below s _ _ _ (T355.setTop (mkF m 109 #[.val (.int kz), .val (.int xa), .val (.int xb), .val (.int xc), .val (.int (0 : Int32)), .val (.int (3 : Int32)), .val (.int ((xa &&& (65535 : Int32)).toUInt32.toUInt16.toUInt32.toInt32)), .val (.int ((xb &&& (65535 : Int32)).toUInt32.toUInt16.toUInt32.toInt32)), .val (.int ((xc &&& (65535 : Int32)).toUInt32.toUInt16.toUInt32.toInt32)), .val (.ref o353), .val (.ref o353)] [(.int (1 : Int32))]))
      exact Run.retN hS (by first | exact Nat.le_refl _ | (rw [e355]; exact (Nat.le_of_eq (congrArg Array.size e355)))) X355 hx hret (t := .boolean) (by simp) hlk (hb hby at_109) (by first | (rw [e355]; exact ⟨rfl, N355⟩) | exact ⟨rfl, N355⟩) (by decide) (by decide)
  · skip
    refine Run.pre (fun _ k => XS.ifNo X0.here hx rfl (hb hby at_3) rfl ((if0 _ _).trans (feq (hc344 : ¬ ((kz &&& (4 : Int32)) = (0 : Int32)))).1) k) ?_
    show Run p e below s _ _ _ (s₁.setTop (mkF m 6 #[.val (.int kz), .val (.int xa), .val (.int xb), .val (.int xc), .unset, .unset, .unset, .unset, .unset, .unset, .unset] []))
    refine Run.pre (fun _ k => XS.iconst X0.here hx rfl (hb hby at_6) k) ?_
    show Run p e below s _ _ _ (s₁.setTop (mkF m 7 #[.val (.int kz), .val (.int xa), .val (.int xb), .val (.int xc), .unset, .unset, .unset, .unset, .unset, .unset, .unset] [(.int (1 : Int32))]))
    refine Run.pre (fun _ k => XS.goto X0.here hx rfl (pc0 := 7) (pc' := 11) rfl (hb hby at_7) (by decide) (by decide) k) ?_
    show Run p e below s _ _ _ (s₁.setTop (mkF m 11 #[.val (.int kz), .val (.int xa), .val (.int xb), .val (.int xc), .unset, .unset, .unset, .unset, .unset, .unset, .unset] [(.int (1 : Int32))]))
    refine Run.pre (fun _ k => XS.istore X0.here hx rfl (hb hby at_11) rfl (l' := #[.val (.int kz), .val (.int xa), .val (.int xb), .val (.int xc), .val (.int (1 : Int32)), .unset, .unset, .unset, .unset, .unset, .unset]) rfl k) ?_
    show Run p e below s _ _ _ (s₁.setTop (mkF m 13 #[.val (.int kz), .val (.int xa), .val (.int xb), .val (.int xc), .val (.int (1 : Int32)), .unset, .unset, .unset, .unset, .unset, .unset] []))
    refine Run.pre (fun _ k => XS.iloadN X0.here hx rfl (hb hby at_13) rfl  k) ?_
    show Run p e below s _ _ _ (s₁.setTop (mkF m 14 #[.val (.int kz), .val (.int xa), .val (.int xb), .val (.int xc), .val (.int (1 : Int32)), .unset, .unset, .unset, .unset, .unset, .unset] [(.int kz)]))
    refine Run.pre (fun _ k => XS.iconst X0.here hx rfl (hb hby at_14) k) ?_
    show Run p e below s _ _ _ (s₁.setTop (mkF m 15 #[.val (.int kz), .val (.int xa), .val (.int xb), .val (.int xc), .val (.int (1 : Int32)), .unset, .unset, .unset, .unset, .unset, .unset] [(.int (3 : Int32)), (.int kz)]))
    refine Run.pre (fun _ k => XS.iand X0.here hx rfl (hb hby at_15) rfl k) ?_
    show Run p e below s _ _ _ (s₁.setTop (mkF m 16 #[.val (.int kz), .val (.int xa), .val (.int xb), .val (.int xc), .val (.int (1 : Int32)), .unset, .unset, .unset, .unset, .unset, .unset] [(.int (kz &&& (3 : Int32)))]))
    refine Run.pre (fun _ k => XS.istore X0.here hx rfl (hb hby at_16) rfl (l' := #[.val (.int kz), .val (.int xa), .val (.int xb), .val (.int xc), .val (.int (1 : Int32)), .val (.int (kz &&& (3 : Int32))), .unset, .unset, .unset, .unset, .unset]) rfl k) ?_
    show Run p e below s _ _ _ (s₁.setTop (mkF m 18 #[.val (.int kz), .val (.int xa), .val (.int xb), .val (.int xc), .val (.int (1 : Int32)), .val (.int (kz &&& (3 : Int32))), .unset, .unset, .unset, .unset, .unset] []))
    rcases own_and3 kz with hn | hn | hn | hn
    · rw [hn]
      show Run p e below s _ _ _ (s₁.setTop (mkF m 18 #[.val (.int kz), .val (.int xa), .val (.int xb), .val (.int xc), .val (.int (1 : Int32)), .val (.int (0 : Int32)), .unset, .unset, .unset, .unset, .unset] []))
      refine Run.pre (fun _ k => XS.iloadN X0.here hx rfl (hb hby at_18) rfl  k) ?_
      show Run p e below s _ _ _ (s₁.setTop (mkF m 19 #[.val (.int kz), .val (.int xa), .val (.int xb), .val (.int xc), .val (.int (1 : Int32)), .val (.int (0 : Int32)), .unset, .unset, .unset, .unset, .unset] [(.int xa)]))
      refine Run.pre (X0.ldcInt hx hown (mvT hZ (hw _ (List.mem_of_getElem? (i := 0) rfl))) (g := (mkF m 19 #[.val (.int kz), .val (.int xa), .val (.int xb), .val (.int xc), .val (.int (1 : Int32)), .val (.int (0 : Int32)), .unset, .unset, .unset, .unset, .unset] [(.int xa)])) rfl (hb hby at_19)) ?_
      show Run p e below s _ _ _ (s₁.setTop (mkF m 21 #[.val (.int kz), .val (.int xa), .val (.int xb), .val (.int xc), .val (.int (1 : Int32)), .val (.int (0 : Int32)), .unset, .unset, .unset, .unset, .unset] [(.int (65535 : Int32)), (.int xa)]))
      refine Run.pre (fun _ k => XS.iand X0.here hx rfl (hb hby at_21) rfl k) ?_
      show Run p e below s _ _ _ (s₁.setTop (mkF m 22 #[.val (.int kz), .val (.int xa), .val (.int xb), .val (.int xc), .val (.int (1 : Int32)), .val (.int (0 : Int32)), .unset, .unset, .unset, .unset, .unset] [(.int (xa &&& (65535 : Int32)))]))
      refine Run.pre (fun _ k => XS.i2c X0.here hx rfl (hb hby at_22) rfl k) ?_
      show Run p e below s _ _ _ (s₁.setTop (mkF m 23 #[.val (.int kz), .val (.int xa), .val (.int xb), .val (.int xc), .val (.int (1 : Int32)), .val (.int (0 : Int32)), .unset, .unset, .unset, .unset, .unset] [(.int ((xa &&& (65535 : Int32)).toUInt32.toUInt16.toUInt32.toInt32))]))
      refine Run.pre (fun _ k => XS.istore X0.here hx rfl (hb hby at_23) rfl (l' := #[.val (.int kz), .val (.int xa), .val (.int xb), .val (.int xc), .val (.int (1 : Int32)), .val (.int (0 : Int32)), .val (.int ((xa &&& (65535 : Int32)).toUInt32.toUInt16.toUInt32.toInt32)), .unset, .unset, .unset, .unset]) rfl k) ?_
      show Run p e below s _ _ _ (s₁.setTop (mkF m 25 #[.val (.int kz), .val (.int xa), .val (.int xb), .val (.int xc), .val (.int (1 : Int32)), .val (.int (0 : Int32)), .val (.int ((xa &&& (65535 : Int32)).toUInt32.toUInt16.toUInt32.toInt32)), .unset, .unset, .unset, .unset] []))
      refine Run.pre (fun _ k => XS.iloadN X0.here hx rfl (hb hby at_25) rfl  k) ?_
      show Run p e below s _ _ _ (s₁.setTop (mkF m 26 #[.val (.int kz), .val (.int xa), .val (.int xb), .val (.int xc), .val (.int (1 : Int32)), .val (.int (0 : Int32)), .val (.int ((xa &&& (65535 : Int32)).toUInt32.toUInt16.toUInt32.toInt32)), .unset, .unset, .unset, .unset] [(.int xb)]))
      refine Run.pre (X0.ldcInt hx hown (mvT hZ (hw _ (List.mem_of_getElem? (i := 0) rfl))) (g := (mkF m 26 #[.val (.int kz), .val (.int xa), .val (.int xb), .val (.int xc), .val (.int (1 : Int32)), .val (.int (0 : Int32)), .val (.int ((xa &&& (65535 : Int32)).toUInt32.toUInt16.toUInt32.toInt32)), .unset, .unset, .unset, .unset] [(.int xb)])) rfl (hb hby at_26)) ?_
      show Run p e below s _ _ _ (s₁.setTop (mkF m 28 #[.val (.int kz), .val (.int xa), .val (.int xb), .val (.int xc), .val (.int (1 : Int32)), .val (.int (0 : Int32)), .val (.int ((xa &&& (65535 : Int32)).toUInt32.toUInt16.toUInt32.toInt32)), .unset, .unset, .unset, .unset] [(.int (65535 : Int32)), (.int xb)]))
      refine Run.pre (fun _ k => XS.iand X0.here hx rfl (hb hby at_28) rfl k) ?_
      show Run p e below s _ _ _ (s₁.setTop (mkF m 29 #[.val (.int kz), .val (.int xa), .val (.int xb), .val (.int xc), .val (.int (1 : Int32)), .val (.int (0 : Int32)), .val (.int ((xa &&& (65535 : Int32)).toUInt32.toUInt16.toUInt32.toInt32)), .unset, .unset, .unset, .unset] [(.int (xb &&& (65535 : Int32)))]))
      refine Run.pre (fun _ k => XS.i2c X0.here hx rfl (hb hby at_29) rfl k) ?_
      show Run p e below s _ _ _ (s₁.setTop (mkF m 30 #[.val (.int kz), .val (.int xa), .val (.int xb), .val (.int xc), .val (.int (1 : Int32)), .val (.int (0 : Int32)), .val (.int ((xa &&& (65535 : Int32)).toUInt32.toUInt16.toUInt32.toInt32)), .unset, .unset, .unset, .unset] [(.int ((xb &&& (65535 : Int32)).toUInt32.toUInt16.toUInt32.toInt32))]))
      refine Run.pre (fun _ k => XS.istore X0.here hx rfl (hb hby at_30) rfl (l' := #[.val (.int kz), .val (.int xa), .val (.int xb), .val (.int xc), .val (.int (1 : Int32)), .val (.int (0 : Int32)), .val (.int ((xa &&& (65535 : Int32)).toUInt32.toUInt16.toUInt32.toInt32)), .val (.int ((xb &&& (65535 : Int32)).toUInt32.toUInt16.toUInt32.toInt32)), .unset, .unset, .unset]) rfl k) ?_
      show Run p e below s _ _ _ (s₁.setTop (mkF m 32 #[.val (.int kz), .val (.int xa), .val (.int xb), .val (.int xc), .val (.int (1 : Int32)), .val (.int (0 : Int32)), .val (.int ((xa &&& (65535 : Int32)).toUInt32.toUInt16.toUInt32.toInt32)), .val (.int ((xb &&& (65535 : Int32)).toUInt32.toUInt16.toUInt32.toInt32)), .unset, .unset, .unset] []))
      refine Run.pre (fun _ k => XS.iloadN X0.here hx rfl (hb hby at_32) rfl  k) ?_
      show Run p e below s _ _ _ (s₁.setTop (mkF m 33 #[.val (.int kz), .val (.int xa), .val (.int xb), .val (.int xc), .val (.int (1 : Int32)), .val (.int (0 : Int32)), .val (.int ((xa &&& (65535 : Int32)).toUInt32.toUInt16.toUInt32.toInt32)), .val (.int ((xb &&& (65535 : Int32)).toUInt32.toUInt16.toUInt32.toInt32)), .unset, .unset, .unset] [(.int xc)]))
      refine Run.pre (X0.ldcInt hx hown (mvT hZ (hw _ (List.mem_of_getElem? (i := 0) rfl))) (g := (mkF m 33 #[.val (.int kz), .val (.int xa), .val (.int xb), .val (.int xc), .val (.int (1 : Int32)), .val (.int (0 : Int32)), .val (.int ((xa &&& (65535 : Int32)).toUInt32.toUInt16.toUInt32.toInt32)), .val (.int ((xb &&& (65535 : Int32)).toUInt32.toUInt16.toUInt32.toInt32)), .unset, .unset, .unset] [(.int xc)])) rfl (hb hby at_33)) ?_
      show Run p e below s _ _ _ (s₁.setTop (mkF m 35 #[.val (.int kz), .val (.int xa), .val (.int xb), .val (.int xc), .val (.int (1 : Int32)), .val (.int (0 : Int32)), .val (.int ((xa &&& (65535 : Int32)).toUInt32.toUInt16.toUInt32.toInt32)), .val (.int ((xb &&& (65535 : Int32)).toUInt32.toUInt16.toUInt32.toInt32)), .unset, .unset, .unset] [(.int (65535 : Int32)), (.int xc)]))
      refine Run.pre (fun _ k => XS.iand X0.here hx rfl (hb hby at_35) rfl k) ?_
      show Run p e below s _ _ _ (s₁.setTop (mkF m 36 #[.val (.int kz), .val (.int xa), .val (.int xb), .val (.int xc), .val (.int (1 : Int32)), .val (.int (0 : Int32)), .val (.int ((xa &&& (65535 : Int32)).toUInt32.toUInt16.toUInt32.toInt32)), .val (.int ((xb &&& (65535 : Int32)).toUInt32.toUInt16.toUInt32.toInt32)), .unset, .unset, .unset] [(.int (xc &&& (65535 : Int32)))]))
      refine Run.pre (fun _ k => XS.i2c X0.here hx rfl (hb hby at_36) rfl k) ?_
      show Run p e below s _ _ _ (s₁.setTop (mkF m 37 #[.val (.int kz), .val (.int xa), .val (.int xb), .val (.int xc), .val (.int (1 : Int32)), .val (.int (0 : Int32)), .val (.int ((xa &&& (65535 : Int32)).toUInt32.toUInt16.toUInt32.toInt32)), .val (.int ((xb &&& (65535 : Int32)).toUInt32.toUInt16.toUInt32.toInt32)), .unset, .unset, .unset] [(.int ((xc &&& (65535 : Int32)).toUInt32.toUInt16.toUInt32.toInt32))]))
      refine Run.pre (fun _ k => XS.istore X0.here hx rfl (hb hby at_37) rfl (l' := #[.val (.int kz), .val (.int xa), .val (.int xb), .val (.int xc), .val (.int (1 : Int32)), .val (.int (0 : Int32)), .val (.int ((xa &&& (65535 : Int32)).toUInt32.toUInt16.toUInt32.toInt32)), .val (.int ((xb &&& (65535 : Int32)).toUInt32.toUInt16.toUInt32.toInt32)), .val (.int ((xc &&& (65535 : Int32)).toUInt32.toUInt16.toUInt32.toInt32)), .unset, .unset]) rfl k) ?_
      show Run p e below s _ _ _ (s₁.setTop (mkF m 39 #[.val (.int kz), .val (.int xa), .val (.int xb), .val (.int xc), .val (.int (1 : Int32)), .val (.int (0 : Int32)), .val (.int ((xa &&& (65535 : Int32)).toUInt32.toUInt16.toUInt32.toInt32)), .val (.int ((xb &&& (65535 : Int32)).toUInt32.toUInt16.toUInt32.toInt32)), .val (.int ((xc &&& (65535 : Int32)).toUInt32.toUInt16.toUInt32.toInt32)), .unset, .unset] []))
      refine Run.pre (fun _ k => XS.iload X0.here hx rfl (hb hby at_39) rfl  k) ?_
      show Run p e below s _ _ _ (s₁.setTop (mkF m 41 #[.val (.int kz), .val (.int xa), .val (.int xb), .val (.int xc), .val (.int (1 : Int32)), .val (.int (0 : Int32)), .val (.int ((xa &&& (65535 : Int32)).toUInt32.toUInt16.toUInt32.toInt32)), .val (.int ((xb &&& (65535 : Int32)).toUInt32.toUInt16.toUInt32.toInt32)), .val (.int ((xc &&& (65535 : Int32)).toUInt32.toUInt16.toUInt32.toInt32)), .unset, .unset] [(.int (1 : Int32))]))
      refine Run.pre (fun _ k => XS.ifNo X0.here hx rfl (hb hby at_41) rfl ((if0 _ _).trans (feq ((by decide) : ¬ ((1 : Int32) = (0 : Int32)))).1) k) ?_
      show Run p e below s _ _ _ (s₁.setTop (mkF m 44 #[.val (.int kz), .val (.int xa), .val (.int xb), .val (.int xc), .val (.int (1 : Int32)), .val (.int (0 : Int32)), .val (.int ((xa &&& (65535 : Int32)).toUInt32.toUInt16.toUInt32.toInt32)), .val (.int ((xb &&& (65535 : Int32)).toUInt32.toUInt16.toUInt32.toInt32)), .val (.int ((xc &&& (65535 : Int32)).toUInt32.toUInt16.toUInt32.toInt32)), .unset, .unset] []))
      refine Run.pre (fun _ k => XS.aconstNull X0.here hx rfl (hb hby at_44) k) ?_
      show Run p e below s _ _ _ (s₁.setTop (mkF m 45 #[.val (.int kz), .val (.int xa), .val (.int xb), .val (.int xc), .val (.int (1 : Int32)), .val (.int (0 : Int32)), .val (.int ((xa &&& (65535 : Int32)).toUInt32.toUInt16.toUInt32.toInt32)), .val (.int ((xb &&& (65535 : Int32)).toUInt32.toUInt16.toUInt32.toInt32)), .val (.int ((xc &&& (65535 : Int32)).toUInt32.toUInt16.toUInt32.toInt32)), .unset, .unset] [.null]))
      refine Run.pre (fun _ k => XS.goto X0.here hx rfl (pc0 := 45) (pc' := 59) rfl (hb hby at_45) (by decide) (by decide) k) ?_
      show Run p e below s _ _ _ (s₁.setTop (mkF m 59 #[.val (.int kz), .val (.int xa), .val (.int xb), .val (.int xc), .val (.int (1 : Int32)), .val (.int (0 : Int32)), .val (.int ((xa &&& (65535 : Int32)).toUInt32.toUInt16.toUInt32.toInt32)), .val (.int ((xb &&& (65535 : Int32)).toUInt32.toUInt16.toUInt32.toInt32)), .val (.int ((xc &&& (65535 : Int32)).toUInt32.toUInt16.toUInt32.toInt32)), .unset, .unset] [.null]))
      refine Run.pre (fun _ k => XS.astore X0.here hx rfl (hb hby at_59) rfl rfl (l' := #[.val (.int kz), .val (.int xa), .val (.int xb), .val (.int xc), .val (.int (1 : Int32)), .val (.int (0 : Int32)), .val (.int ((xa &&& (65535 : Int32)).toUInt32.toUInt16.toUInt32.toInt32)), .val (.int ((xb &&& (65535 : Int32)).toUInt32.toUInt16.toUInt32.toInt32)), .val (.int ((xc &&& (65535 : Int32)).toUInt32.toUInt16.toUInt32.toInt32)), .val .null, .unset]) rfl k) ?_
      show Run p e below s _ _ _ (s₁.setTop (mkF m 61 #[.val (.int kz), .val (.int xa), .val (.int xb), .val (.int xc), .val (.int (1 : Int32)), .val (.int (0 : Int32)), .val (.int ((xa &&& (65535 : Int32)).toUInt32.toUInt16.toUInt32.toInt32)), .val (.int ((xb &&& (65535 : Int32)).toUInt32.toUInt16.toUInt32.toInt32)), .val (.int ((xc &&& (65535 : Int32)).toUInt32.toUInt16.toUInt32.toInt32)), .val .null, .unset] []))
      refine Run.pre (fun _ k => XS.aload X0.here hx rfl (hb hby at_61) rfl rfl k) ?_
      show Run p e below s _ _ _ (s₁.setTop (mkF m 63 #[.val (.int kz), .val (.int xa), .val (.int xb), .val (.int xc), .val (.int (1 : Int32)), .val (.int (0 : Int32)), .val (.int ((xa &&& (65535 : Int32)).toUInt32.toUInt16.toUInt32.toInt32)), .val (.int ((xb &&& (65535 : Int32)).toUInt32.toUInt16.toUInt32.toInt32)), .val (.int ((xc &&& (65535 : Int32)).toUInt32.toUInt16.toUInt32.toInt32)), .val .null, .unset] [.null]))
      refine Run.callS hS (by first | exact Nat.le_refl _ | (rw [e0]; exact (Nat.zero_le _))) X0 hx hZ (y := (⟨"com/example/humble_issuer/humbleissuer/web/QueryParameters", "leftOutIfEmpty", "(Ljava/lang/String;)Ljava/lang/String;"⟩ : MethodName)) hown (hw _ (List.mem_of_getElem? (i := 27) rfl)) (hw _ (List.mem_of_getElem? (i := 28) rfl)) (hw _ (List.mem_of_getElem? (i := 29) rfl)) (hw _ (List.mem_of_getElem? (i := 30) rfl)) (by decide) (W := 0) (rmL_n l Z a0 hw h0 n0 (Nat.le_trans Z0 (Keep.refl h0 []).1)) e0 (by decide) (by decide) (by decide) (by decide) (fun _ _ => trivial) (g := (mkF m 63 #[.val (.int kz), .val (.int xa), .val (.int xb), .val (.int xc), .val (.int (1 : Int32)), .val (.int (0 : Int32)), .val (.int ((xa &&& (65535 : Int32)).toUInt32.toUInt16.toUInt32.toInt32)), .val (.int ((xb &&& (65535 : Int32)).toUInt32.toUInt16.toUInt32.toInt32)), .val (.int ((xc &&& (65535 : Int32)).toUInt32.toUInt16.toUInt32.toInt32)), .val .null, .unset] [.null])) rfl (by rw [hml]; rfl) (argsL := [.null]) (rest := []) (lenOf pd_11 rfl) rfl (by show 2 * 0 + _ ≤ _; exact Nat.le_of_eq rfl) (hb hby at_63) ?_
      intro v356 T356 L356 X356 hS hZ hown hV356 hQ356
      obtain ⟨rfl, Nq356, he356⟩ := hQ356
      have N356 := Fr.app N0 Nq356
      have e356 : T356.heap = h0 := he356
      show Run p e below s _ _ _ (T356.setTop (mkF m 66 #[.val (.int kz), .val (.int xa), .val (.int xb), .val (.int xc), .val (.int (1 : Int32)), .val (.int (0 : Int32)), .val (.int ((xa &&& (65535 : Int32)).toUInt32.toUInt16.toUInt32.toInt32)), .val (.int ((xb &&& (65535 : Int32)).toUInt32.toUInt16.toUInt32.toInt32)), .val (.int ((xc &&& (65535 : Int32)).toUInt32.toUInt16.toUInt32.toInt32)), .val .null, .unset] [.null]))
      refine Run.pre (fun _ k => XS.astore X356.here hx rfl (hb hby at_66) rfl rfl (l' := #[.val (.int kz), .val (.int xa), .val (.int xb), .val (.int xc), .val (.int (1 : Int32)), .val (.int (0 : Int32)), .val (.int ((xa &&& (65535 : Int32)).toUInt32.toUInt16.toUInt32.toInt32)), .val (.int ((xb &&& (65535 : Int32)).toUInt32.toUInt16.toUInt32.toInt32)), .val (.int ((xc &&& (65535 : Int32)).toUInt32.toUInt16.toUInt32.toInt32)), .val .null, .val .null]) rfl k) ?_
      show Run p e below s _ _ _ (T356.setTop (mkF m 68 #[.val (.int kz), .val (.int xa), .val (.int xb), .val (.int xc), .val (.int (1 : Int32)), .val (.int (0 : Int32)), .val (.int ((xa &&& (65535 : Int32)).toUInt32.toUInt16.toUInt32.toInt32)), .val (.int ((xb &&& (65535 : Int32)).toUInt32.toUInt16.toUInt32.toInt32)), .val (.int ((xc &&& (65535 : Int32)).toUInt32.toUInt16.toUInt32.toInt32)), .val .null, .val .null] []))
      refine Run.pre (fun _ k => XS.iload X356.here hx rfl (hb hby at_68) rfl  k) ?_
      show Run p e below s _ _ _ (T356.setTop (mkF m 70 #[.val (.int kz), .val (.int xa), .val (.int xb), .val (.int xc), .val (.int (1 : Int32)), .val (.int (0 : Int32)), .val (.int ((xa &&& (65535 : Int32)).toUInt32.toUInt16.toUInt32.toInt32)), .val (.int ((xb &&& (65535 : Int32)).toUInt32.toUInt16.toUInt32.toInt32)), .val (.int ((xc &&& (65535 : Int32)).toUInt32.toUInt16.toUInt32.toInt32)), .val .null, .val .null] [(.int (1 : Int32))]))
      refine Run.pre (fun _ k => XS.ifYes X356.here hx rfl (pc0 := 70) (pc' := 78) rfl (hb hby at_70) rfl ((if0 _ _).trans (feq ((by decide) : ¬ ((1 : Int32) = (0 : Int32)))).2) (by decide) (by decide) k) ?_
      show Run p e below s _ _ _ (T356.setTop (mkF m 78 #[.val (.int kz), .val (.int xa), .val (.int xb), .val (.int xc), .val (.int (1 : Int32)), .val (.int (0 : Int32)), .val (.int ((xa &&& (65535 : Int32)).toUInt32.toUInt16.toUInt32.toInt32)), .val (.int ((xb &&& (65535 : Int32)).toUInt32.toUInt16.toUInt32.toInt32)), .val (.int ((xc &&& (65535 : Int32)).toUInt32.toUInt16.toUInt32.toInt32)), .val .null, .val .null] []))
      refine Run.pre (fun _ k => XS.aload X356.here hx rfl (hb hby at_78) rfl rfl k) ?_
      show Run p e below s _ _ _ (T356.setTop (mkF m 80 #[.val (.int kz), .val (.int xa), .val (.int xb), .val (.int xc), .val (.int (1 : Int32)), .val (.int (0 : Int32)), .val (.int ((xa &&& (65535 : Int32)).toUInt32.toUInt16.toUInt32.toInt32)), .val (.int ((xb &&& (65535 : Int32)).toUInt32.toUInt16.toUInt32.toInt32)), .val (.int ((xc &&& (65535 : Int32)).toUInt32.toUInt16.toUInt32.toInt32)), .val .null, .val .null] [.null]))
      refine Run.pre (fun _ k => XS.ifnonnullNo X356.here hx rfl (hb hby at_80) rfl k) ?_
      show Run p e below s _ _ _ (T356.setTop (mkF m 83 #[.val (.int kz), .val (.int xa), .val (.int xb), .val (.int xc), .val (.int (1 : Int32)), .val (.int (0 : Int32)), .val (.int ((xa &&& (65535 : Int32)).toUInt32.toUInt16.toUInt32.toInt32)), .val (.int ((xb &&& (65535 : Int32)).toUInt32.toUInt16.toUInt32.toInt32)), .val (.int ((xc &&& (65535 : Int32)).toUInt32.toUInt16.toUInt32.toInt32)), .val .null, .val .null] []))
      refine Run.pre (fun _ k => XS.iconst X356.here hx rfl (hb hby at_83) k) ?_
      show Run p e below s _ _ _ (T356.setTop (mkF m 84 #[.val (.int kz), .val (.int xa), .val (.int xb), .val (.int xc), .val (.int (1 : Int32)), .val (.int (0 : Int32)), .val (.int ((xa &&& (65535 : Int32)).toUInt32.toUInt16.toUInt32.toInt32)), .val (.int ((xb &&& (65535 : Int32)).toUInt32.toUInt16.toUInt32.toInt32)), .val (.int ((xc &&& (65535 : Int32)).toUInt32.toUInt16.toUInt32.toInt32)), .val .null, .val .null] [(.int (1 : Int32))]))
      refine Run.pre (fun _ k => XS.goto X356.here hx rfl (pc0 := 84) (pc' := 88) rfl (hb hby at_84) (by decide) (by decide) k) ?_
      show Run p e below s _ _ _ (T356.setTop (mkF m 88 #[.val (.int kz), .val (.int xa), .val (.int xb), .val (.int xc), .val (.int (1 : Int32)), .val (.int (0 : Int32)), .val (.int ((xa &&& (65535 : Int32)).toUInt32.toUInt16.toUInt32.toInt32)), .val (.int ((xb &&& (65535 : Int32)).toUInt32.toUInt16.toUInt32.toInt32)), .val (.int ((xc &&& (65535 : Int32)).toUInt32.toUInt16.toUInt32.toInt32)), .val .null, .val .null] [(.int (1 : Int32))]))
      exact Run.retN hS (by first | exact Nat.le_refl _ | (rw [e356]; exact (Nat.le_of_eq (congrArg Array.size e356)))) X356 hx hret (t := .boolean) (by simp) hlk (hb hby at_88) (by first | (rw [e356]; exact ⟨rfl, N356⟩) | exact ⟨rfl, N356⟩) (by decide) (by decide)
    · rw [hn]
      show Run p e below s _ _ _ (s₁.setTop (mkF m 18 #[.val (.int kz), .val (.int xa), .val (.int xb), .val (.int xc), .val (.int (1 : Int32)), .val (.int (1 : Int32)), .unset, .unset, .unset, .unset, .unset] []))
      refine Run.pre (fun _ k => XS.iloadN X0.here hx rfl (hb hby at_18) rfl  k) ?_
      show Run p e below s _ _ _ (s₁.setTop (mkF m 19 #[.val (.int kz), .val (.int xa), .val (.int xb), .val (.int xc), .val (.int (1 : Int32)), .val (.int (1 : Int32)), .unset, .unset, .unset, .unset, .unset] [(.int xa)]))
      refine Run.pre (X0.ldcInt hx hown (mvT hZ (hw _ (List.mem_of_getElem? (i := 0) rfl))) (g := (mkF m 19 #[.val (.int kz), .val (.int xa), .val (.int xb), .val (.int xc), .val (.int (1 : Int32)), .val (.int (1 : Int32)), .unset, .unset, .unset, .unset, .unset] [(.int xa)])) rfl (hb hby at_19)) ?_
      show Run p e below s _ _ _ (s₁.setTop (mkF m 21 #[.val (.int kz), .val (.int xa), .val (.int xb), .val (.int xc), .val (.int (1 : Int32)), .val (.int (1 : Int32)), .unset, .unset, .unset, .unset, .unset] [(.int (65535 : Int32)), (.int xa)]))
      refine Run.pre (fun _ k => XS.iand X0.here hx rfl (hb hby at_21) rfl k) ?_
      show Run p e below s _ _ _ (s₁.setTop (mkF m 22 #[.val (.int kz), .val (.int xa), .val (.int xb), .val (.int xc), .val (.int (1 : Int32)), .val (.int (1 : Int32)), .unset, .unset, .unset, .unset, .unset] [(.int (xa &&& (65535 : Int32)))]))
      refine Run.pre (fun _ k => XS.i2c X0.here hx rfl (hb hby at_22) rfl k) ?_
      show Run p e below s _ _ _ (s₁.setTop (mkF m 23 #[.val (.int kz), .val (.int xa), .val (.int xb), .val (.int xc), .val (.int (1 : Int32)), .val (.int (1 : Int32)), .unset, .unset, .unset, .unset, .unset] [(.int ((xa &&& (65535 : Int32)).toUInt32.toUInt16.toUInt32.toInt32))]))
      refine Run.pre (fun _ k => XS.istore X0.here hx rfl (hb hby at_23) rfl (l' := #[.val (.int kz), .val (.int xa), .val (.int xb), .val (.int xc), .val (.int (1 : Int32)), .val (.int (1 : Int32)), .val (.int ((xa &&& (65535 : Int32)).toUInt32.toUInt16.toUInt32.toInt32)), .unset, .unset, .unset, .unset]) rfl k) ?_
      show Run p e below s _ _ _ (s₁.setTop (mkF m 25 #[.val (.int kz), .val (.int xa), .val (.int xb), .val (.int xc), .val (.int (1 : Int32)), .val (.int (1 : Int32)), .val (.int ((xa &&& (65535 : Int32)).toUInt32.toUInt16.toUInt32.toInt32)), .unset, .unset, .unset, .unset] []))
      refine Run.pre (fun _ k => XS.iloadN X0.here hx rfl (hb hby at_25) rfl  k) ?_
      show Run p e below s _ _ _ (s₁.setTop (mkF m 26 #[.val (.int kz), .val (.int xa), .val (.int xb), .val (.int xc), .val (.int (1 : Int32)), .val (.int (1 : Int32)), .val (.int ((xa &&& (65535 : Int32)).toUInt32.toUInt16.toUInt32.toInt32)), .unset, .unset, .unset, .unset] [(.int xb)]))
      refine Run.pre (X0.ldcInt hx hown (mvT hZ (hw _ (List.mem_of_getElem? (i := 0) rfl))) (g := (mkF m 26 #[.val (.int kz), .val (.int xa), .val (.int xb), .val (.int xc), .val (.int (1 : Int32)), .val (.int (1 : Int32)), .val (.int ((xa &&& (65535 : Int32)).toUInt32.toUInt16.toUInt32.toInt32)), .unset, .unset, .unset, .unset] [(.int xb)])) rfl (hb hby at_26)) ?_
      show Run p e below s _ _ _ (s₁.setTop (mkF m 28 #[.val (.int kz), .val (.int xa), .val (.int xb), .val (.int xc), .val (.int (1 : Int32)), .val (.int (1 : Int32)), .val (.int ((xa &&& (65535 : Int32)).toUInt32.toUInt16.toUInt32.toInt32)), .unset, .unset, .unset, .unset] [(.int (65535 : Int32)), (.int xb)]))
      refine Run.pre (fun _ k => XS.iand X0.here hx rfl (hb hby at_28) rfl k) ?_
      show Run p e below s _ _ _ (s₁.setTop (mkF m 29 #[.val (.int kz), .val (.int xa), .val (.int xb), .val (.int xc), .val (.int (1 : Int32)), .val (.int (1 : Int32)), .val (.int ((xa &&& (65535 : Int32)).toUInt32.toUInt16.toUInt32.toInt32)), .unset, .unset, .unset, .unset] [(.int (xb &&& (65535 : Int32)))]))
      refine Run.pre (fun _ k => XS.i2c X0.here hx rfl (hb hby at_29) rfl k) ?_
      show Run p e below s _ _ _ (s₁.setTop (mkF m 30 #[.val (.int kz), .val (.int xa), .val (.int xb), .val (.int xc), .val (.int (1 : Int32)), .val (.int (1 : Int32)), .val (.int ((xa &&& (65535 : Int32)).toUInt32.toUInt16.toUInt32.toInt32)), .unset, .unset, .unset, .unset] [(.int ((xb &&& (65535 : Int32)).toUInt32.toUInt16.toUInt32.toInt32))]))
      refine Run.pre (fun _ k => XS.istore X0.here hx rfl (hb hby at_30) rfl (l' := #[.val (.int kz), .val (.int xa), .val (.int xb), .val (.int xc), .val (.int (1 : Int32)), .val (.int (1 : Int32)), .val (.int ((xa &&& (65535 : Int32)).toUInt32.toUInt16.toUInt32.toInt32)), .val (.int ((xb &&& (65535 : Int32)).toUInt32.toUInt16.toUInt32.toInt32)), .unset, .unset, .unset]) rfl k) ?_
      show Run p e below s _ _ _ (s₁.setTop (mkF m 32 #[.val (.int kz), .val (.int xa), .val (.int xb), .val (.int xc), .val (.int (1 : Int32)), .val (.int (1 : Int32)), .val (.int ((xa &&& (65535 : Int32)).toUInt32.toUInt16.toUInt32.toInt32)), .val (.int ((xb &&& (65535 : Int32)).toUInt32.toUInt16.toUInt32.toInt32)), .unset, .unset, .unset] []))
      refine Run.pre (fun _ k => XS.iloadN X0.here hx rfl (hb hby at_32) rfl  k) ?_
      show Run p e below s _ _ _ (s₁.setTop (mkF m 33 #[.val (.int kz), .val (.int xa), .val (.int xb), .val (.int xc), .val (.int (1 : Int32)), .val (.int (1 : Int32)), .val (.int ((xa &&& (65535 : Int32)).toUInt32.toUInt16.toUInt32.toInt32)), .val (.int ((xb &&& (65535 : Int32)).toUInt32.toUInt16.toUInt32.toInt32)), .unset, .unset, .unset] [(.int xc)]))
      refine Run.pre (X0.ldcInt hx hown (mvT hZ (hw _ (List.mem_of_getElem? (i := 0) rfl))) (g := (mkF m 33 #[.val (.int kz), .val (.int xa), .val (.int xb), .val (.int xc), .val (.int (1 : Int32)), .val (.int (1 : Int32)), .val (.int ((xa &&& (65535 : Int32)).toUInt32.toUInt16.toUInt32.toInt32)), .val (.int ((xb &&& (65535 : Int32)).toUInt32.toUInt16.toUInt32.toInt32)), .unset, .unset, .unset] [(.int xc)])) rfl (hb hby at_33)) ?_
      show Run p e below s _ _ _ (s₁.setTop (mkF m 35 #[.val (.int kz), .val (.int xa), .val (.int xb), .val (.int xc), .val (.int (1 : Int32)), .val (.int (1 : Int32)), .val (.int ((xa &&& (65535 : Int32)).toUInt32.toUInt16.toUInt32.toInt32)), .val (.int ((xb &&& (65535 : Int32)).toUInt32.toUInt16.toUInt32.toInt32)), .unset, .unset, .unset] [(.int (65535 : Int32)), (.int xc)]))
      refine Run.pre (fun _ k => XS.iand X0.here hx rfl (hb hby at_35) rfl k) ?_
      show Run p e below s _ _ _ (s₁.setTop (mkF m 36 #[.val (.int kz), .val (.int xa), .val (.int xb), .val (.int xc), .val (.int (1 : Int32)), .val (.int (1 : Int32)), .val (.int ((xa &&& (65535 : Int32)).toUInt32.toUInt16.toUInt32.toInt32)), .val (.int ((xb &&& (65535 : Int32)).toUInt32.toUInt16.toUInt32.toInt32)), .unset, .unset, .unset] [(.int (xc &&& (65535 : Int32)))]))
      refine Run.pre (fun _ k => XS.i2c X0.here hx rfl (hb hby at_36) rfl k) ?_
      show Run p e below s _ _ _ (s₁.setTop (mkF m 37 #[.val (.int kz), .val (.int xa), .val (.int xb), .val (.int xc), .val (.int (1 : Int32)), .val (.int (1 : Int32)), .val (.int ((xa &&& (65535 : Int32)).toUInt32.toUInt16.toUInt32.toInt32)), .val (.int ((xb &&& (65535 : Int32)).toUInt32.toUInt16.toUInt32.toInt32)), .unset, .unset, .unset] [(.int ((xc &&& (65535 : Int32)).toUInt32.toUInt16.toUInt32.toInt32))]))
      refine Run.pre (fun _ k => XS.istore X0.here hx rfl (hb hby at_37) rfl (l' := #[.val (.int kz), .val (.int xa), .val (.int xb), .val (.int xc), .val (.int (1 : Int32)), .val (.int (1 : Int32)), .val (.int ((xa &&& (65535 : Int32)).toUInt32.toUInt16.toUInt32.toInt32)), .val (.int ((xb &&& (65535 : Int32)).toUInt32.toUInt16.toUInt32.toInt32)), .val (.int ((xc &&& (65535 : Int32)).toUInt32.toUInt16.toUInt32.toInt32)), .unset, .unset]) rfl k) ?_
      show Run p e below s _ _ _ (s₁.setTop (mkF m 39 #[.val (.int kz), .val (.int xa), .val (.int xb), .val (.int xc), .val (.int (1 : Int32)), .val (.int (1 : Int32)), .val (.int ((xa &&& (65535 : Int32)).toUInt32.toUInt16.toUInt32.toInt32)), .val (.int ((xb &&& (65535 : Int32)).toUInt32.toUInt16.toUInt32.toInt32)), .val (.int ((xc &&& (65535 : Int32)).toUInt32.toUInt16.toUInt32.toInt32)), .unset, .unset] []))
      refine Run.pre (fun _ k => XS.iload X0.here hx rfl (hb hby at_39) rfl  k) ?_
      show Run p e below s _ _ _ (s₁.setTop (mkF m 41 #[.val (.int kz), .val (.int xa), .val (.int xb), .val (.int xc), .val (.int (1 : Int32)), .val (.int (1 : Int32)), .val (.int ((xa &&& (65535 : Int32)).toUInt32.toUInt16.toUInt32.toInt32)), .val (.int ((xb &&& (65535 : Int32)).toUInt32.toUInt16.toUInt32.toInt32)), .val (.int ((xc &&& (65535 : Int32)).toUInt32.toUInt16.toUInt32.toInt32)), .unset, .unset] [(.int (1 : Int32))]))
      refine Run.pre (fun _ k => XS.ifNo X0.here hx rfl (hb hby at_41) rfl ((if0 _ _).trans (feq ((by decide) : ¬ ((1 : Int32) = (0 : Int32)))).1) k) ?_
      show Run p e below s _ _ _ (s₁.setTop (mkF m 44 #[.val (.int kz), .val (.int xa), .val (.int xb), .val (.int xc), .val (.int (1 : Int32)), .val (.int (1 : Int32)), .val (.int ((xa &&& (65535 : Int32)).toUInt32.toUInt16.toUInt32.toInt32)), .val (.int ((xb &&& (65535 : Int32)).toUInt32.toUInt16.toUInt32.toInt32)), .val (.int ((xc &&& (65535 : Int32)).toUInt32.toUInt16.toUInt32.toInt32)), .unset, .unset] []))
      refine Run.pre (fun _ k => XS.aconstNull X0.here hx rfl (hb hby at_44) k) ?_
      show Run p e below s _ _ _ (s₁.setTop (mkF m 45 #[.val (.int kz), .val (.int xa), .val (.int xb), .val (.int xc), .val (.int (1 : Int32)), .val (.int (1 : Int32)), .val (.int ((xa &&& (65535 : Int32)).toUInt32.toUInt16.toUInt32.toInt32)), .val (.int ((xb &&& (65535 : Int32)).toUInt32.toUInt16.toUInt32.toInt32)), .val (.int ((xc &&& (65535 : Int32)).toUInt32.toUInt16.toUInt32.toInt32)), .unset, .unset] [.null]))
      refine Run.pre (fun _ k => XS.goto X0.here hx rfl (pc0 := 45) (pc' := 59) rfl (hb hby at_45) (by decide) (by decide) k) ?_
      show Run p e below s _ _ _ (s₁.setTop (mkF m 59 #[.val (.int kz), .val (.int xa), .val (.int xb), .val (.int xc), .val (.int (1 : Int32)), .val (.int (1 : Int32)), .val (.int ((xa &&& (65535 : Int32)).toUInt32.toUInt16.toUInt32.toInt32)), .val (.int ((xb &&& (65535 : Int32)).toUInt32.toUInt16.toUInt32.toInt32)), .val (.int ((xc &&& (65535 : Int32)).toUInt32.toUInt16.toUInt32.toInt32)), .unset, .unset] [.null]))
      refine Run.pre (fun _ k => XS.astore X0.here hx rfl (hb hby at_59) rfl rfl (l' := #[.val (.int kz), .val (.int xa), .val (.int xb), .val (.int xc), .val (.int (1 : Int32)), .val (.int (1 : Int32)), .val (.int ((xa &&& (65535 : Int32)).toUInt32.toUInt16.toUInt32.toInt32)), .val (.int ((xb &&& (65535 : Int32)).toUInt32.toUInt16.toUInt32.toInt32)), .val (.int ((xc &&& (65535 : Int32)).toUInt32.toUInt16.toUInt32.toInt32)), .val .null, .unset]) rfl k) ?_
      show Run p e below s _ _ _ (s₁.setTop (mkF m 61 #[.val (.int kz), .val (.int xa), .val (.int xb), .val (.int xc), .val (.int (1 : Int32)), .val (.int (1 : Int32)), .val (.int ((xa &&& (65535 : Int32)).toUInt32.toUInt16.toUInt32.toInt32)), .val (.int ((xb &&& (65535 : Int32)).toUInt32.toUInt16.toUInt32.toInt32)), .val (.int ((xc &&& (65535 : Int32)).toUInt32.toUInt16.toUInt32.toInt32)), .val .null, .unset] []))
      refine Run.pre (fun _ k => XS.aload X0.here hx rfl (hb hby at_61) rfl rfl k) ?_
      show Run p e below s _ _ _ (s₁.setTop (mkF m 63 #[.val (.int kz), .val (.int xa), .val (.int xb), .val (.int xc), .val (.int (1 : Int32)), .val (.int (1 : Int32)), .val (.int ((xa &&& (65535 : Int32)).toUInt32.toUInt16.toUInt32.toInt32)), .val (.int ((xb &&& (65535 : Int32)).toUInt32.toUInt16.toUInt32.toInt32)), .val (.int ((xc &&& (65535 : Int32)).toUInt32.toUInt16.toUInt32.toInt32)), .val .null, .unset] [.null]))
      refine Run.callS hS (by first | exact Nat.le_refl _ | (rw [e0]; exact (Nat.zero_le _))) X0 hx hZ (y := (⟨"com/example/humble_issuer/humbleissuer/web/QueryParameters", "leftOutIfEmpty", "(Ljava/lang/String;)Ljava/lang/String;"⟩ : MethodName)) hown (hw _ (List.mem_of_getElem? (i := 27) rfl)) (hw _ (List.mem_of_getElem? (i := 28) rfl)) (hw _ (List.mem_of_getElem? (i := 29) rfl)) (hw _ (List.mem_of_getElem? (i := 30) rfl)) (by decide) (W := 0) (rmL_n l Z a0 hw h0 n0 (Nat.le_trans Z0 (Keep.refl h0 []).1)) e0 (by decide) (by decide) (by decide) (by decide) (fun _ _ => trivial) (g := (mkF m 63 #[.val (.int kz), .val (.int xa), .val (.int xb), .val (.int xc), .val (.int (1 : Int32)), .val (.int (1 : Int32)), .val (.int ((xa &&& (65535 : Int32)).toUInt32.toUInt16.toUInt32.toInt32)), .val (.int ((xb &&& (65535 : Int32)).toUInt32.toUInt16.toUInt32.toInt32)), .val (.int ((xc &&& (65535 : Int32)).toUInt32.toUInt16.toUInt32.toInt32)), .val .null, .unset] [.null])) rfl (by rw [hml]; rfl) (argsL := [.null]) (rest := []) (lenOf pd_11 rfl) rfl (by show 2 * 0 + _ ≤ _; exact Nat.le_of_eq rfl) (hb hby at_63) ?_
      intro v357 T357 L357 X357 hS hZ hown hV357 hQ357
      obtain ⟨rfl, Nq357, he357⟩ := hQ357
      have N357 := Fr.app N0 Nq357
      have e357 : T357.heap = h0 := he357
      show Run p e below s _ _ _ (T357.setTop (mkF m 66 #[.val (.int kz), .val (.int xa), .val (.int xb), .val (.int xc), .val (.int (1 : Int32)), .val (.int (1 : Int32)), .val (.int ((xa &&& (65535 : Int32)).toUInt32.toUInt16.toUInt32.toInt32)), .val (.int ((xb &&& (65535 : Int32)).toUInt32.toUInt16.toUInt32.toInt32)), .val (.int ((xc &&& (65535 : Int32)).toUInt32.toUInt16.toUInt32.toInt32)), .val .null, .unset] [.null]))
      refine Run.pre (fun _ k => XS.astore X357.here hx rfl (hb hby at_66) rfl rfl (l' := #[.val (.int kz), .val (.int xa), .val (.int xb), .val (.int xc), .val (.int (1 : Int32)), .val (.int (1 : Int32)), .val (.int ((xa &&& (65535 : Int32)).toUInt32.toUInt16.toUInt32.toInt32)), .val (.int ((xb &&& (65535 : Int32)).toUInt32.toUInt16.toUInt32.toInt32)), .val (.int ((xc &&& (65535 : Int32)).toUInt32.toUInt16.toUInt32.toInt32)), .val .null, .val .null]) rfl k) ?_
      show Run p e below s _ _ _ (T357.setTop (mkF m 68 #[.val (.int kz), .val (.int xa), .val (.int xb), .val (.int xc), .val (.int (1 : Int32)), .val (.int (1 : Int32)), .val (.int ((xa &&& (65535 : Int32)).toUInt32.toUInt16.toUInt32.toInt32)), .val (.int ((xb &&& (65535 : Int32)).toUInt32.toUInt16.toUInt32.toInt32)), .val (.int ((xc &&& (65535 : Int32)).toUInt32.toUInt16.toUInt32.toInt32)), .val .null, .val .null] []))
      refine Run.pre (fun _ k => XS.iload X357.here hx rfl (hb hby at_68) rfl  k) ?_
      show Run p e below s _ _ _ (T357.setTop (mkF m 70 #[.val (.int kz), .val (.int xa), .val (.int xb), .val (.int xc), .val (.int (1 : Int32)), .val (.int (1 : Int32)), .val (.int ((xa &&& (65535 : Int32)).toUInt32.toUInt16.toUInt32.toInt32)), .val (.int ((xb &&& (65535 : Int32)).toUInt32.toUInt16.toUInt32.toInt32)), .val (.int ((xc &&& (65535 : Int32)).toUInt32.toUInt16.toUInt32.toInt32)), .val .null, .val .null] [(.int (1 : Int32))]))
      refine Run.pre (fun _ k => XS.ifYes X357.here hx rfl (pc0 := 70) (pc' := 78) rfl (hb hby at_70) rfl ((if0 _ _).trans (feq ((by decide) : ¬ ((1 : Int32) = (0 : Int32)))).2) (by decide) (by decide) k) ?_
      show Run p e below s _ _ _ (T357.setTop (mkF m 78 #[.val (.int kz), .val (.int xa), .val (.int xb), .val (.int xc), .val (.int (1 : Int32)), .val (.int (1 : Int32)), .val (.int ((xa &&& (65535 : Int32)).toUInt32.toUInt16.toUInt32.toInt32)), .val (.int ((xb &&& (65535 : Int32)).toUInt32.toUInt16.toUInt32.toInt32)), .val (.int ((xc &&& (65535 : Int32)).toUInt32.toUInt16.toUInt32.toInt32)), .val .null, .val .null] []))
      refine Run.pre (fun _ k => XS.aload X357.here hx rfl (hb hby at_78) rfl rfl k) ?_
      show Run p e below s _ _ _ (T357.setTop (mkF m 80 #[.val (.int kz), .val (.int xa), .val (.int xb), .val (.int xc), .val (.int (1 : Int32)), .val (.int (1 : Int32)), .val (.int ((xa &&& (65535 : Int32)).toUInt32.toUInt16.toUInt32.toInt32)), .val (.int ((xb &&& (65535 : Int32)).toUInt32.toUInt16.toUInt32.toInt32)), .val (.int ((xc &&& (65535 : Int32)).toUInt32.toUInt16.toUInt32.toInt32)), .val .null, .val .null] [.null]))
      refine Run.pre (fun _ k => XS.ifnonnullNo X357.here hx rfl (hb hby at_80) rfl k) ?_
      show Run p e below s _ _ _ (T357.setTop (mkF m 83 #[.val (.int kz), .val (.int xa), .val (.int xb), .val (.int xc), .val (.int (1 : Int32)), .val (.int (1 : Int32)), .val (.int ((xa &&& (65535 : Int32)).toUInt32.toUInt16.toUInt32.toInt32)), .val (.int ((xb &&& (65535 : Int32)).toUInt32.toUInt16.toUInt32.toInt32)), .val (.int ((xc &&& (65535 : Int32)).toUInt32.toUInt16.toUInt32.toInt32)), .val .null, .val .null] []))
      refine Run.pre (fun _ k => XS.iconst X357.here hx rfl (hb hby at_83) k) ?_
      show Run p e below s _ _ _ (T357.setTop (mkF m 84 #[.val (.int kz), .val (.int xa), .val (.int xb), .val (.int xc), .val (.int (1 : Int32)), .val (.int (1 : Int32)), .val (.int ((xa &&& (65535 : Int32)).toUInt32.toUInt16.toUInt32.toInt32)), .val (.int ((xb &&& (65535 : Int32)).toUInt32.toUInt16.toUInt32.toInt32)), .val (.int ((xc &&& (65535 : Int32)).toUInt32.toUInt16.toUInt32.toInt32)), .val .null, .val .null] [(.int (1 : Int32))]))
      refine Run.pre (fun _ k => XS.goto X357.here hx rfl (pc0 := 84) (pc' := 88) rfl (hb hby at_84) (by decide) (by decide) k) ?_
      show Run p e below s _ _ _ (T357.setTop (mkF m 88 #[.val (.int kz), .val (.int xa), .val (.int xb), .val (.int xc), .val (.int (1 : Int32)), .val (.int (1 : Int32)), .val (.int ((xa &&& (65535 : Int32)).toUInt32.toUInt16.toUInt32.toInt32)), .val (.int ((xb &&& (65535 : Int32)).toUInt32.toUInt16.toUInt32.toInt32)), .val (.int ((xc &&& (65535 : Int32)).toUInt32.toUInt16.toUInt32.toInt32)), .val .null, .val .null] [(.int (1 : Int32))]))
      exact Run.retN hS (by first | exact Nat.le_refl _ | (rw [e357]; exact (Nat.le_of_eq (congrArg Array.size e357)))) X357 hx hret (t := .boolean) (by simp) hlk (hb hby at_88) (by first | (rw [e357]; exact ⟨rfl, N357⟩) | exact ⟨rfl, N357⟩) (by decide) (by decide)
    · rw [hn]
      show Run p e below s _ _ _ (s₁.setTop (mkF m 18 #[.val (.int kz), .val (.int xa), .val (.int xb), .val (.int xc), .val (.int (1 : Int32)), .val (.int (2 : Int32)), .unset, .unset, .unset, .unset, .unset] []))
      refine Run.pre (fun _ k => XS.iloadN X0.here hx rfl (hb hby at_18) rfl  k) ?_
      show Run p e below s _ _ _ (s₁.setTop (mkF m 19 #[.val (.int kz), .val (.int xa), .val (.int xb), .val (.int xc), .val (.int (1 : Int32)), .val (.int (2 : Int32)), .unset, .unset, .unset, .unset, .unset] [(.int xa)]))
      refine Run.pre (X0.ldcInt hx hown (mvT hZ (hw _ (List.mem_of_getElem? (i := 0) rfl))) (g := (mkF m 19 #[.val (.int kz), .val (.int xa), .val (.int xb), .val (.int xc), .val (.int (1 : Int32)), .val (.int (2 : Int32)), .unset, .unset, .unset, .unset, .unset] [(.int xa)])) rfl (hb hby at_19)) ?_
      show Run p e below s _ _ _ (s₁.setTop (mkF m 21 #[.val (.int kz), .val (.int xa), .val (.int xb), .val (.int xc), .val (.int (1 : Int32)), .val (.int (2 : Int32)), .unset, .unset, .unset, .unset, .unset] [(.int (65535 : Int32)), (.int xa)]))
      refine Run.pre (fun _ k => XS.iand X0.here hx rfl (hb hby at_21) rfl k) ?_
      show Run p e below s _ _ _ (s₁.setTop (mkF m 22 #[.val (.int kz), .val (.int xa), .val (.int xb), .val (.int xc), .val (.int (1 : Int32)), .val (.int (2 : Int32)), .unset, .unset, .unset, .unset, .unset] [(.int (xa &&& (65535 : Int32)))]))
      refine Run.pre (fun _ k => XS.i2c X0.here hx rfl (hb hby at_22) rfl k) ?_
      show Run p e below s _ _ _ (s₁.setTop (mkF m 23 #[.val (.int kz), .val (.int xa), .val (.int xb), .val (.int xc), .val (.int (1 : Int32)), .val (.int (2 : Int32)), .unset, .unset, .unset, .unset, .unset] [(.int ((xa &&& (65535 : Int32)).toUInt32.toUInt16.toUInt32.toInt32))]))
      refine Run.pre (fun _ k => XS.istore X0.here hx rfl (hb hby at_23) rfl (l' := #[.val (.int kz), .val (.int xa), .val (.int xb), .val (.int xc), .val (.int (1 : Int32)), .val (.int (2 : Int32)), .val (.int ((xa &&& (65535 : Int32)).toUInt32.toUInt16.toUInt32.toInt32)), .unset, .unset, .unset, .unset]) rfl k) ?_
      show Run p e below s _ _ _ (s₁.setTop (mkF m 25 #[.val (.int kz), .val (.int xa), .val (.int xb), .val (.int xc), .val (.int (1 : Int32)), .val (.int (2 : Int32)), .val (.int ((xa &&& (65535 : Int32)).toUInt32.toUInt16.toUInt32.toInt32)), .unset, .unset, .unset, .unset] []))
      refine Run.pre (fun _ k => XS.iloadN X0.here hx rfl (hb hby at_25) rfl  k) ?_
      show Run p e below s _ _ _ (s₁.setTop (mkF m 26 #[.val (.int kz), .val (.int xa), .val (.int xb), .val (.int xc), .val (.int (1 : Int32)), .val (.int (2 : Int32)), .val (.int ((xa &&& (65535 : Int32)).toUInt32.toUInt16.toUInt32.toInt32)), .unset, .unset, .unset, .unset] [(.int xb)]))
      refine Run.pre (X0.ldcInt hx hown (mvT hZ (hw _ (List.mem_of_getElem? (i := 0) rfl))) (g := (mkF m 26 #[.val (.int kz), .val (.int xa), .val (.int xb), .val (.int xc), .val (.int (1 : Int32)), .val (.int (2 : Int32)), .val (.int ((xa &&& (65535 : Int32)).toUInt32.toUInt16.toUInt32.toInt32)), .unset, .unset, .unset, .unset] [(.int xb)])) rfl (hb hby at_26)) ?_
      show Run p e below s _ _ _ (s₁.setTop (mkF m 28 #[.val (.int kz), .val (.int xa), .val (.int xb), .val (.int xc), .val (.int (1 : Int32)), .val (.int (2 : Int32)), .val (.int ((xa &&& (65535 : Int32)).toUInt32.toUInt16.toUInt32.toInt32)), .unset, .unset, .unset, .unset] [(.int (65535 : Int32)), (.int xb)]))
      refine Run.pre (fun _ k => XS.iand X0.here hx rfl (hb hby at_28) rfl k) ?_
      show Run p e below s _ _ _ (s₁.setTop (mkF m 29 #[.val (.int kz), .val (.int xa), .val (.int xb), .val (.int xc), .val (.int (1 : Int32)), .val (.int (2 : Int32)), .val (.int ((xa &&& (65535 : Int32)).toUInt32.toUInt16.toUInt32.toInt32)), .unset, .unset, .unset, .unset] [(.int (xb &&& (65535 : Int32)))]))
      refine Run.pre (fun _ k => XS.i2c X0.here hx rfl (hb hby at_29) rfl k) ?_
      show Run p e below s _ _ _ (s₁.setTop (mkF m 30 #[.val (.int kz), .val (.int xa), .val (.int xb), .val (.int xc), .val (.int (1 : Int32)), .val (.int (2 : Int32)), .val (.int ((xa &&& (65535 : Int32)).toUInt32.toUInt16.toUInt32.toInt32)), .unset, .unset, .unset, .unset] [(.int ((xb &&& (65535 : Int32)).toUInt32.toUInt16.toUInt32.toInt32))]))
      refine Run.pre (fun _ k => XS.istore X0.here hx rfl (hb hby at_30) rfl (l' := #[.val (.int kz), .val (.int xa), .val (.int xb), .val (.int xc), .val (.int (1 : Int32)), .val (.int (2 : Int32)), .val (.int ((xa &&& (65535 : Int32)).toUInt32.toUInt16.toUInt32.toInt32)), .val (.int ((xb &&& (65535 : Int32)).toUInt32.toUInt16.toUInt32.toInt32)), .unset, .unset, .unset]) rfl k) ?_
      show Run p e below s _ _ _ (s₁.setTop (mkF m 32 #[.val (.int kz), .val (.int xa), .val (.int xb), .val (.int xc), .val (.int (1 : Int32)), .val (.int (2 : Int32)), .val (.int ((xa &&& (65535 : Int32)).toUInt32.toUInt16.toUInt32.toInt32)), .val (.int ((xb &&& (65535 : Int32)).toUInt32.toUInt16.toUInt32.toInt32)), .unset, .unset, .unset] []))
      refine Run.pre (fun _ k => XS.iloadN X0.here hx rfl (hb hby at_32) rfl  k) ?_
      show Run p e below s _ _ _ (s₁.setTop (mkF m 33 #[.val (.int kz), .val (.int xa), .val (.int xb), .val (.int xc), .val (.int (1 : Int32)), .val (.int (2 : Int32)), .val (.int ((xa &&& (65535 : Int32)).toUInt32.toUInt16.toUInt32.toInt32)), .val (.int ((xb &&& (65535 : Int32)).toUInt32.toUInt16.toUInt32.toInt32)), .unset, .unset, .unset] [(.int xc)]))
      refine Run.pre (X0.ldcInt hx hown (mvT hZ (hw _ (List.mem_of_getElem? (i := 0) rfl))) (g := (mkF m 33 #[.val (.int kz), .val (.int xa), .val (.int xb), .val (.int xc), .val (.int (1 : Int32)), .val (.int (2 : Int32)), .val (.int ((xa &&& (65535 : Int32)).toUInt32.toUInt16.toUInt32.toInt32)), .val (.int ((xb &&& (65535 : Int32)).toUInt32.toUInt16.toUInt32.toInt32)), .unset, .unset, .unset] [(.int xc)])) rfl (hb hby at_33)) ?_
      show Run p e below s _ _ _ (s₁.setTop (mkF m 35 #[.val (.int kz), .val (.int xa), .val (.int xb), .val (.int xc), .val (.int (1 : Int32)), .val (.int (2 : Int32)), .val (.int ((xa &&& (65535 : Int32)).toUInt32.toUInt16.toUInt32.toInt32)), .val (.int ((xb &&& (65535 : Int32)).toUInt32.toUInt16.toUInt32.toInt32)), .unset, .unset, .unset] [(.int (65535 : Int32)), (.int xc)]))
      refine Run.pre (fun _ k => XS.iand X0.here hx rfl (hb hby at_35) rfl k) ?_
      show Run p e below s _ _ _ (s₁.setTop (mkF m 36 #[.val (.int kz), .val (.int xa), .val (.int xb), .val (.int xc), .val (.int (1 : Int32)), .val (.int (2 : Int32)), .val (.int ((xa &&& (65535 : Int32)).toUInt32.toUInt16.toUInt32.toInt32)), .val (.int ((xb &&& (65535 : Int32)).toUInt32.toUInt16.toUInt32.toInt32)), .unset, .unset, .unset] [(.int (xc &&& (65535 : Int32)))]))
      refine Run.pre (fun _ k => XS.i2c X0.here hx rfl (hb hby at_36) rfl k) ?_
      show Run p e below s _ _ _ (s₁.setTop (mkF m 37 #[.val (.int kz), .val (.int xa), .val (.int xb), .val (.int xc), .val (.int (1 : Int32)), .val (.int (2 : Int32)), .val (.int ((xa &&& (65535 : Int32)).toUInt32.toUInt16.toUInt32.toInt32)), .val (.int ((xb &&& (65535 : Int32)).toUInt32.toUInt16.toUInt32.toInt32)), .unset, .unset, .unset] [(.int ((xc &&& (65535 : Int32)).toUInt32.toUInt16.toUInt32.toInt32))]))
      refine Run.pre (fun _ k => XS.istore X0.here hx rfl (hb hby at_37) rfl (l' := #[.val (.int kz), .val (.int xa), .val (.int xb), .val (.int xc), .val (.int (1 : Int32)), .val (.int (2 : Int32)), .val (.int ((xa &&& (65535 : Int32)).toUInt32.toUInt16.toUInt32.toInt32)), .val (.int ((xb &&& (65535 : Int32)).toUInt32.toUInt16.toUInt32.toInt32)), .val (.int ((xc &&& (65535 : Int32)).toUInt32.toUInt16.toUInt32.toInt32)), .unset, .unset]) rfl k) ?_
      show Run p e below s _ _ _ (s₁.setTop (mkF m 39 #[.val (.int kz), .val (.int xa), .val (.int xb), .val (.int xc), .val (.int (1 : Int32)), .val (.int (2 : Int32)), .val (.int ((xa &&& (65535 : Int32)).toUInt32.toUInt16.toUInt32.toInt32)), .val (.int ((xb &&& (65535 : Int32)).toUInt32.toUInt16.toUInt32.toInt32)), .val (.int ((xc &&& (65535 : Int32)).toUInt32.toUInt16.toUInt32.toInt32)), .unset, .unset] []))
      refine Run.pre (fun _ k => XS.iload X0.here hx rfl (hb hby at_39) rfl  k) ?_
      show Run p e below s _ _ _ (s₁.setTop (mkF m 41 #[.val (.int kz), .val (.int xa), .val (.int xb), .val (.int xc), .val (.int (1 : Int32)), .val (.int (2 : Int32)), .val (.int ((xa &&& (65535 : Int32)).toUInt32.toUInt16.toUInt32.toInt32)), .val (.int ((xb &&& (65535 : Int32)).toUInt32.toUInt16.toUInt32.toInt32)), .val (.int ((xc &&& (65535 : Int32)).toUInt32.toUInt16.toUInt32.toInt32)), .unset, .unset] [(.int (1 : Int32))]))
      refine Run.pre (fun _ k => XS.ifNo X0.here hx rfl (hb hby at_41) rfl ((if0 _ _).trans (feq ((by decide) : ¬ ((1 : Int32) = (0 : Int32)))).1) k) ?_
      show Run p e below s _ _ _ (s₁.setTop (mkF m 44 #[.val (.int kz), .val (.int xa), .val (.int xb), .val (.int xc), .val (.int (1 : Int32)), .val (.int (2 : Int32)), .val (.int ((xa &&& (65535 : Int32)).toUInt32.toUInt16.toUInt32.toInt32)), .val (.int ((xb &&& (65535 : Int32)).toUInt32.toUInt16.toUInt32.toInt32)), .val (.int ((xc &&& (65535 : Int32)).toUInt32.toUInt16.toUInt32.toInt32)), .unset, .unset] []))
      refine Run.pre (fun _ k => XS.aconstNull X0.here hx rfl (hb hby at_44) k) ?_
      show Run p e below s _ _ _ (s₁.setTop (mkF m 45 #[.val (.int kz), .val (.int xa), .val (.int xb), .val (.int xc), .val (.int (1 : Int32)), .val (.int (2 : Int32)), .val (.int ((xa &&& (65535 : Int32)).toUInt32.toUInt16.toUInt32.toInt32)), .val (.int ((xb &&& (65535 : Int32)).toUInt32.toUInt16.toUInt32.toInt32)), .val (.int ((xc &&& (65535 : Int32)).toUInt32.toUInt16.toUInt32.toInt32)), .unset, .unset] [.null]))
      refine Run.pre (fun _ k => XS.goto X0.here hx rfl (pc0 := 45) (pc' := 59) rfl (hb hby at_45) (by decide) (by decide) k) ?_
      show Run p e below s _ _ _ (s₁.setTop (mkF m 59 #[.val (.int kz), .val (.int xa), .val (.int xb), .val (.int xc), .val (.int (1 : Int32)), .val (.int (2 : Int32)), .val (.int ((xa &&& (65535 : Int32)).toUInt32.toUInt16.toUInt32.toInt32)), .val (.int ((xb &&& (65535 : Int32)).toUInt32.toUInt16.toUInt32.toInt32)), .val (.int ((xc &&& (65535 : Int32)).toUInt32.toUInt16.toUInt32.toInt32)), .unset, .unset] [.null]))
      refine Run.pre (fun _ k => XS.astore X0.here hx rfl (hb hby at_59) rfl rfl (l' := #[.val (.int kz), .val (.int xa), .val (.int xb), .val (.int xc), .val (.int (1 : Int32)), .val (.int (2 : Int32)), .val (.int ((xa &&& (65535 : Int32)).toUInt32.toUInt16.toUInt32.toInt32)), .val (.int ((xb &&& (65535 : Int32)).toUInt32.toUInt16.toUInt32.toInt32)), .val (.int ((xc &&& (65535 : Int32)).toUInt32.toUInt16.toUInt32.toInt32)), .val .null, .unset]) rfl k) ?_
      show Run p e below s _ _ _ (s₁.setTop (mkF m 61 #[.val (.int kz), .val (.int xa), .val (.int xb), .val (.int xc), .val (.int (1 : Int32)), .val (.int (2 : Int32)), .val (.int ((xa &&& (65535 : Int32)).toUInt32.toUInt16.toUInt32.toInt32)), .val (.int ((xb &&& (65535 : Int32)).toUInt32.toUInt16.toUInt32.toInt32)), .val (.int ((xc &&& (65535 : Int32)).toUInt32.toUInt16.toUInt32.toInt32)), .val .null, .unset] []))
      refine Run.pre (fun _ k => XS.aload X0.here hx rfl (hb hby at_61) rfl rfl k) ?_
      show Run p e below s _ _ _ (s₁.setTop (mkF m 63 #[.val (.int kz), .val (.int xa), .val (.int xb), .val (.int xc), .val (.int (1 : Int32)), .val (.int (2 : Int32)), .val (.int ((xa &&& (65535 : Int32)).toUInt32.toUInt16.toUInt32.toInt32)), .val (.int ((xb &&& (65535 : Int32)).toUInt32.toUInt16.toUInt32.toInt32)), .val (.int ((xc &&& (65535 : Int32)).toUInt32.toUInt16.toUInt32.toInt32)), .val .null, .unset] [.null]))
      refine Run.callS hS (by first | exact Nat.le_refl _ | (rw [e0]; exact (Nat.zero_le _))) X0 hx hZ (y := (⟨"com/example/humble_issuer/humbleissuer/web/QueryParameters", "leftOutIfEmpty", "(Ljava/lang/String;)Ljava/lang/String;"⟩ : MethodName)) hown (hw _ (List.mem_of_getElem? (i := 27) rfl)) (hw _ (List.mem_of_getElem? (i := 28) rfl)) (hw _ (List.mem_of_getElem? (i := 29) rfl)) (hw _ (List.mem_of_getElem? (i := 30) rfl)) (by decide) (W := 0) (rmL_n l Z a0 hw h0 n0 (Nat.le_trans Z0 (Keep.refl h0 []).1)) e0 (by decide) (by decide) (by decide) (by decide) (fun _ _ => trivial) (g := (mkF m 63 #[.val (.int kz), .val (.int xa), .val (.int xb), .val (.int xc), .val (.int (1 : Int32)), .val (.int (2 : Int32)), .val (.int ((xa &&& (65535 : Int32)).toUInt32.toUInt16.toUInt32.toInt32)), .val (.int ((xb &&& (65535 : Int32)).toUInt32.toUInt16.toUInt32.toInt32)), .val (.int ((xc &&& (65535 : Int32)).toUInt32.toUInt16.toUInt32.toInt32)), .val .null, .unset] [.null])) rfl (by rw [hml]; rfl) (argsL := [.null]) (rest := []) (lenOf pd_11 rfl) rfl (by show 2 * 0 + _ ≤ _; exact Nat.le_of_eq rfl) (hb hby at_63) ?_
      intro v358 T358 L358 X358 hS hZ hown hV358 hQ358
      obtain ⟨rfl, Nq358, he358⟩ := hQ358
      have N358 := Fr.app N0 Nq358
      have e358 : T358.heap = h0 := he358
      show Run p e below s _ _ _ (T358.setTop (mkF m 66 #[.val (.int kz), .val (.int xa), .val (.int xb), .val (.int xc), .val (.int (1 : Int32)), .val (.int (2 : Int32)), .val (.int ((xa &&& (65535 : Int32)).toUInt32.toUInt16.toUInt32.toInt32)), .val (.int ((xb &&& (65535 : Int32)).toUInt32.toUInt16.toUInt32.toInt32)), .val (.int ((xc &&& (65535 : Int32)).toUInt32.toUInt16.toUInt32.toInt32)), .val .null, .unset] [.null]))
      refine Run.pre (fun _ k => XS.astore X358.here hx rfl (hb hby at_66) rfl rfl (l' := #[.val (.int kz), .val (.int xa), .val (.int xb), .val (.int xc), .val (.int (1 : Int32)), .val (.int (2 : Int32)), .val (.int ((xa &&& (65535 : Int32)).toUInt32.toUInt16.toUInt32.toInt32)), .val (.int ((xb &&& (65535 : Int32)).toUInt32.toUInt16.toUInt32.toInt32)), .val (.int ((xc &&& (65535 : Int32)).toUInt32.toUInt16.toUInt32.toInt32)), .val .null, .val .null]) rfl k) ?_
      show Run p e below s _ _ _ (T358.setTop (mkF m 68 #[.val (.int kz), .val (.int xa), .val (.int xb), .val (.int xc), .val (.int (1 : Int32)), .val (.int (2 : Int32)), .val (.int ((xa &&& (65535 : Int32)).toUInt32.toUInt16.toUInt32.toInt32)), .val (.int ((xb &&& (65535 : Int32)).toUInt32.toUInt16.toUInt32.toInt32)), .val (.int ((xc &&& (65535 : Int32)).toUInt32.toUInt16.toUInt32.toInt32)), .val .null, .val .null] []))
      refine Run.pre (fun _ k => XS.iload X358.here hx rfl (hb hby at_68) rfl  k) ?_
      show Run p e below s _ _ _ (T358.setTop (mkF m 70 #[.val (.int kz), .val (.int xa), .val (.int xb), .val (.int xc), .val (.int (1 : Int32)), .val (.int (2 : Int32)), .val (.int ((xa &&& (65535 : Int32)).toUInt32.toUInt16.toUInt32.toInt32)), .val (.int ((xb &&& (65535 : Int32)).toUInt32.toUInt16.toUInt32.toInt32)), .val (.int ((xc &&& (65535 : Int32)).toUInt32.toUInt16.toUInt32.toInt32)), .val .null, .val .null] [(.int (1 : Int32))]))
      refine Run.pre (fun _ k => XS.ifYes X358.here hx rfl (pc0 := 70) (pc' := 78) rfl (hb hby at_70) rfl ((if0 _ _).trans (feq ((by decide) : ¬ ((1 : Int32) = (0 : Int32)))).2) (by decide) (by decide) k) ?_
      show Run p e below s _ _ _ (T358.setTop (mkF m 78 #[.val (.int kz), .val (.int xa), .val (.int xb), .val (.int xc), .val (.int (1 : Int32)), .val (.int (2 : Int32)), .val (.int ((xa &&& (65535 : Int32)).toUInt32.toUInt16.toUInt32.toInt32)), .val (.int ((xb &&& (65535 : Int32)).toUInt32.toUInt16.toUInt32.toInt32)), .val (.int ((xc &&& (65535 : Int32)).toUInt32.toUInt16.toUInt32.toInt32)), .val .null, .val .null] []))
      refine Run.pre (fun _ k => XS.aload X358.here hx rfl (hb hby at_78) rfl rfl k) ?_
      show Run p e below s _ _ _ (T358.setTop (mkF m 80 #[.val (.int kz), .val (.int xa), .val (.int xb), .val (.int xc), .val (.int (1 : Int32)), .val (.int (2 : Int32)), .val (.int ((xa &&& (65535 : Int32)).toUInt32.toUInt16.toUInt32.toInt32)), .val (.int ((xb &&& (65535 : Int32)).toUInt32.toUInt16.toUInt32.toInt32)), .val (.int ((xc &&& (65535 : Int32)).toUInt32.toUInt16.toUInt32.toInt32)), .val .null, .val .null] [.null]))
      refine Run.pre (fun _ k => XS.ifnonnullNo X358.here hx rfl (hb hby at_80) rfl k) ?_
      show Run p e below s _ _ _ (T358.setTop (mkF m 83 #[.val (.int kz), .val (.int xa), .val (.int xb), .val (.int xc), .val (.int (1 : Int32)), .val (.int (2 : Int32)), .val (.int ((xa &&& (65535 : Int32)).toUInt32.toUInt16.toUInt32.toInt32)), .val (.int ((xb &&& (65535 : Int32)).toUInt32.toUInt16.toUInt32.toInt32)), .val (.int ((xc &&& (65535 : Int32)).toUInt32.toUInt16.toUInt32.toInt32)), .val .null, .val .null] []))
      refine Run.pre (fun _ k => XS.iconst X358.here hx rfl (hb hby at_83) k) ?_
      show Run p e below s _ _ _ (T358.setTop (mkF m 84 #[.val (.int kz), .val (.int xa), .val (.int xb), .val (.int xc), .val (.int (1 : Int32)), .val (.int (2 : Int32)), .val (.int ((xa &&& (65535 : Int32)).toUInt32.toUInt16.toUInt32.toInt32)), .val (.int ((xb &&& (65535 : Int32)).toUInt32.toUInt16.toUInt32.toInt32)), .val (.int ((xc &&& (65535 : Int32)).toUInt32.toUInt16.toUInt32.toInt32)), .val .null, .val .null] [(.int (1 : Int32))]))
      refine Run.pre (fun _ k => XS.goto X358.here hx rfl (pc0 := 84) (pc' := 88) rfl (hb hby at_84) (by decide) (by decide) k) ?_
      show Run p e below s _ _ _ (T358.setTop (mkF m 88 #[.val (.int kz), .val (.int xa), .val (.int xb), .val (.int xc), .val (.int (1 : Int32)), .val (.int (2 : Int32)), .val (.int ((xa &&& (65535 : Int32)).toUInt32.toUInt16.toUInt32.toInt32)), .val (.int ((xb &&& (65535 : Int32)).toUInt32.toUInt16.toUInt32.toInt32)), .val (.int ((xc &&& (65535 : Int32)).toUInt32.toUInt16.toUInt32.toInt32)), .val .null, .val .null] [(.int (1 : Int32))]))
      exact Run.retN hS (by first | exact Nat.le_refl _ | (rw [e358]; exact (Nat.le_of_eq (congrArg Array.size e358)))) X358 hx hret (t := .boolean) (by simp) hlk (hb hby at_88) (by first | (rw [e358]; exact ⟨rfl, N358⟩) | exact ⟨rfl, N358⟩) (by decide) (by decide)
    · rw [hn]
      show Run p e below s _ _ _ (s₁.setTop (mkF m 18 #[.val (.int kz), .val (.int xa), .val (.int xb), .val (.int xc), .val (.int (1 : Int32)), .val (.int (3 : Int32)), .unset, .unset, .unset, .unset, .unset] []))
      refine Run.pre (fun _ k => XS.iloadN X0.here hx rfl (hb hby at_18) rfl  k) ?_
      show Run p e below s _ _ _ (s₁.setTop (mkF m 19 #[.val (.int kz), .val (.int xa), .val (.int xb), .val (.int xc), .val (.int (1 : Int32)), .val (.int (3 : Int32)), .unset, .unset, .unset, .unset, .unset] [(.int xa)]))
      refine Run.pre (X0.ldcInt hx hown (mvT hZ (hw _ (List.mem_of_getElem? (i := 0) rfl))) (g := (mkF m 19 #[.val (.int kz), .val (.int xa), .val (.int xb), .val (.int xc), .val (.int (1 : Int32)), .val (.int (3 : Int32)), .unset, .unset, .unset, .unset, .unset] [(.int xa)])) rfl (hb hby at_19)) ?_
      show Run p e below s _ _ _ (s₁.setTop (mkF m 21 #[.val (.int kz), .val (.int xa), .val (.int xb), .val (.int xc), .val (.int (1 : Int32)), .val (.int (3 : Int32)), .unset, .unset, .unset, .unset, .unset] [(.int (65535 : Int32)), (.int xa)]))
      refine Run.pre (fun _ k => XS.iand X0.here hx rfl (hb hby at_21) rfl k) ?_
      show Run p e below s _ _ _ (s₁.setTop (mkF m 22 #[.val (.int kz), .val (.int xa), .val (.int xb), .val (.int xc), .val (.int (1 : Int32)), .val (.int (3 : Int32)), .unset, .unset, .unset, .unset, .unset] [(.int (xa &&& (65535 : Int32)))]))
      refine Run.pre (fun _ k => XS.i2c X0.here hx rfl (hb hby at_22) rfl k) ?_
      show Run p e below s _ _ _ (s₁.setTop (mkF m 23 #[.val (.int kz), .val (.int xa), .val (.int xb), .val (.int xc), .val (.int (1 : Int32)), .val (.int (3 : Int32)), .unset, .unset, .unset, .unset, .unset] [(.int ((xa &&& (65535 : Int32)).toUInt32.toUInt16.toUInt32.toInt32))]))
      refine Run.pre (fun _ k => XS.istore X0.here hx rfl (hb hby at_23) rfl (l' := #[.val (.int kz), .val (.int xa), .val (.int xb), .val (.int xc), .val (.int (1 : Int32)), .val (.int (3 : Int32)), .val (.int ((xa &&& (65535 : Int32)).toUInt32.toUInt16.toUInt32.toInt32)), .unset, .unset, .unset, .unset]) rfl k) ?_
      show Run p e below s _ _ _ (s₁.setTop (mkF m 25 #[.val (.int kz), .val (.int xa), .val (.int xb), .val (.int xc), .val (.int (1 : Int32)), .val (.int (3 : Int32)), .val (.int ((xa &&& (65535 : Int32)).toUInt32.toUInt16.toUInt32.toInt32)), .unset, .unset, .unset, .unset] []))
      refine Run.pre (fun _ k => XS.iloadN X0.here hx rfl (hb hby at_25) rfl  k) ?_
      show Run p e below s _ _ _ (s₁.setTop (mkF m 26 #[.val (.int kz), .val (.int xa), .val (.int xb), .val (.int xc), .val (.int (1 : Int32)), .val (.int (3 : Int32)), .val (.int ((xa &&& (65535 : Int32)).toUInt32.toUInt16.toUInt32.toInt32)), .unset, .unset, .unset, .unset] [(.int xb)]))
      refine Run.pre (X0.ldcInt hx hown (mvT hZ (hw _ (List.mem_of_getElem? (i := 0) rfl))) (g := (mkF m 26 #[.val (.int kz), .val (.int xa), .val (.int xb), .val (.int xc), .val (.int (1 : Int32)), .val (.int (3 : Int32)), .val (.int ((xa &&& (65535 : Int32)).toUInt32.toUInt16.toUInt32.toInt32)), .unset, .unset, .unset, .unset] [(.int xb)])) rfl (hb hby at_26)) ?_
      show Run p e below s _ _ _ (s₁.setTop (mkF m 28 #[.val (.int kz), .val (.int xa), .val (.int xb), .val (.int xc), .val (.int (1 : Int32)), .val (.int (3 : Int32)), .val (.int ((xa &&& (65535 : Int32)).toUInt32.toUInt16.toUInt32.toInt32)), .unset, .unset, .unset, .unset] [(.int (65535 : Int32)), (.int xb)]))
      refine Run.pre (fun _ k => XS.iand X0.here hx rfl (hb hby at_28) rfl k) ?_
      show Run p e below s _ _ _ (s₁.setTop (mkF m 29 #[.val (.int kz), .val (.int xa), .val (.int xb), .val (.int xc), .val (.int (1 : Int32)), .val (.int (3 : Int32)), .val (.int ((xa &&& (65535 : Int32)).toUInt32.toUInt16.toUInt32.toInt32)), .unset, .unset, .unset, .unset] [(.int (xb &&& (65535 : Int32)))]))
      refine Run.pre (fun _ k => XS.i2c X0.here hx rfl (hb hby at_29) rfl k) ?_
      show Run p e below s _ _ _ (s₁.setTop (mkF m 30 #[.val (.int kz), .val (.int xa), .val (.int xb), .val (.int xc), .val (.int (1 : Int32)), .val (.int (3 : Int32)), .val (.int ((xa &&& (65535 : Int32)).toUInt32.toUInt16.toUInt32.toInt32)), .unset, .unset, .unset, .unset] [(.int ((xb &&& (65535 : Int32)).toUInt32.toUInt16.toUInt32.toInt32))]))
      refine Run.pre (fun _ k => XS.istore X0.here hx rfl (hb hby at_30) rfl (l' := #[.val (.int kz), .val (.int xa), .val (.int xb), .val (.int xc), .val (.int (1 : Int32)), .val (.int (3 : Int32)), .val (.int ((xa &&& (65535 : Int32)).toUInt32.toUInt16.toUInt32.toInt32)), .val (.int ((xb &&& (65535 : Int32)).toUInt32.toUInt16.toUInt32.toInt32)), .unset, .unset, .unset]) rfl k) ?_
      show Run p e below s _ _ _ (s₁.setTop (mkF m 32 #[.val (.int kz), .val (.int xa), .val (.int xb), .val (.int xc), .val (.int (1 : Int32)), .val (.int (3 : Int32)), .val (.int ((xa &&& (65535 : Int32)).toUInt32.toUInt16.toUInt32.toInt32)), .val (.int ((xb &&& (65535 : Int32)).toUInt32.toUInt16.toUInt32.toInt32)), .unset, .unset, .unset] []))
      refine Run.pre (fun _ k => XS.iloadN X0.here hx rfl (hb hby at_32) rfl  k) ?_
      show Run p e below s _ _ _ (s₁.setTop (mkF m 33 #[.val (.int kz), .val (.int xa), .val (.int xb), .val (.int xc), .val (.int (1 : Int32)), .val (.int (3 : Int32)), .val (.int ((xa &&& (65535 : Int32)).toUInt32.toUInt16.toUInt32.toInt32)), .val (.int ((xb &&& (65535 : Int32)).toUInt32.toUInt16.toUInt32.toInt32)), .unset, .unset, .unset] [(.int xc)]))
      refine Run.pre (X0.ldcInt hx hown (mvT hZ (hw _ (List.mem_of_getElem? (i := 0) rfl))) (g := (mkF m 33 #[.val (.int kz), .val (.int xa), .val (.int xb), .val (.int xc), .val (.int (1 : Int32)), .val (.int (3 : Int32)), .val (.int ((xa &&& (65535 : Int32)).toUInt32.toUInt16.toUInt32.toInt32)), .val (.int ((xb &&& (65535 : Int32)).toUInt32.toUInt16.toUInt32.toInt32)), .unset, .unset, .unset] [(.int xc)])) rfl (hb hby at_33)) ?_
      show Run p e below s _ _ _ (s₁.setTop (mkF m 35 #[.val (.int kz), .val (.int xa), .val (.int xb), .val (.int xc), .val (.int (1 : Int32)), .val (.int (3 : Int32)), .val (.int ((xa &&& (65535 : Int32)).toUInt32.toUInt16.toUInt32.toInt32)), .val (.int ((xb &&& (65535 : Int32)).toUInt32.toUInt16.toUInt32.toInt32)), .unset, .unset, .unset] [(.int (65535 : Int32)), (.int xc)]))
      refine Run.pre (fun _ k => XS.iand X0.here hx rfl (hb hby at_35) rfl k) ?_
      show Run p e below s _ _ _ (s₁.setTop (mkF m 36 #[.val (.int kz), .val (.int xa), .val (.int xb), .val (.int xc), .val (.int (1 : Int32)), .val (.int (3 : Int32)), .val (.int ((xa &&& (65535 : Int32)).toUInt32.toUInt16.toUInt32.toInt32)), .val (.int ((xb &&& (65535 : Int32)).toUInt32.toUInt16.toUInt32.toInt32)), .unset, .unset, .unset] [(.int (xc &&& (65535 : Int32)))]))
      refine Run.pre (fun _ k => XS.i2c X0.here hx rfl (hb hby at_36) rfl k) ?_
      show Run p e below s _ _ _ (s₁.setTop (mkF m 37 #[.val (.int kz), .val (.int xa), .val (.int xb), .val (.int xc), .val (.int (1 : Int32)), .val (.int (3 : Int32)), .val (.int ((xa &&& (65535 : Int32)).toUInt32.toUInt16.toUInt32.toInt32)), .val (.int ((xb &&& (65535 : Int32)).toUInt32.toUInt16.toUInt32.toInt32)), .unset, .unset, .unset] [(.int ((xc &&& (65535 : Int32)).toUInt32.toUInt16.toUInt32.toInt32))]))
      refine Run.pre (fun _ k => XS.istore X0.here hx rfl (hb hby at_37) rfl (l' := #[.val (.int kz), .val (.int xa), .val (.int xb), .val (.int xc), .val (.int (1 : Int32)), .val (.int (3 : Int32)), .val (.int ((xa &&& (65535 : Int32)).toUInt32.toUInt16.toUInt32.toInt32)), .val (.int ((xb &&& (65535 : Int32)).toUInt32.toUInt16.toUInt32.toInt32)), .val (.int ((xc &&& (65535 : Int32)).toUInt32.toUInt16.toUInt32.toInt32)), .unset, .unset]) rfl k) ?_
      show Run p e below s _ _ _ (s₁.setTop (mkF m 39 #[.val (.int kz), .val (.int xa), .val (.int xb), .val (.int xc), .val (.int (1 : Int32)), .val (.int (3 : Int32)), .val (.int ((xa &&& (65535 : Int32)).toUInt32.toUInt16.toUInt32.toInt32)), .val (.int ((xb &&& (65535 : Int32)).toUInt32.toUInt16.toUInt32.toInt32)), .val (.int ((xc &&& (65535 : Int32)).toUInt32.toUInt16.toUInt32.toInt32)), .unset, .unset] []))
      refine Run.pre (fun _ k => XS.iload X0.here hx rfl (hb hby at_39) rfl  k) ?_
      show Run p e below s _ _ _ (s₁.setTop (mkF m 41 #[.val (.int kz), .val (.int xa), .val (.int xb), .val (.int xc), .val (.int (1 : Int32)), .val (.int (3 : Int32)), .val (.int ((xa &&& (65535 : Int32)).toUInt32.toUInt16.toUInt32.toInt32)), .val (.int ((xb &&& (65535 : Int32)).toUInt32.toUInt16.toUInt32.toInt32)), .val (.int ((xc &&& (65535 : Int32)).toUInt32.toUInt16.toUInt32.toInt32)), .unset, .unset] [(.int (1 : Int32))]))
      refine Run.pre (fun _ k => XS.ifNo X0.here hx rfl (hb hby at_41) rfl ((if0 _ _).trans (feq ((by decide) : ¬ ((1 : Int32) = (0 : Int32)))).1) k) ?_
      show Run p e below s _ _ _ (s₁.setTop (mkF m 44 #[.val (.int kz), .val (.int xa), .val (.int xb), .val (.int xc), .val (.int (1 : Int32)), .val (.int (3 : Int32)), .val (.int ((xa &&& (65535 : Int32)).toUInt32.toUInt16.toUInt32.toInt32)), .val (.int ((xb &&& (65535 : Int32)).toUInt32.toUInt16.toUInt32.toInt32)), .val (.int ((xc &&& (65535 : Int32)).toUInt32.toUInt16.toUInt32.toInt32)), .unset, .unset] []))
      refine Run.pre (fun _ k => XS.aconstNull X0.here hx rfl (hb hby at_44) k) ?_
      show Run p e below s _ _ _ (s₁.setTop (mkF m 45 #[.val (.int kz), .val (.int xa), .val (.int xb), .val (.int xc), .val (.int (1 : Int32)), .val (.int (3 : Int32)), .val (.int ((xa &&& (65535 : Int32)).toUInt32.toUInt16.toUInt32.toInt32)), .val (.int ((xb &&& (65535 : Int32)).toUInt32.toUInt16.toUInt32.toInt32)), .val (.int ((xc &&& (65535 : Int32)).toUInt32.toUInt16.toUInt32.toInt32)), .unset, .unset] [.null]))
      refine Run.pre (fun _ k => XS.goto X0.here hx rfl (pc0 := 45) (pc' := 59) rfl (hb hby at_45) (by decide) (by decide) k) ?_
      show Run p e below s _ _ _ (s₁.setTop (mkF m 59 #[.val (.int kz), .val (.int xa), .val (.int xb), .val (.int xc), .val (.int (1 : Int32)), .val (.int (3 : Int32)), .val (.int ((xa &&& (65535 : Int32)).toUInt32.toUInt16.toUInt32.toInt32)), .val (.int ((xb &&& (65535 : Int32)).toUInt32.toUInt16.toUInt32.toInt32)), .val (.int ((xc &&& (65535 : Int32)).toUInt32.toUInt16.toUInt32.toInt32)), .unset, .unset] [.null]))
      refine Run.pre (fun _ k => XS.astore X0.here hx rfl (hb hby at_59) rfl rfl (l' := #[.val (.int kz), .val (.int xa), .val (.int xb), .val (.int xc), .val (.int (1 : Int32)), .val (.int (3 : Int32)), .val (.int ((xa &&& (65535 : Int32)).toUInt32.toUInt16.toUInt32.toInt32)), .val (.int ((xb &&& (65535 : Int32)).toUInt32.toUInt16.toUInt32.toInt32)), .val (.int ((xc &&& (65535 : Int32)).toUInt32.toUInt16.toUInt32.toInt32)), .val .null, .unset]) rfl k) ?_
      show Run p e below s _ _ _ (s₁.setTop (mkF m 61 #[.val (.int kz), .val (.int xa), .val (.int xb), .val (.int xc), .val (.int (1 : Int32)), .val (.int (3 : Int32)), .val (.int ((xa &&& (65535 : Int32)).toUInt32.toUInt16.toUInt32.toInt32)), .val (.int ((xb &&& (65535 : Int32)).toUInt32.toUInt16.toUInt32.toInt32)), .val (.int ((xc &&& (65535 : Int32)).toUInt32.toUInt16.toUInt32.toInt32)), .val .null, .unset] []))
      refine Run.pre (fun _ k => XS.aload X0.here hx rfl (hb hby at_61) rfl rfl k) ?_
      show Run p e below s _ _ _ (s₁.setTop (mkF m 63 #[.val (.int kz), .val (.int xa), .val (.int xb), .val (.int xc), .val (.int (1 : Int32)), .val (.int (3 : Int32)), .val (.int ((xa &&& (65535 : Int32)).toUInt32.toUInt16.toUInt32.toInt32)), .val (.int ((xb &&& (65535 : Int32)).toUInt32.toUInt16.toUInt32.toInt32)), .val (.int ((xc &&& (65535 : Int32)).toUInt32.toUInt16.toUInt32.toInt32)), .val .null, .unset] [.null]))
      refine Run.callS hS (by first | exact Nat.le_refl _ | (rw [e0]; exact (Nat.zero_le _))) X0 hx hZ (y := (⟨"com/example/humble_issuer/humbleissuer/web/QueryParameters", "leftOutIfEmpty", "(Ljava/lang/String;)Ljava/lang/String;"⟩ : MethodName)) hown (hw _ (List.mem_of_getElem? (i := 27) rfl)) (hw _ (List.mem_of_getElem? (i := 28) rfl)) (hw _ (List.mem_of_getElem? (i := 29) rfl)) (hw _ (List.mem_of_getElem? (i := 30) rfl)) (by decide) (W := 0) (rmL_n l Z a0 hw h0 n0 (Nat.le_trans Z0 (Keep.refl h0 []).1)) e0 (by decide) (by decide) (by decide) (by decide) (fun _ _ => trivial) (g := (mkF m 63 #[.val (.int kz), .val (.int xa), .val (.int xb), .val (.int xc), .val (.int (1 : Int32)), .val (.int (3 : Int32)), .val (.int ((xa &&& (65535 : Int32)).toUInt32.toUInt16.toUInt32.toInt32)), .val (.int ((xb &&& (65535 : Int32)).toUInt32.toUInt16.toUInt32.toInt32)), .val (.int ((xc &&& (65535 : Int32)).toUInt32.toUInt16.toUInt32.toInt32)), .val .null, .unset] [.null])) rfl (by rw [hml]; rfl) (argsL := [.null]) (rest := []) (lenOf pd_11 rfl) rfl (by show 2 * 0 + _ ≤ _; exact Nat.le_of_eq rfl) (hb hby at_63) ?_
      intro v359 T359 L359 X359 hS hZ hown hV359 hQ359
      obtain ⟨rfl, Nq359, he359⟩ := hQ359
      have N359 := Fr.app N0 Nq359
      have e359 : T359.heap = h0 := he359
      show Run p e below s _ _ _ (T359.setTop (mkF m 66 #[.val (.int kz), .val (.int xa), .val (.int xb), .val (.int xc), .val (.int (1 : Int32)), .val (.int (3 : Int32)), .val (.int ((xa &&& (65535 : Int32)).toUInt32.toUInt16.toUInt32.toInt32)), .val (.int ((xb &&& (65535 : Int32)).toUInt32.toUInt16.toUInt32.toInt32)), .val (.int ((xc &&& (65535 : Int32)).toUInt32.toUInt16.toUInt32.toInt32)), .val .null, .unset] [.null]))
      refine Run.pre (fun _ k => XS.astore X359.here hx rfl (hb hby at_66) rfl rfl (l' := #[.val (.int kz), .val (.int xa), .val (.int xb), .val (.int xc), .val (.int (1 : Int32)), .val (.int (3 : Int32)), .val (.int ((xa &&& (65535 : Int32)).toUInt32.toUInt16.toUInt32.toInt32)), .val (.int ((xb &&& (65535 : Int32)).toUInt32.toUInt16.toUInt32.toInt32)), .val (.int ((xc &&& (65535 : Int32)).toUInt32.toUInt16.toUInt32.toInt32)), .val .null, .val .null]) rfl k) ?_
      show Run p e below s _ _ _ (T359.setTop (mkF m 68 #[.val (.int kz), .val (.int xa), .val (.int xb), .val (.int xc), .val (.int (1 : Int32)), .val (.int (3 : Int32)), .val (.int ((xa &&& (65535 : Int32)).toUInt32.toUInt16.toUInt32.toInt32)), .val (.int ((xb &&& (65535 : Int32)).toUInt32.toUInt16.toUInt32.toInt32)), .val (.int ((xc &&& (65535 : Int32)).toUInt32.toUInt16.toUInt32.toInt32)), .val .null, .val .null] []))
      refine Run.pre (fun _ k => XS.iload X359.here hx rfl (hb hby at_68) rfl  k) ?_
      show Run p e below s _ _ _ (T359.setTop (mkF m 70 #[.val (.int kz), .val (.int xa), .val (.int xb), .val (.int xc), .val (.int (1 : Int32)), .val (.int (3 : Int32)), .val (.int ((xa &&& (65535 : Int32)).toUInt32.toUInt16.toUInt32.toInt32)), .val (.int ((xb &&& (65535 : Int32)).toUInt32.toUInt16.toUInt32.toInt32)), .val (.int ((xc &&& (65535 : Int32)).toUInt32.toUInt16.toUInt32.toInt32)), .val .null, .val .null] [(.int (1 : Int32))]))
      refine Run.pre (fun _ k => XS.ifYes X359.here hx rfl (pc0 := 70) (pc' := 78) rfl (hb hby at_70) rfl ((if0 _ _).trans (feq ((by decide) : ¬ ((1 : Int32) = (0 : Int32)))).2) (by decide) (by decide) k) ?_
      show Run p e below s _ _ _ (T359.setTop (mkF m 78 #[.val (.int kz), .val (.int xa), .val (.int xb), .val (.int xc), .val (.int (1 : Int32)), .val (.int (3 : Int32)), .val (.int ((xa &&& (65535 : Int32)).toUInt32.toUInt16.toUInt32.toInt32)), .val (.int ((xb &&& (65535 : Int32)).toUInt32.toUInt16.toUInt32.toInt32)), .val (.int ((xc &&& (65535 : Int32)).toUInt32.toUInt16.toUInt32.toInt32)), .val .null, .val .null] []))
      refine Run.pre (fun _ k => XS.aload X359.here hx rfl (hb hby at_78) rfl rfl k) ?_
      show Run p e below s _ _ _ (T359.setTop (mkF m 80 #[.val (.int kz), .val (.int xa), .val (.int xb), .val (.int xc), .val (.int (1 : Int32)), .val (.int (3 : Int32)), .val (.int ((xa &&& (65535 : Int32)).toUInt32.toUInt16.toUInt32.toInt32)), .val (.int ((xb &&& (65535 : Int32)).toUInt32.toUInt16.toUInt32.toInt32)), .val (.int ((xc &&& (65535 : Int32)).toUInt32.toUInt16.toUInt32.toInt32)), .val .null, .val .null] [.null]))
      refine Run.pre (fun _ k => XS.ifnonnullNo X359.here hx rfl (hb hby at_80) rfl k) ?_
      show Run p e below s _ _ _ (T359.setTop (mkF m 83 #[.val (.int kz), .val (.int xa), .val (.int xb), .val (.int xc), .val (.int (1 : Int32)), .val (.int (3 : Int32)), .val (.int ((xa &&& (65535 : Int32)).toUInt32.toUInt16.toUInt32.toInt32)), .val (.int ((xb &&& (65535 : Int32)).toUInt32.toUInt16.toUInt32.toInt32)), .val (.int ((xc &&& (65535 : Int32)).toUInt32.toUInt16.toUInt32.toInt32)), .val .null, .val .null] []))
      refine Run.pre (fun _ k => XS.iconst X359.here hx rfl (hb hby at_83) k) ?_
      show Run p e below s _ _ _ (T359.setTop (mkF m 84 #[.val (.int kz), .val (.int xa), .val (.int xb), .val (.int xc), .val (.int (1 : Int32)), .val (.int (3 : Int32)), .val (.int ((xa &&& (65535 : Int32)).toUInt32.toUInt16.toUInt32.toInt32)), .val (.int ((xb &&& (65535 : Int32)).toUInt32.toUInt16.toUInt32.toInt32)), .val (.int ((xc &&& (65535 : Int32)).toUInt32.toUInt16.toUInt32.toInt32)), .val .null, .val .null] [(.int (1 : Int32))]))
      refine Run.pre (fun _ k => XS.goto X359.here hx rfl (pc0 := 84) (pc' := 88) rfl (hb hby at_84) (by decide) (by decide) k) ?_
      show Run p e below s _ _ _ (T359.setTop (mkF m 88 #[.val (.int kz), .val (.int xa), .val (.int xb), .val (.int xc), .val (.int (1 : Int32)), .val (.int (3 : Int32)), .val (.int ((xa &&& (65535 : Int32)).toUInt32.toUInt16.toUInt32.toInt32)), .val (.int ((xb &&& (65535 : Int32)).toUInt32.toUInt16.toUInt32.toInt32)), .val (.int ((xc &&& (65535 : Int32)).toUInt32.toUInt16.toUInt32.toInt32)), .val .null, .val .null] [(.int (1 : Int32))]))
      exact Run.retN hS (by first | exact Nat.le_refl _ | (rw [e359]; exact (Nat.le_of_eq (congrArg Array.size e359)))) X359 hx hret (t := .boolean) (by simp) hlk (hb hby at_88) (by first | (rw [e359]; exact ⟨rfl, N359⟩) | exact ⟨rfl, N359⟩) (by decide) (by decide)
theorem own_held {s : State} {tb : Tables} {e : Env} {args : Array Value} (h : Calls_1 tb e args s) : Jvm.Lit.constHeld s "java/lang/String" 7 := by
  obtain ⟨h1, -⟩ := h
  exact h1 ("java/lang/String", 7) (by simp [consts_1])
set_option maxRecDepth 65536 in
set_option maxHeartbeats 40000000 in
theorem comes_1 {Post : Tables → Env → Array Value → State → Outcome → State → Prop} (hpost : ∀ tb e args s v u, (limb_1_1.after args s (.returned v) u = true ∧ limb_1_2.after args s (.returned v) u = true ∧ True) → ReturnedEndW s (.returned v) u (Jvm.fieldLocs frame_1_writes args s ++ Jvm.arrayLocs frame_1_arrays args s ++ Jvm.staticLocs frame_1_statics s) 24 1152 → Post tb e args s (.returned v) u) :
    ArmFor flags0 classFile x code maxLocals ret World_1 tables_1 room_1 Calls_1 rest_1 Pre_1 Post := by
  intro l hfl _ _ p e ha hc hk s m args below hf hA hF happ hP
  obtain ⟨hcalls, hrest, hpre⟩ := hP
  obtain ⟨-, -, -, hnamed, -, -, -, hat⟩ := (Spec.applies_iff hf).mp happ
  obtain ⟨hg, hn⟩ := and_e (Cond.before_iff.mp (show (Jvm.Cond.and given_1 narrow_1).before args s = true from hpre))
  obtain ⟨g0, gr0⟩ := and_e hg
  obtain ⟨g1, gr1⟩ := and_e gr0
  obtain ⟨g2, gr2⟩ := and_e gr1
  obtain ⟨g3, gr3⟩ := and_e gr2
  obtain ⟨w0, w1, w2, w3, rfl⟩ : ∃ w0 w1 w2 w3 : Value, args = #[w0, w1, w2, w3] := by
    have hs : args.size = 4 := by simpa [Cond.value, given_1] using g0
    obtain ⟨L⟩ := args
    match L, hs with
    | [w0, w1, w2, w3], _ => exact ⟨w0, w1, w2, w3, rfl⟩
  have hw := fun d (hd : d ∈ tables_1) => atoms_spec (ws := Jvm.Cond.code x code maxLocals ret :: tables_1) hat d (List.mem_cons_of_mem _ hd)
  have hfit : Fit s := own_fit hF
  obtain ⟨hsets, hown0⟩ := atoms_of _ (rest_1_c_eq ▸ (show rest_1_c.before _ s = true from hrest))
  have hr0 := Cond.before_iff.mp hown0
  obtain ⟨i0, ei0⟩ := is_v g1
  obtain rfl : w0 = (.int i0) := Option.some.inj ei0
  obtain ⟨i1, ei1⟩ := is_v g2
  obtain rfl : w1 = (.int i1) := Option.some.inj ei1
  obtain ⟨i2, ei2⟩ := is_v g3
  obtain rfl : w2 = (.int i2) := Option.some.inj ei2
  obtain ⟨i3, ei3⟩ := is_v gr3
  obtain rfl : w3 = (.int i3) := Option.some.inj ei3
  obtain ⟨cs0, ecs⟩ := is_v (Cond.before_iff.mp (hsets _ (List.mem_of_getElem? (i := 1) rfl)))
  have S_C := Sta.start ecs (Or.inl (hsets _ (List.mem_of_getElem? (i := 0) rfl)))
  have hcs0 : ¬ cs0 = 0 := own_ne0 ecs (Cond.before_iff.mp (hsets _ (List.mem_of_getElem? (i := 2) rfl)))
  have S_A := own_staInt (Cond.before_iff.mp (hsets _ (List.mem_of_getElem? (i := 12) rfl))) (Or.inl (hsets _ (List.mem_of_getElem? (i := 11) rfl)))
  have S_H := own_staInt (Cond.before_iff.mp (hsets _ (List.mem_of_getElem? (i := 15) rfl))) (Or.inl (hsets _ (List.mem_of_getElem? (i := 14) rfl)))
  have S_L := own_staInt (Cond.before_iff.mp (hsets _ (List.mem_of_getElem? (i := 18) rfl))) (Or.inl (hsets _ (List.mem_of_getElem? (i := 17) rfl)))
  have hH := own_held hcalls
  obtain ⟨n, o, h1, h2, h3, _, L, rfl, ⟨rfl, N⟩, hq⟩ := rm0 l s _ hw i0 i1 i2 i3 cs0 s.heap s.heap.size (Nat.le_refl _) (Old.start s) S_C hcs0 S_A S_H S_L hH (hsets _ (List.mem_of_getElem? (i := 2) rfl)) tables_1 p e ha hc hk s m _ below hf ((Spec.applies_iff_loose hf).mp happ).1 ⟨rfl, State.Warmed39.refl s, rfl, ⟨#[], by simp, by simp⟩⟩ trivial
  refine ⟨n, _, h1, h2, h3, hpost _ _ _ _ _ _ ⟨Cond.after_iff.mpr rfl, Cond.after_iff.mpr (eq_i res_at (Term.int_eval (1)) rfl), trivial⟩ ⟨hq.1, hq.2.1, hq.2.2.1, (hq.2.2.2.sift fun y hy => Or.inr (N y hy)).mono (by decide) (by decide)⟩⟩
theorem main_1_1 : Claimed_1_1 := comes_1 fun _ _ _ _ _ _ h hF => ⟨h.1, hF⟩
theorem main_1_2 : Claimed_1_2 := comes_1 fun _ _ _ _ _ _ h hF => ⟨h.2.1, hF⟩
end Jvm.Pilot.@@N@@
namespace Jvm.Pilot.@@N@@
open Jvm Jvm.ClassFile Sem Op Lib Jvm.Free Jvm.Stand Jvm.Pilot.@@N@@.Jvm.D
/-! MADE BY PROGRAM (witnessworld.py) out of the Statement's table words and the real class files: 20 classes; the members and pool entries that the words name. The judged class is class 1, her method 2. -/
namespace start1
open Jvm.ClassFile
def u (s : String) : CpInfo := .utf8 (stringToUtf16 s)
/-- a pool by its gaps: so many unusable entries, then the entry; so many at the end -/
def gap : Nat → List CpInfo → List CpInfo
  | 0, r => r
  | n + 1, r => .unusable :: gap n r
def poolList (es : List (Nat × CpInfo)) (last : Nat) : List CpInfo := es.foldr (fun e r => gap e.1 (e.2 :: r)) (gap last [])
def pool (es : List (Nat × CpInfo)) (last : Nat) : Array CpInfo := ⟨poolList es last⟩
def fileOf (pool : Array CpInfo) (this : Nat) (attrs : Array Attribute := #[]) (ms : Array MethodInfo := #[]) (fl : Nat := 33) (sup : Nat := 0) (ifs : Array Nat := #[]) (fds : Array FieldInfo := #[]) : ClassFile where
  minorVersion := 0
  majorVersion := 65
  constantPool := pool
  accessFlags := fl
  thisClass := this
  superClass := sup
  interfaces := ifs
  fields := fds
  methods := ms
  attributes := attrs
def plain (name : String) (sup : Option ClassId) : Class where
  name := name
  kind := .ordinary
  loader := none
  accessFlags := 33
  super := sup
  interfaces := #[]
  cf := none
  fields := #[]
  methods := #[]
  instanceTypes := #[]
  staticTypes := #[]
  resolved := #[]
  callSites := []
  init := .initialized
  statics := none
  mirror := none

def pool0 : Array CpInfo := pool [(5, u "<init>"), (0, u "()V"), (1, .class_ 10), (1, u "java/lang/Object")] 113

def k0c0 : Code := { maxStack := 0, maxLocals := 1, code := object_method_1_code, exceptionTable := #[], attributes := #[] }
def k0m0 : Method := { name := "<init>", desc := "()V", sig := { parameters := [], returnType := none }, accessFlags := 1, code := some k0c0 }
/-- java/lang/Object -/
def k0 : Class := { plain "java/lang/Object" none with
  accessFlags := 33
  interfaces := #[]
  cf := some (fileOf pool0 8 #[] #[{ accessFlags := 1, nameIndex := 5, descriptorIndex := 6, attributes := #[] }] 33 0 #[] #[])
  fields := #[]
  methods := #[k0m0]
  instanceTypes := #[]
  staticTypes := #[]
  resolved := Array.replicate 124 none
  statics := none }

def pool1 : Array CpInfo := pool [(2, .class_ 4), (1, u "java/lang/Object"), (0, u "<init>"), (0, u "()V"), (0, .class_ 8), (0, u "java/lang/String"), (0, .methodref 7 10), (0, .nameAndType 5 11), (0, u "([C)V"), (0, .integer 65535), (0, .methodref 14 15), (0, .class_ 16), (0, .nameAndType 17 18), (0, u "com/example/humble_issuer/humbleissuer/web/QueryParametersLeftOutIfEmptyPinLaw"), (0, u "build"), (0, u "(ICCC)Ljava/lang/String;"), (0, .methodref 20 21), (0, .class_ 22), (0, .nameAndType 23 24), (0, u "com/example/humble_issuer/humbleissuer/web/QueryParameters"), (0, u "leftOutIfEmpty"), (0, u "(Ljava/lang/String;)Ljava/lang/String;"), (0, .methodref 7 26), (0, .nameAndType 27 28), (0, u "equals"), (0, u "(Ljava/lang/Object;)Z"), (3, u "law"), (0, u "(IIII)Z")] 2

def k1m0 : Method := { name := "<init>", desc := "()V", sig := { parameters := [], returnType := none }, accessFlags := 2, code := none }
def k1c1 : Code := { maxStack := 6, maxLocals := 4, code := method_2_code, exceptionTable := #[], attributes := #[] }
def k1m1 : Method := { name := "build", desc := "(ICCC)Ljava/lang/String;", sig := { parameters := [.int, .char, .char, .char], returnType := some (.object "java/lang/String") }, accessFlags := 10, code := some k1c1 }
def k1c2 : Code := { maxStack := 4, maxLocals := 11, code := code, exceptionTable := #[], attributes := #[] }
def k1m2 : Method := { name := "law", desc := "(IIII)Z", sig := { parameters := [.int, .int, .int, .int], returnType := some .boolean }, accessFlags := 9, code := some k1c2 }
/-- com/example/humble_issuer/humbleissuer/web/QueryParametersLeftOutIfEmptyPinLaw -/
def k1 : Class := { plain "com/example/humble_issuer/humbleissuer/web/QueryParametersLeftOutIfEmptyPinLaw" (some 0) with
  accessFlags := 49
  interfaces := #[]
  cf := some (fileOf pool1 14 #[] #[{ accessFlags := 2, nameIndex := 5, descriptorIndex := 6, attributes := #[] }, { accessFlags := 10, nameIndex := 17, descriptorIndex := 18, attributes := #[] }, { accessFlags := 9, nameIndex := 32, descriptorIndex := 33, attributes := #[] }] 49 2 #[] #[])
  fields := #[]
  methods := #[k1m0, k1m1, k1m2]
  instanceTypes := #[]
  staticTypes := #[]
  resolved := Array.replicate 36 none
  statics := none }

def pool2 : Array CpInfo := pool [(1, .class_ 2), (0, u "java/io/Serializable"), (0, .class_ 4), (0, u "java/lang/Object")] 2

/-- java/io/Serializable -/
def k2 : Class := { plain "java/io/Serializable" (some 0) with
  accessFlags := 1537
  interfaces := #[]
  cf := some (fileOf pool2 1 #[] #[] 1537 3 #[] #[])
  fields := #[]
  methods := #[]
  instanceTypes := #[]
  staticTypes := #[]
  resolved := Array.replicate 7 none
  statics := none }

def pool3 : Array CpInfo := pool [(1, .class_ 2), (0, u "java/lang/Comparable"), (0, .class_ 4), (0, u "java/lang/Object")] 7

/-- java/lang/Comparable -/
def k3 : Class := { plain "java/lang/Comparable" (some 0) with
  accessFlags := 1537
  interfaces := #[]
  cf := some (fileOf pool3 1 #[] #[] 1537 3 #[] #[])
  fields := #[]
  methods := #[]
  instanceTypes := #[]
  staticTypes := #[]
  resolved := Array.replicate 12 none
  statics := none }

def pool4 : Array CpInfo := pool [(2, .class_ 4), (1, u "java/lang/CharSequence"), (42, .class_ 48), (0, u "java/lang/CharSequence$1CodePointIterator"), (10, .class_ 60), (0, u "java/lang/CharSequence$1CharIterator"), (5, .class_ 67), (0, u "java/lang/Object")] 63

/-- java/lang/CharSequence -/
def k4 : Class := { plain "java/lang/CharSequence" (some 0) with
  accessFlags := 1537
  interfaces := #[]
  cf := some (fileOf pool4 2 #[.nestMembers #[47, 59]] #[] 1537 66 #[] #[])
  fields := #[]
  methods := #[]
  instanceTypes := #[]
  staticTypes := #[]
  resolved := Array.replicate 131 none
  statics := none }

def pool5 : Array CpInfo := pool [(1, .class_ 2), (0, u "java/lang/constant/Constable"), (0, .class_ 4), (0, u "java/lang/Object")] 6

/-- java/lang/constant/Constable -/
def k5 : Class := { plain "java/lang/constant/Constable" (some 0) with
  accessFlags := 1537
  interfaces := #[]
  cf := some (fileOf pool5 1 #[] #[] 1537 3 #[] #[])
  fields := #[]
  methods := #[]
  instanceTypes := #[]
  staticTypes := #[]
  resolved := Array.replicate 11 none
  statics := none }

def pool6 : Array CpInfo := pool [(1, .class_ 2), (0, u "java/lang/constant/ConstantDesc"), (0, .class_ 4), (0, u "java/lang/Object")] 32

/-- java/lang/constant/ConstantDesc -/
def k6 : Class := { plain "java/lang/constant/ConstantDesc" (some 0) with
  accessFlags := 1537
  interfaces := #[]
  cf := some (fileOf pool6 1 #[] #[] 1537 3 #[] #[])
  fields := #[]
  methods := #[]
  instanceTypes := #[]
  staticTypes := #[]
  resolved := Array.replicate 37 none
  statics := none }

def pool7 : Array CpInfo := pool [(1, .methodref 2 3), (0, .class_ 4), (0, .nameAndType 5 6), (0, u "java/lang/Object"), (0, u "<init>"), (0, u "()V"), (0, .string 8), (0, u ""), (0, .fieldref 10 11), (0, .class_ 12), (0, .nameAndType 13 14), (0, u "java/lang/String"), (0, u "value"), (0, u "[B"), (0, .fieldref 10 16), (0, .nameAndType 17 18), (0, u "coder"), (0, u "B"), (2, u "hash"), (0, u "I"), (2, u "hashIsZero"), (0, u "Z"), (0, .methodref 10 28), (0, .nameAndType 5 29), (0, u "([CIILjava/lang/Void;)V"), (8, .fieldref 10 39), (0, .nameAndType 40 26), (0, u "COMPACT_STRINGS"), (1, .class_ 44), (1, u "java/lang/StringUTF16"), (0, u "compress"), (1, .methodref 42 48), (0, .nameAndType 49 50), (0, u "coderFromArrayLen"), (0, u "([BI)B"), (91, u "()Z"), (34, .methodref 42 178), (0, .nameAndType 45 179), (0, u "([CII)[B"), (363, u "equals"), (29, u "(Ljava/lang/Object;)Z"), (1, .class_ 576), (0, u "java/lang/CharSequence"), (22, u "CASE_INSENSITIVE_ORDER"), (0, u "Ljava/util/Comparator;"), (91, u "isEmpty"), (317, u "([C)V"), (90, u "serialPersistentFields"), (0, u "[Ljava/io/ObjectStreamField;"), (0, .class_ 1104), (0, u "java/lang/String$CaseInsensitiveComparator"), (1, .class_ 1107), (0, u "java/io/Serializable"), (0, .class_ 1109), (0, u "java/lang/Comparable"), (0, .class_ 1111), (0, u "java/lang/constant/Constable"), (0, .class_ 1113), (0, u "java/lang/constant/ConstantDesc"), (2, u "serialVersionUID"), (0, u "J"), (3, u "REPL"), (0, u "C"), (2, u "LATIN1"), (1, u "UTF16")] 323

def k7m0 : Method := { name := "<init>", desc := "()V", sig := { parameters := [], returnType := none }, accessFlags := 1, code := none }
def k7c1 : Code := { maxStack := 5, maxLocals := 2, code := jdk_42_method_3_code, exceptionTable := #[], attributes := #[] }
def k7m1 : Method := { name := "<init>", desc := "([C)V", sig := { parameters := [(.array .char)], returnType := none }, accessFlags := 1, code := some k7c1 }
def k7c2 : Code := { maxStack := 1, maxLocals := 1, code := jdk_42_method_55_code, exceptionTable := #[], attributes := #[] }
def k7m2 : Method := { name := "isEmpty", desc := "()Z", sig := { parameters := [], returnType := some .boolean }, accessFlags := 1, code := some k7c2 }
def k7c3 : Code := { maxStack := 2, maxLocals := 3, code := jdk_42_method_66_code, exceptionTable := #[], attributes := #[] }
def k7m3 : Method := { name := "equals", desc := "(Ljava/lang/Object;)Z", sig := { parameters := [(.object "java/lang/Object")], returnType := some .boolean }, accessFlags := 1, code := some k7c3 }
def k7c4 : Code := { maxStack := 4, maxLocals := 6, code := jdk_42_method_149_code, exceptionTable := #[], attributes := #[] }
def k7m4 : Method := { name := "<init>", desc := "([CIILjava/lang/Void;)V", sig := { parameters := [(.array .char), .int, .int, (.object "java/lang/Void")], returnType := none }, accessFlags := 2, code := some k7c4 }
/-- java/lang/String -/
def k7 : Class := { plain "java/lang/String" (some 0) with
  accessFlags := 49
  interfaces := #[2, 3, 4, 5, 6]
  cf := some (fileOf pool7 10 #[.nestMembers #[1103]] #[{ accessFlags := 1, nameIndex := 5, descriptorIndex := 6, attributes := #[] }, { accessFlags := 1, nameIndex := 5, descriptorIndex := 1010, attributes := #[] }, { accessFlags := 1, nameIndex := 692, descriptorIndex := 142, attributes := #[] }, { accessFlags := 1, nameIndex := 543, descriptorIndex := 573, attributes := #[] }, { accessFlags := 2, nameIndex := 5, descriptorIndex := 29, attributes := #[] }] 49 2 #[1106, 1108, 575, 1110, 1112] #[{ accessFlags := 18, nameIndex := 13, descriptorIndex := 14, attributes := #[] }, { accessFlags := 18, nameIndex := 17, descriptorIndex := 18, attributes := #[] }, { accessFlags := 2, nameIndex := 21, descriptorIndex := 22, attributes := #[] }, { accessFlags := 2, nameIndex := 25, descriptorIndex := 26, attributes := #[] }, { accessFlags := 26, nameIndex := 1116, descriptorIndex := 1117, attributes := #[] }, { accessFlags := 24, nameIndex := 40, descriptorIndex := 26, attributes := #[] }, { accessFlags := 26, nameIndex := 1101, descriptorIndex := 1102, attributes := #[] }, { accessFlags := 26, nameIndex := 1121, descriptorIndex := 1122, attributes := #[] }, { accessFlags := 25, nameIndex := 599, descriptorIndex := 600, attributes := #[] }, { accessFlags := 24, nameIndex := 1125, descriptorIndex := 18, attributes := #[] }, { accessFlags := 24, nameIndex := 1127, descriptorIndex := 18, attributes := #[] }])
  fields := #[{ name := "value", type := (.array .byte), accessFlags := 18, slot := 0, constantValue := 0 }, { name := "coder", type := .byte, accessFlags := 18, slot := 1, constantValue := 0 }, { name := "hash", type := .int, accessFlags := 2, slot := 2, constantValue := 0 }, { name := "hashIsZero", type := .boolean, accessFlags := 2, slot := 3, constantValue := 0 }, { name := "serialVersionUID", type := .long, accessFlags := 26, slot := 0, constantValue := 0 }, { name := "COMPACT_STRINGS", type := .boolean, accessFlags := 24, slot := 1, constantValue := 0 }, { name := "serialPersistentFields", type := (.array (.object "java/io/ObjectStreamField")), accessFlags := 26, slot := 2, constantValue := 0 }, { name := "REPL", type := .char, accessFlags := 26, slot := 3, constantValue := 0 }, { name := "CASE_INSENSITIVE_ORDER", type := (.object "java/util/Comparator"), accessFlags := 25, slot := 4, constantValue := 0 }, { name := "LATIN1", type := .byte, accessFlags := 24, slot := 5, constantValue := 0 }, { name := "UTF16", type := .byte, accessFlags := 24, slot := 6, constantValue := 0 }]
  methods := #[k7m0, k7m1, k7m2, k7m3, k7m4]
  instanceTypes := #[(.array .byte), .byte, .int, .boolean]
  staticTypes := #[.long, .boolean, (.array (.object "java/io/ObjectStreamField")), .char, (.object "java/util/Comparator"), .byte, .byte]
  resolved := Array.replicate 1451 none
  statics := some 0 }

def pool8 : Array CpInfo := pool [(2, .class_ 4), (1, u "java/lang/Object"), (0, u "<init>"), (0, u "()V"), (0, .methodref 8 9), (0, .class_ 10), (0, .nameAndType 11 12), (0, u "java/lang/String"), (0, u "isEmpty"), (0, u "()Z"), (0, .class_ 14), (0, u "com/example/humble_issuer/humbleissuer/web/QueryParameters"), (2, u "leftOutIfEmpty"), (0, u "(Ljava/lang/String;)Ljava/lang/String;")] 3

def k8m0 : Method := { name := "<init>", desc := "()V", sig := { parameters := [], returnType := none }, accessFlags := 2, code := none }
def k8c1 : Code := { maxStack := 1, maxLocals := 1, code := prog_11_method_2_code, exceptionTable := #[], attributes := #[] }
def k8m1 : Method := { name := "leftOutIfEmpty", desc := "(Ljava/lang/String;)Ljava/lang/String;", sig := { parameters := [(.object "java/lang/String")], returnType := some (.object "java/lang/String") }, accessFlags := 9, code := some k8c1 }
/-- com/example/humble_issuer/humbleissuer/web/QueryParameters -/
def k8 : Class := { plain "com/example/humble_issuer/humbleissuer/web/QueryParameters" (some 0) with
  accessFlags := 33
  interfaces := #[]
  cf := some (fileOf pool8 13 #[] #[{ accessFlags := 2, nameIndex := 5, descriptorIndex := 6, attributes := #[] }, { accessFlags := 9, nameIndex := 17, descriptorIndex := 18, attributes := #[] }] 33 2 #[] #[])
  fields := #[]
  methods := #[k8m0, k8m1]
  instanceTypes := #[]
  staticTypes := #[]
  resolved := Array.replicate 22 none
  statics := none }

def pool9 : Array CpInfo := pool [(6, .class_ 8), (1, u "java/lang/Object"), (0, u "<init>"), (0, u "()V"), (0, .methodref 12 13), (0, .class_ 14), (0, .nameAndType 15 16), (0, u "java/lang/StringUTF16"), (0, u "newBytesLength"), (0, u "(I)I"), (3, .integer 1073741823), (23, .fieldref 12 45), (0, .nameAndType 46 47), (0, u "$assertionsDisabled"), (0, u "Z"), (11, .fieldref 12 60), (0, .nameAndType 61 62), (0, u "HI_BYTE_SHIFT"), (0, u "I"), (0, .fieldref 12 64), (0, .nameAndType 65 62), (0, u "LO_BYTE_SHIFT"), (5, .methodref 12 72), (0, .nameAndType 73 74), (0, u "getChar"), (0, u "([BI)C"), (32, .methodref 12 108), (0, .nameAndType 109 110), (0, u "newBytesFor"), (0, u "(I)[B"), (0, .methodref 12 112), (0, .nameAndType 113 114), (0, u "putChar"), (0, u "([BII)V"), (0, .methodref 12 116), (0, .nameAndType 117 118), (0, u "compress"), (0, u "([CI[BII)I"), (0, .methodref 12 120), (0, .nameAndType 121 122), (0, u "toBytes"), (0, u "([CII)[B"), (138, u "coderFromArrayLen"), (0, u "([BI)B"), (106, .class_ 371), (1, u "java/lang/StringUTF16$LinesSpliterator"), (58, u "MAX_LENGTH"), (196, .class_ 628), (0, u "java/lang/StringUTF16$CodePointsSpliterator"), (0, .class_ 630), (0, u "java/lang/StringUTF16$CharsSpliterator")] 4

def k9m0 : Method := { name := "<init>", desc := "()V", sig := { parameters := [], returnType := none }, accessFlags := 0, code := none }
def k9c1 : Code := { maxStack := 1, maxLocals := 1, code := jdk_52_method_2_code, exceptionTable := #[], attributes := #[] }
def k9m1 : Method := { name := "newBytesFor", desc := "(I)[B", sig := { parameters := [.int], returnType := some (.array .byte) }, accessFlags := 9, code := some k9c1 }
def k9c2 : Code := { maxStack := 4, maxLocals := 1, code := jdk_52_method_3_code, exceptionTable := #[], attributes := #[] }
def k9m2 : Method := { name := "newBytesLength", desc := "(I)I", sig := { parameters := [.int], returnType := some .int }, accessFlags := 9, code := some k9c2 }
def k9c3 : Code := { maxStack := 4, maxLocals := 3, code := jdk_52_method_4_code, exceptionTable := #[], attributes := #[] }
def k9m3 : Method := { name := "putChar", desc := "([BII)V", sig := { parameters := [(.array .byte), .int, .int], returnType := none }, accessFlags := 8, code := some k9c3 }
def k9c4 : Code := { maxStack := 3, maxLocals := 2, code := jdk_52_method_5_code, exceptionTable := #[], attributes := #[] }
def k9m4 : Method := { name := "getChar", desc := "([BI)C", sig := { parameters := [(.array .byte), .int], returnType := some .char }, accessFlags := 8, code := some k9c4 }
def k9c5 : Code := { maxStack := 4, maxLocals := 5, code := jdk_52_method_14_code, exceptionTable := #[], attributes := #[] }
def k9m5 : Method := { name := "toBytes", desc := "([CII)[B", sig := { parameters := [(.array .char), .int, .int], returnType := some (.array .byte) }, accessFlags := 9, code := some k9c5 }
def k9c6 : Code := { maxStack := 2, maxLocals := 2, code := jdk_52_method_15_code, exceptionTable := #[], attributes := #[] }
def k9m6 : Method := { name := "coderFromArrayLen", desc := "([BI)B", sig := { parameters := [(.array .byte), .int], returnType := some .byte }, accessFlags := 8, code := some k9c6 }
def k9c7 : Code := { maxStack := 5, maxLocals := 6, code := jdk_52_method_16_code, exceptionTable := #[], attributes := #[] }
def k9m7 : Method := { name := "compress", desc := "([CII)[B", sig := { parameters := [(.array .char), .int, .int], returnType := some (.array .byte) }, accessFlags := 9, code := some k9c7 }
def k9c8 : Code := { maxStack := 3, maxLocals := 7, code := jdk_52_method_21_code, exceptionTable := #[], attributes := #[] }
def k9m8 : Method := { name := "compress", desc := "([CI[BII)I", sig := { parameters := [(.array .char), .int, (.array .byte), .int, .int], returnType := some .int }, accessFlags := 9, code := some k9c8 }
/-- java/lang/StringUTF16 -/
def k9 : Class := { plain "java/lang/StringUTF16" (some 0) with
  accessFlags := 48
  interfaces := #[]
  cf := some (fileOf pool9 12 #[.nestMembers #[627, 629, 369]] #[{ accessFlags := 0, nameIndex := 9, descriptorIndex := 10, attributes := #[] }, { accessFlags := 9, nameIndex := 109, descriptorIndex := 110, attributes := #[] }, { accessFlags := 9, nameIndex := 15, descriptorIndex := 16, attributes := #[] }, { accessFlags := 8, nameIndex := 113, descriptorIndex := 114, attributes := #[] }, { accessFlags := 8, nameIndex := 73, descriptorIndex := 74, attributes := #[] }, { accessFlags := 9, nameIndex := 121, descriptorIndex := 122, attributes := #[] }, { accessFlags := 8, nameIndex := 261, descriptorIndex := 262, attributes := #[] }, { accessFlags := 9, nameIndex := 117, descriptorIndex := 122, attributes := #[] }, { accessFlags := 9, nameIndex := 117, descriptorIndex := 118, attributes := #[] }] 48 6 #[] #[{ accessFlags := 26, nameIndex := 61, descriptorIndex := 62, attributes := #[] }, { accessFlags := 26, nameIndex := 65, descriptorIndex := 62, attributes := #[] }, { accessFlags := 24, nameIndex := 430, descriptorIndex := 62, attributes := #[] }, { accessFlags := 4120, nameIndex := 46, descriptorIndex := 47, attributes := #[] }])
  fields := #[{ name := "HI_BYTE_SHIFT", type := .int, accessFlags := 26, slot := 0, constantValue := 0 }, { name := "LO_BYTE_SHIFT", type := .int, accessFlags := 26, slot := 1, constantValue := 0 }, { name := "MAX_LENGTH", type := .int, accessFlags := 24, slot := 2, constantValue := 0 }, { name := "$assertionsDisabled", type := .boolean, accessFlags := 4120, slot := 3, constantValue := 0 }]
  methods := #[k9m0, k9m1, k9m2, k9m3, k9m4, k9m5, k9m6, k9m7, k9m8]
  instanceTypes := #[]
  staticTypes := #[.int, .int, .int, .boolean]
  resolved := Array.replicate 635 none
  statics := some 1 }

def pool10 : Array CpInfo := pool [(4, .class_ 6), (1, u "java/lang/Object"), (0, u "<init>"), (0, u "()V"), (5, .class_ 16), (1, u "java/lang/StringLatin1"), (104, u "$assertionsDisabled"), (0, u "Z"), (98, .class_ 223), (1, u "java/lang/StringLatin1$LinesSpliterator"), (166, .class_ 391), (0, u "java/lang/StringLatin1$CharsSpliterator")] 3

def k10m0 : Method := { name := "<init>", desc := "()V", sig := { parameters := [], returnType := none }, accessFlags := 0, code := none }
/-- java/lang/StringLatin1 -/
def k10 : Class := { plain "java/lang/StringLatin1" (some 0) with
  accessFlags := 48
  interfaces := #[]
  cf := some (fileOf pool10 14 #[.nestMembers #[390, 221]] #[{ accessFlags := 0, nameIndex := 7, descriptorIndex := 8, attributes := #[] }] 48 4 #[] #[{ accessFlags := 4120, nameIndex := 121, descriptorIndex := 122, attributes := #[] }])
  fields := #[{ name := "$assertionsDisabled", type := .boolean, accessFlags := 4120, slot := 0, constantValue := 0 }]
  methods := #[k10m0]
  instanceTypes := #[]
  staticTypes := #[.boolean]
  resolved := Array.replicate 395 none
  statics := none }

def pool11 : Array CpInfo := pool [(2, .class_ 4), (1, u "java/lang/Object"), (0, u "<init>"), (0, u "()V"), (17, .class_ 26), (1, u "jdk/internal/util/Preconditions"), (28, .class_ 56), (0, u "jdk/internal/util/Preconditions$4"), (57, .class_ 115), (0, u "jdk/internal/util/Preconditions$1"), (7, u "SIOOBE_FORMATTER"), (0, u "Ljava/util/function/BiFunction;"), (0, .class_ 126), (0, u "jdk/internal/util/Preconditions$2"), (3, u "AIOOBE_FORMATTER"), (0, .class_ 132), (0, u "jdk/internal/util/Preconditions$3"), (3, u "IOOBE_FORMATTER")] 57

def k11m0 : Method := { name := "<init>", desc := "()V", sig := { parameters := [], returnType := none }, accessFlags := 1, code := none }
/-- jdk/internal/util/Preconditions -/
def k11 : Class := { plain "jdk/internal/util/Preconditions" (some 0) with
  accessFlags := 33
  interfaces := #[]
  cf := some (fileOf pool11 24 #[.nestMembers #[55, 131, 125, 114]] #[{ accessFlags := 1, nameIndex := 5, descriptorIndex := 6, attributes := #[] }] 33 2 #[] #[{ accessFlags := 25, nameIndex := 123, descriptorIndex := 124, attributes := #[] }, { accessFlags := 25, nameIndex := 130, descriptorIndex := 124, attributes := #[] }, { accessFlags := 25, nameIndex := 136, descriptorIndex := 124, attributes := #[] }])
  fields := #[{ name := "SIOOBE_FORMATTER", type := (.object "java/util/function/BiFunction"), accessFlags := 25, slot := 0, constantValue := 0 }, { name := "AIOOBE_FORMATTER", type := (.object "java/util/function/BiFunction"), accessFlags := 25, slot := 1, constantValue := 0 }, { name := "IOOBE_FORMATTER", type := (.object "java/util/function/BiFunction"), accessFlags := 25, slot := 2, constantValue := 0 }]
  methods := #[k11m0]
  instanceTypes := #[]
  staticTypes := #[(.object "java/util/function/BiFunction"), (.object "java/util/function/BiFunction"), (.object "java/util/function/BiFunction")]
  resolved := Array.replicate 194 none
  statics := some 2 }

def pool12 : Array CpInfo := pool [(9, u "<init>"), (6, .class_ 18), (1, u "java/lang/Object"), (0, u "()V"), (1, .class_ 23), (1, u "jdk/internal/util/ArraysSupport"), (0, u "LOG2_ARRAY_LONG_INDEX_SCALE"), (0, u "I"), (2, u "U"), (0, u "Ljdk/internal/misc/Unsafe;"), (8, u "BIG_ENDIAN"), (0, u "Z"), (8, u "LOG2_BYTE_BIT_SIZE"), (4, u "LOG2_ARRAY_INT_INDEX_SCALE"), (54, u "JLA"), (0, u "Ljdk/internal/access/JavaLangAccess;"), (11, u "LOG2_ARRAY_BOOLEAN_INDEX_SCALE"), (9, u "LOG2_ARRAY_BYTE_INDEX_SCALE"), (5, u "LOG2_ARRAY_CHAR_INDEX_SCALE"), (5, u "LOG2_ARRAY_SHORT_INDEX_SCALE"), (18, u "LOG2_ARRAY_FLOAT_INDEX_SCALE"), (24, u "LOG2_ARRAY_DOUBLE_INDEX_SCALE"), (89, u "T_BOOLEAN"), (2, u "T_CHAR"), (1, u "T_FLOAT"), (1, u "T_DOUBLE"), (1, u "T_BYTE"), (1, u "T_SHORT"), (1, u "T_INT"), (1, u "T_LONG"), (1, u "SOFT_MAX_ARRAY_LENGTH")] 83

def k12m0 : Method := { name := "<init>", desc := "()V", sig := { parameters := [], returnType := none }, accessFlags := 2, code := none }
/-- jdk/internal/util/ArraysSupport -/
def k12 : Class := { plain "jdk/internal/util/ArraysSupport" (some 0) with
  accessFlags := 33
  interfaces := #[]
  cf := some (fileOf pool12 21 #[] #[{ accessFlags := 2, nameIndex := 9, descriptorIndex := 19, attributes := #[] }] 33 16 #[] #[{ accessFlags := 24, nameIndex := 28, descriptorIndex := 29, attributes := #[] }, { accessFlags := 26, nameIndex := 38, descriptorIndex := 39, attributes := #[] }, { accessFlags := 25, nameIndex := 121, descriptorIndex := 25, attributes := #[] }, { accessFlags := 25, nameIndex := 131, descriptorIndex := 25, attributes := #[] }, { accessFlags := 25, nameIndex := 137, descriptorIndex := 25, attributes := #[] }, { accessFlags := 25, nameIndex := 143, descriptorIndex := 25, attributes := #[] }, { accessFlags := 25, nameIndex := 53, descriptorIndex := 25, attributes := #[] }, { accessFlags := 25, nameIndex := 24, descriptorIndex := 25, attributes := #[] }, { accessFlags := 25, nameIndex := 162, descriptorIndex := 25, attributes := #[] }, { accessFlags := 25, nameIndex := 187, descriptorIndex := 25, attributes := #[] }, { accessFlags := 26, nameIndex := 48, descriptorIndex := 25, attributes := #[] }, { accessFlags := 25, nameIndex := 277, descriptorIndex := 25, attributes := #[] }, { accessFlags := 25, nameIndex := 280, descriptorIndex := 25, attributes := #[] }, { accessFlags := 25, nameIndex := 282, descriptorIndex := 25, attributes := #[] }, { accessFlags := 25, nameIndex := 284, descriptorIndex := 25, attributes := #[] }, { accessFlags := 25, nameIndex := 286, descriptorIndex := 25, attributes := #[] }, { accessFlags := 25, nameIndex := 288, descriptorIndex := 25, attributes := #[] }, { accessFlags := 25, nameIndex := 290, descriptorIndex := 25, attributes := #[] }, { accessFlags := 25, nameIndex := 292, descriptorIndex := 25, attributes := #[] }, { accessFlags := 26, nameIndex := 108, descriptorIndex := 109, attributes := #[] }, { accessFlags := 25, nameIndex := 294, descriptorIndex := 25, attributes := #[] }])
  fields := #[{ name := "U", type := (.object "jdk/internal/misc/Unsafe"), accessFlags := 24, slot := 0, constantValue := 0 }, { name := "BIG_ENDIAN", type := .boolean, accessFlags := 26, slot := 1, constantValue := 0 }, { name := "LOG2_ARRAY_BOOLEAN_INDEX_SCALE", type := .int, accessFlags := 25, slot := 2, constantValue := 0 }, { name := "LOG2_ARRAY_BYTE_INDEX_SCALE", type := .int, accessFlags := 25, slot := 3, constantValue := 0 }, { name := "LOG2_ARRAY_CHAR_INDEX_SCALE", type := .int, accessFlags := 25, slot := 4, constantValue := 0 }, { name := "LOG2_ARRAY_SHORT_INDEX_SCALE", type := .int, accessFlags := 25, slot := 5, constantValue := 0 }, { name := "LOG2_ARRAY_INT_INDEX_SCALE", type := .int, accessFlags := 25, slot := 6, constantValue := 0 }, { name := "LOG2_ARRAY_LONG_INDEX_SCALE", type := .int, accessFlags := 25, slot := 7, constantValue := 0 }, { name := "LOG2_ARRAY_FLOAT_INDEX_SCALE", type := .int, accessFlags := 25, slot := 8, constantValue := 0 }, { name := "LOG2_ARRAY_DOUBLE_INDEX_SCALE", type := .int, accessFlags := 25, slot := 9, constantValue := 0 }, { name := "LOG2_BYTE_BIT_SIZE", type := .int, accessFlags := 26, slot := 10, constantValue := 0 }, { name := "T_BOOLEAN", type := .int, accessFlags := 25, slot := 11, constantValue := 0 }, { name := "T_CHAR", type := .int, accessFlags := 25, slot := 12, constantValue := 0 }, { name := "T_FLOAT", type := .int, accessFlags := 25, slot := 13, constantValue := 0 }, { name := "T_DOUBLE", type := .int, accessFlags := 25, slot := 14, constantValue := 0 }, { name := "T_BYTE", type := .int, accessFlags := 25, slot := 15, constantValue := 0 }, { name := "T_SHORT", type := .int, accessFlags := 25, slot := 16, constantValue := 0 }, { name := "T_INT", type := .int, accessFlags := 25, slot := 17, constantValue := 0 }, { name := "T_LONG", type := .int, accessFlags := 25, slot := 18, constantValue := 0 }, { name := "JLA", type := (.object "jdk/internal/access/JavaLangAccess"), accessFlags := 26, slot := 19, constantValue := 0 }, { name := "SOFT_MAX_ARRAY_LENGTH", type := .int, accessFlags := 25, slot := 20, constantValue := 0 }]
  methods := #[k12m0]
  instanceTypes := #[]
  staticTypes := #[(.object "jdk/internal/misc/Unsafe"), .boolean, .int, .int, .int, .int, .int, .int, .int, .int, .int, .int, .int, .int, .int, .int, .int, .int, .int, (.object "jdk/internal/access/JavaLangAccess"), .int]
  resolved := Array.replicate 378 none
  statics := none }

def pool13 : Array CpInfo := pool [(1, u "java/lang/Cloneable"), (0, .class_ 1), (0, u "java/lang/Object"), (0, .class_ 3)] 3

/-- java/lang/Cloneable -/
def k13 : Class := { plain "java/lang/Cloneable" (some 0) with
  accessFlags := 1537
  interfaces := #[]
  cf := some (fileOf pool13 2 #[] #[] 1537 4 #[] #[])
  fields := #[]
  methods := #[]
  instanceTypes := #[]
  staticTypes := #[]
  resolved := Array.replicate 8 none
  statics := none }

/-- the primitive byte -/
def k14 : Class := { plain "byte" none with kind := .primitive 'B', accessFlags := 0x411 }
/-- [B -/
def k15 : Class := { plain "[B" (some 0) with kind := .array 14 .byte, interfaces := #[13, 2], accessFlags := 1041 }

/-- the primitive char -/
def k16 : Class := { plain "char" none with kind := .primitive 'C', accessFlags := 0x411 }
/-- [C -/
def k17 : Class := { plain "[C" (some 0) with kind := .array 16 .char, interfaces := #[13, 2], accessFlags := 1041 }

/-- the primitive int -/
def k18 : Class := { plain "int" none with kind := .primitive 'I', accessFlags := 0x411 }
/-- [I -/
def k19 : Class := { plain "[I" (some 0) with kind := .array 18 .int, interfaces := #[13, 2], accessFlags := 1041 }

def heap : Heap := #[{ cls := 7, slots := #[.long 0, .int 1, .null, .int 0, .null, .int 0, .int 0], vm := .statics 7 },
  { cls := 9, slots := #[.int 0, .int 8, .int 0, .int 1], vm := .statics 9 },
  { cls := 11, slots := #[.null, .null, .null], vm := .statics 11 }]
def classes : Array Class := #[k0, k1, k2, k3, k4, k5, k6, k7, k8, k9, k10, k11, k12, k13, k14, k15, k16, k17, k18, k19]
def interned : List (Array UInt16 × Addr) := []
def slotsUsed : Nat := 14
def theMethod : MethodId := ⟨1, 2⟩
def args0 : Array Value := #[.int 1, .int 65, .int 66, .int 67]
def aboutOver (below : List Frame) : State where
  vm := { classes := classes, interned := interned.toArray }
  heap := heap
  slotsUsed := slotsUsed
  threads := #[{ frames := .invoking theMethod args0 :: below }]
def below0 : List Frame := [.native { method := ⟨0, 0⟩, args := #[] }]
def about1 : State := aboutOver below0
def p0 : Program := .bare "" "" ""
def e0 : Env := launch0.env 0 0 0
theorem w_frames : about1.frames = Frame.invoking theMethod args0 :: below0 := rfl
set_option maxRecDepth 65536 in
theorem w_args : argsFit about1.vm theMethod args0 = true := by decide +kernel
set_option maxRecDepth 65536 in
theorem w_heap : heapFits about1 = true := by decide +kernel
set_option maxRecDepth 65536 in
theorem w_runnable : about1.curStatus? = some .runnable := by decide +kernel
set_option maxRecDepth 65536 in
theorem w_alone : about1.alone = true := by decide +kernel
set_option maxRecDepth 65536 in
theorem w_named : about1.methodNamed? x = some theMethod := by decide +kernel
set_option maxRecDepth 65536 in
theorem w_hears : about1.hears theMethod below0 = true := by decide +kernel
set_option maxRecDepth 65536 in
theorem w_ripe : about1.ripe theMethod args0 below0 = true := by decide +kernel
theorem w_running : about1.status = .running := rfl
set_option maxRecDepth 65536 in
theorem w_room : about1.hasRoom e0.platform room_1 = true :=
  launch0.hasRoom_least _ room_1 (by decide +kernel) (by decide +kernel) (by decide +kernel) (by decide +kernel) (by decide +kernel) (by decide +kernel)
theorem allAtoms_all (ts : List Jvm.Cond) (a : Array Jvm.Value) (st : Jvm.State) : (allAtoms ts).before a st = ts.all (fun c => c.before a st) := by
  induction ts with
  | nil => rfl
  | cons c t ih =>
    show (Jvm.Cond.and c (allAtoms t)).before a st = _
    rw [Jvm.Cond.before_and, ih, List.all_cons]
def words1 : List Jvm.Cond := Jvm.Cond.code x code maxLocals ret :: tables_1
/-- a 'code' word, met by the world's own term for the bytes: nothing is compared byte by byte -/
theorem code_word {y : MethodName} {bytes : ByteArray} {mx : Nat} {rt : Option FieldType} {a : Array Value} {s : State} {m : MethodId} {meth : Method} {c : Code} (h1 : s.methodNamed? y = some m) (h2 : s.vm.method? m = some meth) (h3 : meth.code = some c) (h4 : c.code = bytes)
    (h5 : (c.maxLocals == mx && c.exceptionTable.isEmpty && decide (c.maxStack ≤ mostOperands) && decide (meth.sig.returnType = rt) && !meth.locks && decide (parseMethodDescriptor y.desc = some meth.sig)) = true) : (Jvm.Cond.code y bytes mx rt).before a s = true := by
  simp only [Bool.and_eq_true, beq_iff_eq, Bool.not_eq_true', decide_eq_true_eq] at h5
  obtain ⟨⟨⟨⟨⟨g1, g2⟩, g3⟩, g4⟩, g5⟩, g6⟩ := h5
  simp [Cond.before, Cond.holds, Cond.value, h1, h2, h3, h4, g1, g2, g3, g4, g5, g6]
def isCode : Jvm.Cond → Bool
  | .code _ _ _ _ => true
  | _ => false
theorem all_split {L : List Jvm.Cond} {P : Jvm.Cond → Bool} (h1 : L.all (fun c => isCode c || P c) = true) (h2 : ∀ c ∈ L.filter isCode, P c = true) : L.all P = true := by
  refine List.all_eq_true.mpr fun c hc => ?_
  have h := List.all_eq_true.mp h1 c hc
  rcases Bool.eq_false_or_eq_true (isCode c) with hi | hi
  · exact h2 c (List.mem_filter.mpr ⟨hc, hi⟩)
  · simpa [hi] using h
set_option maxRecDepth 65536 in
theorem w_c0 : (Jvm.Cond.code x code maxLocals ret).before args0 about1 = true := code_word (m := ⟨1, 2⟩) (meth := k1m2) (c := k1c2) (by decide +kernel) rfl rfl rfl (by decide +kernel)
set_option maxRecDepth 65536 in
theorem w_c1 : (Jvm.Cond.code ({ cls := "com/example/humble_issuer/humbleissuer/web/QueryParametersLeftOutIfEmptyPinLaw", name := "build", desc := "(ICCC)Ljava/lang/String;" } : Jvm.MethodName) method_2_code (4 : Nat) (Option.some (Jvm.ClassFile.FieldType.object "java/lang/String"))).before args0 about1 = true := code_word (m := ⟨1, 1⟩) (meth := k1m1) (c := k1c1) (by decide +kernel) rfl rfl rfl (by decide +kernel)
set_option maxRecDepth 65536 in
theorem w_c2 : (Jvm.Cond.code ({ cls := "java/lang/String", name := "<init>", desc := "([C)V" } : Jvm.MethodName) jdk_42_method_3_code (2 : Nat) (Option.none : Option Jvm.ClassFile.FieldType)).before args0 about1 = true := code_word (m := ⟨7, 1⟩) (meth := k7m1) (c := k7c1) (by decide +kernel) rfl rfl rfl (by decide +kernel)
set_option maxRecDepth 65536 in
theorem w_c3 : (Jvm.Cond.code ({ cls := "java/lang/String", name := "<init>", desc := "([CIILjava/lang/Void;)V" } : Jvm.MethodName) jdk_42_method_149_code (6 : Nat) (Option.none : Option Jvm.ClassFile.FieldType)).before args0 about1 = true := code_word (m := ⟨7, 4⟩) (meth := k7m4) (c := k7c4) (by decide +kernel) rfl rfl rfl (by decide +kernel)
set_option maxRecDepth 65536 in
theorem w_c4 : (Jvm.Cond.code ({ cls := "java/lang/Object", name := "<init>", desc := "()V" } : Jvm.MethodName) object_method_1_code (1 : Nat) (Option.none : Option Jvm.ClassFile.FieldType)).before args0 about1 = true := code_word (m := ⟨0, 0⟩) (meth := k0m0) (c := k0c0) (by decide +kernel) rfl rfl rfl (by decide +kernel)
set_option maxRecDepth 65536 in
theorem w_c5 : (Jvm.Cond.code ({ cls := "com/example/humble_issuer/humbleissuer/web/QueryParameters", name := "leftOutIfEmpty", desc := "(Ljava/lang/String;)Ljava/lang/String;" } : Jvm.MethodName) prog_11_method_2_code (1 : Nat) (Option.some (Jvm.ClassFile.FieldType.object "java/lang/String"))).before args0 about1 = true := code_word (m := ⟨8, 1⟩) (meth := k8m1) (c := k8c1) (by decide +kernel) rfl rfl rfl (by decide +kernel)
set_option maxRecDepth 65536 in
theorem w_c6 : (Jvm.Cond.code ({ cls := "java/lang/String", name := "isEmpty", desc := "()Z" } : Jvm.MethodName) jdk_42_method_55_code (1 : Nat) (Option.some Jvm.ClassFile.FieldType.boolean)).before args0 about1 = true := code_word (m := ⟨7, 2⟩) (meth := k7m2) (c := k7c2) (by decide +kernel) rfl rfl rfl (by decide +kernel)
set_option maxRecDepth 65536 in
theorem w_c7 : (Jvm.Cond.code ({ cls := "java/lang/StringUTF16", name := "compress", desc := "([CII)[B" } : Jvm.MethodName) jdk_52_method_16_code (6 : Nat) (Option.some (Jvm.ClassFile.FieldType.array Jvm.ClassFile.FieldType.byte))).before args0 about1 = true := code_word (m := ⟨9, 7⟩) (meth := k9m7) (c := k9c7) (by decide +kernel) rfl rfl rfl (by decide +kernel)
set_option maxRecDepth 65536 in
theorem w_c8 : (Jvm.Cond.code ({ cls := "java/lang/StringUTF16", name := "compress", desc := "([CI[BII)I" } : Jvm.MethodName) jdk_52_method_21_code (7 : Nat) (Option.some Jvm.ClassFile.FieldType.int)).before args0 about1 = true := code_word (m := ⟨9, 8⟩) (meth := k9m8) (c := k9c8) (by decide +kernel) rfl rfl rfl (by decide +kernel)
set_option maxRecDepth 65536 in
theorem w_c9 : (Jvm.Cond.code ({ cls := "java/lang/StringUTF16", name := "toBytes", desc := "([CII)[B" } : Jvm.MethodName) jdk_52_method_14_code (5 : Nat) (Option.some (Jvm.ClassFile.FieldType.array Jvm.ClassFile.FieldType.byte))).before args0 about1 = true := code_word (m := ⟨9, 5⟩) (meth := k9m5) (c := k9c5) (by decide +kernel) rfl rfl rfl (by decide +kernel)
set_option maxRecDepth 65536 in
theorem w_c10 : (Jvm.Cond.code ({ cls := "java/lang/StringUTF16", name := "newBytesFor", desc := "(I)[B" } : Jvm.MethodName) jdk_52_method_2_code (1 : Nat) (Option.some (Jvm.ClassFile.FieldType.array Jvm.ClassFile.FieldType.byte))).before args0 about1 = true := code_word (m := ⟨9, 1⟩) (meth := k9m1) (c := k9c1) (by decide +kernel) rfl rfl rfl (by decide +kernel)
set_option maxRecDepth 65536 in
theorem w_c11 : (Jvm.Cond.code ({ cls := "java/lang/StringUTF16", name := "newBytesLength", desc := "(I)I" } : Jvm.MethodName) jdk_52_method_3_code (1 : Nat) (Option.some Jvm.ClassFile.FieldType.int)).before args0 about1 = true := code_word (m := ⟨9, 2⟩) (meth := k9m2) (c := k9c2) (by decide +kernel) rfl rfl rfl (by decide +kernel)
set_option maxRecDepth 65536 in
theorem w_c12 : (Jvm.Cond.code ({ cls := "java/lang/StringUTF16", name := "putChar", desc := "([BII)V" } : Jvm.MethodName) jdk_52_method_4_code (3 : Nat) (Option.none : Option Jvm.ClassFile.FieldType)).before args0 about1 = true := code_word (m := ⟨9, 3⟩) (meth := k9m3) (c := k9c3) (by decide +kernel) rfl rfl rfl (by decide +kernel)
set_option maxRecDepth 65536 in
theorem w_c13 : (Jvm.Cond.code ({ cls := "java/lang/StringUTF16", name := "getChar", desc := "([BI)C" } : Jvm.MethodName) jdk_52_method_5_code (2 : Nat) (Option.some Jvm.ClassFile.FieldType.char)).before args0 about1 = true := code_word (m := ⟨9, 4⟩) (meth := k9m4) (c := k9c4) (by decide +kernel) rfl rfl rfl (by decide +kernel)
set_option maxRecDepth 65536 in
theorem w_c14 : (Jvm.Cond.code ({ cls := "java/lang/StringUTF16", name := "coderFromArrayLen", desc := "([BI)B" } : Jvm.MethodName) jdk_52_method_15_code (2 : Nat) (Option.some Jvm.ClassFile.FieldType.byte)).before args0 about1 = true := code_word (m := ⟨9, 6⟩) (meth := k9m6) (c := k9c6) (by decide +kernel) rfl rfl rfl (by decide +kernel)
set_option maxRecDepth 65536 in
theorem w_c15 : (Jvm.Cond.code ({ cls := "java/lang/String", name := "equals", desc := "(Ljava/lang/Object;)Z" } : Jvm.MethodName) jdk_42_method_66_code (3 : Nat) (Option.some Jvm.ClassFile.FieldType.boolean)).before args0 about1 = true := code_word (m := ⟨7, 3⟩) (meth := k7m3) (c := k7c3) (by decide +kernel) rfl rfl rfl (by decide +kernel)
def codes1 : List Jvm.Cond := [Jvm.Cond.code x code maxLocals ret, Jvm.Cond.code ({ cls := "com/example/humble_issuer/humbleissuer/web/QueryParametersLeftOutIfEmptyPinLaw", name := "build", desc := "(ICCC)Ljava/lang/String;" } : Jvm.MethodName) method_2_code (4 : Nat) (Option.some (Jvm.ClassFile.FieldType.object "java/lang/String")), Jvm.Cond.code ({ cls := "java/lang/String", name := "<init>", desc := "([C)V" } : Jvm.MethodName) jdk_42_method_3_code (2 : Nat) (Option.none : Option Jvm.ClassFile.FieldType), Jvm.Cond.code ({ cls := "java/lang/String", name := "<init>", desc := "([CIILjava/lang/Void;)V" } : Jvm.MethodName) jdk_42_method_149_code (6 : Nat) (Option.none : Option Jvm.ClassFile.FieldType), Jvm.Cond.code ({ cls := "java/lang/Object", name := "<init>", desc := "()V" } : Jvm.MethodName) object_method_1_code (1 : Nat) (Option.none : Option Jvm.ClassFile.FieldType), Jvm.Cond.code ({ cls := "com/example/humble_issuer/humbleissuer/web/QueryParameters", name := "leftOutIfEmpty", desc := "(Ljava/lang/String;)Ljava/lang/String;" } : Jvm.MethodName) prog_11_method_2_code (1 : Nat) (Option.some (Jvm.ClassFile.FieldType.object "java/lang/String")), Jvm.Cond.code ({ cls := "java/lang/String", name := "isEmpty", desc := "()Z" } : Jvm.MethodName) jdk_42_method_55_code (1 : Nat) (Option.some Jvm.ClassFile.FieldType.boolean), Jvm.Cond.code ({ cls := "java/lang/StringUTF16", name := "compress", desc := "([CII)[B" } : Jvm.MethodName) jdk_52_method_16_code (6 : Nat) (Option.some (Jvm.ClassFile.FieldType.array Jvm.ClassFile.FieldType.byte)), Jvm.Cond.code ({ cls := "java/lang/StringUTF16", name := "compress", desc := "([CI[BII)I" } : Jvm.MethodName) jdk_52_method_21_code (7 : Nat) (Option.some Jvm.ClassFile.FieldType.int), Jvm.Cond.code ({ cls := "java/lang/StringUTF16", name := "toBytes", desc := "([CII)[B" } : Jvm.MethodName) jdk_52_method_14_code (5 : Nat) (Option.some (Jvm.ClassFile.FieldType.array Jvm.ClassFile.FieldType.byte)), Jvm.Cond.code ({ cls := "java/lang/StringUTF16", name := "newBytesFor", desc := "(I)[B" } : Jvm.MethodName) jdk_52_method_2_code (1 : Nat) (Option.some (Jvm.ClassFile.FieldType.array Jvm.ClassFile.FieldType.byte)), Jvm.Cond.code ({ cls := "java/lang/StringUTF16", name := "newBytesLength", desc := "(I)I" } : Jvm.MethodName) jdk_52_method_3_code (1 : Nat) (Option.some Jvm.ClassFile.FieldType.int), Jvm.Cond.code ({ cls := "java/lang/StringUTF16", name := "putChar", desc := "([BII)V" } : Jvm.MethodName) jdk_52_method_4_code (3 : Nat) (Option.none : Option Jvm.ClassFile.FieldType), Jvm.Cond.code ({ cls := "java/lang/StringUTF16", name := "getChar", desc := "([BI)C" } : Jvm.MethodName) jdk_52_method_5_code (2 : Nat) (Option.some Jvm.ClassFile.FieldType.char), Jvm.Cond.code ({ cls := "java/lang/StringUTF16", name := "coderFromArrayLen", desc := "([BI)B" } : Jvm.MethodName) jdk_52_method_15_code (2 : Nat) (Option.some Jvm.ClassFile.FieldType.byte), Jvm.Cond.code ({ cls := "java/lang/String", name := "equals", desc := "(Ljava/lang/Object;)Z" } : Jvm.MethodName) jdk_42_method_66_code (3 : Nat) (Option.some Jvm.ClassFile.FieldType.boolean)]
set_option maxRecDepth 65536 in
theorem codes_eq : words1.filter isCode = codes1 := rfl
theorem w_codes : ∀ c ∈ words1.filter isCode, c.before args0 about1 = true := by
  rw [codes_eq]
  intro c hc
  simp only [codes1, List.mem_cons, List.not_mem_nil, or_false] at hc
  rcases hc with rfl | rfl | rfl | rfl | rfl | rfl | rfl | rfl | rfl | rfl | rfl | rfl | rfl | rfl | rfl | rfl
  · exact w_c0
  · exact w_c1
  · exact w_c2
  · exact w_c3
  · exact w_c4
  · exact w_c5
  · exact w_c6
  · exact w_c7
  · exact w_c8
  · exact w_c9
  · exact w_c10
  · exact w_c11
  · exact w_c12
  · exact w_c13
  · exact w_c14
  · exact w_c15
set_option maxRecDepth 65536 in
theorem w_t1 : (words1.take 24).all (fun c => isCode c || c.before args0 about1) = true := by decide +kernel
set_option maxRecDepth 65536 in
theorem w_t2 : ((words1.drop 24).take 24).all (fun c => isCode c || c.before args0 about1) = true := by decide +kernel
set_option maxRecDepth 65536 in
theorem w_t3 : ((words1.drop 24).drop 24).all (fun c => isCode c || c.before args0 about1) = true := by decide +kernel
theorem w_tables : (allAtoms (Jvm.Cond.code x code maxLocals ret :: tables_1)).before args0 about1 = true := by
  rw [allAtoms_all]
  show words1.all (fun c => c.before args0 about1) = true
  refine all_split ?_ w_codes
  rw [← List.take_append_drop 24 words1, List.all_append, w_t1, ← List.take_append_drop 24 (words1.drop 24), List.all_append, w_t2, w_t3]
  rfl
set_option maxRecDepth 65536 in
theorem w_rest : rest_1_c.before args0 about1 = true := by decide +kernel
set_option maxRecDepth 65536 in
theorem w_case : (Jvm.Cond.and given_1 narrow_1).before args0 about1 = true := by decide +kernel
set_option maxRecDepth 65536 in
theorem w_consts : constsHeld consts_1 about1 := Jvm.Lit.constsHeldB_iff.mp (by decide +kernel)
theorem w_applies : (headSpec (Jvm.Cond.code x code maxLocals ret :: tables_1) room_1).applies x e0.platform about1 = true :=
  (Spec.applies_iff w_frames).mpr ⟨w_running, w_runnable, w_alone, w_named, w_hears, w_ripe, w_room, w_tables⟩
theorem atStart : AtStart classFile x code maxLocals ret World_1 tables_1 room_1 Calls_1 rest_1 Pre_1 launch0 p0 e0 about1 theMethod args0 below0 :=
  ⟨lists_1, trivial, launch0.admits_env _ _ _, launch0.least_env, fairChoices_fair.cas, fairChoices_fair.clock, w_frames, w_args, w_heap, w_applies, ⟨w_consts, trivial⟩, w_rest, w_case⟩
end start1
theorem witness_1 : WitnessClaimed_1 := ⟨start1.p0, start1.e0, start1.about1, start1.theMethod, start1.args0, start1.below0, start1.atStart⟩
end Jvm.Pilot.@@N@@
